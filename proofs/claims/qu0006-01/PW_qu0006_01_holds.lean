import PyProof.Rows.All
import Wide.All
import OpenK.AllK
import Wide.FinOn
import PySem.Challenge.RW_qu0006_01
open PySem PySem.W PyProof.Rows
set_option Elab.async false
set_option maxRecDepth 100000
set_option maxHeartbeats 8000000
set_option linter.unusedVariables false
set_option linter.unusedSimpArgs false
set_option linter.unusedSectionVars false
namespace Mine
open_top hd for PySem.Challenge.rw_qu0006_01
end Mine
namespace Mine
/-- the body of a def of the text, by its place -/
def bodyOf : Stmt → List Stmt
  | .FunctionDef _ _ b _ _ _ _ _ _ _ => b
  | .For _ _ b _ _ => b
  | .While _ b _ _ => b
  | .If _ b _ _ => b
  | _ => []
def scopeOf : Stmt → Option Scope
  | .FunctionDef _ _ _ _ _ _ sc _ _ _ => some sc
  | _ => none
def nth : List Stmt → Nat → Stmt
  | [], _ => .Pass ⟨0, 0, 0, 0⟩
  | x :: _, 0 => x
  | _ :: r, n + 1 => nth r n
abbrev prog : Program := PySem.Challenge.rw_qu0006_01.row.prog
def defAt (n : Nat) : Stmt := nth PySem.Challenge.pw_qu0006_01.main.body n
def lawB : List Stmt := bodyOf (defAt 12)
def scopeAt (n : Nat) : Scope := (scopeOf (defAt n)).getD default
end Mine
namespace Mine
open PySem.Spec
/-- no exception -/
abbrev NoE : Value → Shared → Prop := fun _ _ => False
def Has (m : Str → Option Value) (ps : List (Str × Value)) : Prop := ∀ p ∈ ps, m p.1 = some p.2
theorem has_fr {h₀ h : Heap} {L : Addr} {m : Str → Option Value} {ps : List (Str × Value)} (F : Fr h₀ L h m) (H : Has m ps) : Fr h₀ L h (kstB m ps) := by
  have e : kstB m ps = m := funext fun z => kstB_eq H fun _ => rfl
  rw [e]; exact F
theorem has_nil {m : Str → Option Value} : Has m [] := fun _ hp => nomatch hp
theorem has_cons {m : Str → Option Value} {x : Str} {v : Value} {ps : List (Str × Value)} (h : m x = some v) (H : Has m ps) : Has m ((x, v) :: ps) := fun p hp => by
  rcases List.mem_cons.mp hp with rfl | hp
  · exact h
  · exact H p hp
theorem news_mv {h₀ h : Heap} {L : Addr} {p : Addr × Obj} {l r : List (Addr × Obj)} (N : News h₀ L h (p :: (l ++ r))) : News h₀ L h (l ++ p :: r) := fun q hq => N q (by
  rcases List.mem_append.mp hq with h | h
  · exact .tail _ (List.mem_append.mpr (.inl h))
  · rcases List.mem_cons.mp h with rfl | h
    · exact .head _
    · exact .tail _ (List.mem_append.mpr (.inr h)))
theorem news_vm {h₀ h : Heap} {L : Addr} {p : Addr × Obj} {l r : List (Addr × Obj)} (N : News h₀ L h (l ++ p :: r)) : News h₀ L h (p :: (l ++ r)) := fun q hq => N q (by
  rcases List.mem_cons.mp hq with rfl | h
  · exact List.mem_append.mpr (.inr (.head _))
  · rcases List.mem_append.mp h with h | h
    · exact List.mem_append.mpr (.inl h)
    · exact List.mem_append.mpr (.inr (.tail _ h)))
theorem news_sub {h₀ h : Heap} {L : Addr} {l l' : List (Addr × Obj)} (N : News h₀ L h l) (hs : ∀ p ∈ l', p ∈ l) : News h₀ L h l' := fun p hp => N p (hs p hp)
theorem off_cons {p : Addr × Obj} {r : List (Addr × Obj)} {l : List Addr} (h1 : ∀ b ∈ l, p.1 ≠ b) (h2 : OwnOff r l) : OwnOff (p :: r) l := fun q hq => by
  rcases List.mem_cons.mp hq with rfl | hq
  · exact h1
  · exact h2 q hq
theorem off_sub {r : List (Addr × Obj)} {l l' : List Addr} (h : OwnOff r l) (hs : ∀ b ∈ l', b ∈ l) : OwnOff r l' := fun q hq b hb => h q hq b (hs b hb)
theorem has_off {m m' : Str → Option Value} {x : Str} {ps : List (Str × Value)} (H : Has m ps) (hm : ∀ z, z ≠ x → m' z = m z) (hx : (ps.map (·.1)).all (fun y => !(y == x)) = true) : Has m' ps := fun p hp => (hm _ (fun e => by
  have := List.all_eq_true.mp hx p.1 (List.mem_map_of_mem hp)
  rw [e] at this; simp at this)).trans (H p hp)
theorem news_keep {h₀ h : Heap} {L : Addr} {p : Addr × Obj} {l r : List (Addr × Obj)} (N : News h₀ L h (p :: l)) (hs : ∀ q ∈ r, q ∈ l) : News h₀ L h (p :: r) := fun q hq => N q (by
  rcases List.mem_cons.mp hq with rfl | h
  · exact .head _
  · exact .tail _ (hs q h))
theorem all_lt : ∀ {l : List (Addr × Obj)} {d : Addr}, AllLt d l → ∀ p ∈ l, p.1 < d
  | [], _, _, _, hp => nomatch hp
  | q :: _, _, ⟨a, b⟩, p, hp => (List.mem_cons.mp hp).elim (fun e => e ▸ a) (fun h => all_lt b p h)
/-- all names but these stand as they stood -/
def Keep (xs : List Str) (m' m : Str → Option Value) : Prop := ∀ z : Str, xs.contains z = false → m' z = m z
theorem Keep.refl {xs : List Str} {m : Str → Option Value} : Keep xs m m := fun _ _ => rfl
theorem Keep.trans {xs : List Str} {m₁ m₂ m₃ : Str → Option Value} (h : Keep xs m₁ m₂) (h' : Keep xs m₂ m₃) : Keep xs m₁ m₃ := fun z hz => (h z hz).trans (h' z hz)
theorem Keep.mono {xs ys : List Str} {m' m : Str → Option Value} (h : Keep xs m' m) (hs : xs.all (fun x => ys.contains x) = true) : Keep ys m' m := fun z hz => h z (by
  cases e : xs.contains z with
  | false => rfl
  | true =>
    have h1 : z ∈ xs := by simpa using e
    have h2 := List.all_eq_true.mp hs z h1
    rw [hz] at h2; cases h2)
theorem Has.keep {xs : List Str} {m' m : Str → Option Value} {ps : List (Str × Value)} (H : Has m ps) (K : Keep xs m' m) (hx : (ps.map (·.1)).all (fun y => !(xs.contains y)) = true) : Has m' ps := fun p hp => (K _ (by
  have := List.all_eq_true.mp hx p.1 (List.mem_map_of_mem hp)
  simpa using this)).trans (H p hp)
/-- a turn's end -/
def Turn (h₀ : Heap) (L : Addr) (Jn : (Str → Option Value) → List (Addr × Obj) → Prop) (p₀ : Addr × Obj) (s : Shared) (Q : Flow → Shared → Prop) (f : Flow) (s₂ : Shared) : Prop :=
  match f with
  | .ret v => Q (.ret v) s₂
  | .brk => Q .next s₂
  | _ => ∃ h' tk m' news', s₂ = { s with heap := h', toks := tk } ∧ Fr h₀ L h' m' ∧ News h₀ L h' (p₀ :: news') ∧ (∀ p ∈ news', p.1 ≠ p₀.1) ∧ Jn m' news'
section
variable {prog : Program} {w : World} {A : Around} {s : Shared} {env : Env} {h₀ : Heap} {Q : Flow → Shared → Prop} {target iter : Expr} {body : List Stmt} {pos : Pos}
theorem Turn.next {L : Addr} {Jn : (Str → Option Value) → List (Addr × Obj) → Prop} {p₀ : Addr × Obj} {h' : Heap} {tk : Nat} {m' : Str → Option Value} {news' : List (Addr × Obj)}
    (F : Fr h₀ L h' m') (N : News h₀ L h' (p₀ :: news')) (ha : ∀ p ∈ news', p.1 ≠ p₀.1) (hJ : Jn m' news') : Turn h₀ L Jn p₀ s Q .next { s with heap := h', toks := tk } :=
  ⟨h', tk, m', news', rfl, F, N, ha, hJ⟩

theorem for_ints {l : Addr} {vs : List Value} {ns : List Int} {nn : Nat} {m₀ : Str → Option Value} {news : List (Addr × Obj)} (J : Nat → (Str → Option Value) → List (Addr × Obj) → Prop)
    (hh : A.handled = none) (hl : (l, listOf vs.toArray nn) ∈ news) (hi : IntsAre vs ns) (F : Fr h₀ env.locals s.heap m₀) (N : News h₀ env.locals s.heap news) (hj : J 0 m₀ news)
    (keep : ∀ i m nx, J i m nx → (l, listOf vs.toArray nn) ∈ nx)
    (turn : ∀ i n t m₁ news₁ h tk it io, ns[i]? = some n → J i m₁ news₁ → (∀ p ∈ news₁, p.1 ≠ it) → Fr h₀ env.locals h m₁ → News h₀ env.locals h ((it, io) :: news₁) →
      wpAny (model prog w) A (assign target env (.int n t)) (fun _ s₃ => wpAny (model prog w) A (execs body env) (Turn h₀ env.locals (J (i + 1)) (it, io) s Q) NoE s₃) NoE { s with heap := h, toks := tk })
    (done : ∀ m' news' h' tk', J ns.length m' news' → Fr h₀ env.locals h' m' → News h₀ env.locals h' news' → Q .next { s with heap := h', toks := tk' }) :
    wpAny (model prog w) A (pyIter (.ref l)) (fun it s₂ => codeAny (model prog w) A (.forLoop target it body [] env) (fun r s' => match r with | .ok f => Q f s' | .error e => cameBackBy (model prog w) A env NoE e s') s₂) NoE s := by
  have hol : s.heap.get? l = some (listOf vs.toArray nn) := (N _ hl).1
  have hls : s.heap.IsList l vs.toArray := ⟨_, hol, rfl, nn, rfl⟩
  have hne : l ≠ s.heap.objs.size := Nat.ne_of_lt (Heap.lt_size hol)
  have hE : PassesOwn (model prog w) A env NoE := PassesOwn.never
  refine wpAny_pyIter_list hls ?_
  have W := Walks.list (prog := prog) (w := w) hh s.heap.objs.size l hne vs.toArray
  have hlen : vs.toArray.size = ns.length := by simp [hi.length]
  rw [hlen] at W
  generalize hI : s.heap.objs.size = I at W hne ⊢
  have hIL : env.locals ≠ I := by rw [← hI]; exact Nat.ne_of_lt F.ns.lt
  have hI0 : h₀.get? I = none := by rw [← hI]; exact next_is_new F
  refine codeAny_forLoop_any
    (fun k s' => ∃ h' tk m' news' i, s' = { s with heap := h', toks := tk } ∧ h'.IsListIter I l i ∧ Fr h₀ env.locals h' m' ∧ News h₀ env.locals h' news' ∧ (∀ p ∈ news', p.1 ≠ I) ∧ J i m' news' ∧ i ≤ ns.length ∧ k = ns.length + 1 - i) ?_ (ns.length + 1)
    ⟨_, s.toks, m₀, news, 0, rfl, ?_, F.push _, (fun p hp => ⟨Heap.get?_push_of_some _ (N p hp).1, (N p hp).2⟩), ?_, hj, Nat.zero_le _, rfl⟩
  · rintro k s' ⟨h', tk, m', news', i, rfl, hst', F', N', hnw', hJ, hin, rfl⟩
    have hlist : h'.IsList l vs.toArray := ⟨_, (N' _ (keep _ _ _ hJ)).1, rfl, nn, rfl⟩
    have next : ∀ h₁ : Heap, (∀ b o, b ∉ [I] → h'.get? b = some o → h₁.get? b = some o) → Fr h₀ env.locals h₁ m' ∧ News h₀ env.locals h₁ news' := fun h₁ hk₁ =>
      ⟨⟨F'.ns.at' fun o e => hk₁ _ o (by simpa using hIL) e, fun b o e => hk₁ b o (fun hb => by rw [List.mem_singleton.mp hb, hI0] at e; cases e) (F'.keep b o e), F'.above⟩,
        fun p hp => ⟨hk₁ _ _ (by simpa using hnw' p hp) (N' p hp).1, (N' p hp).2⟩⟩
    by_cases hlt : i < ns.length
    · refine W.item i _ _ _ hlt ⟨hst', hlist⟩ fun v h₁ tk₁ hP hst₁ hk₁ => ?_
      obtain ⟨F₁, N₁⟩ := next h₁ hk₁
      obtain ⟨t, hx⟩ := hi.get i ns[i] (by simp [hlt])
      have hv : v = .int ns[i] t := by
        have hP' : vs[i]? = some v := by simpa using hP
        rw [hx] at hP'; exact (Option.some.inj hP').symm
      subst hv
      obtain ⟨io, hio, hio'⟩ := id hst₁.1
      refine letGo_listiter hst₁.1 ?_
      have N₂ : News h₀ env.locals h₁ ((I, io) :: news') := fun p hp => by
        rcases List.mem_cons.mp hp with rfl | hp
        · exact ⟨hio, fun q => hIL q.symm, hI0⟩
        · exact N₁ p hp
      refine wpAny_passesOwn hE (wpAny_mono (turn i ns[i] t m' news' h₁ tk₁ I io (by simp [hlt]) hJ hnw' F₁ N₂) (fun _ s₂ h₂ => wpAny_passesOwn hE (wpAny_mono h₂ (fun f s₃ h₃ => ?_) fun _ _ e => e)) fun _ _ e => e)
      have fin : (∃ h' tk m' news', s₃ = { s with heap := h', toks := tk } ∧ Fr h₀ env.locals h' m' ∧ News h₀ env.locals h' ((I, io) :: news') ∧ (∀ p ∈ news', p.1 ≠ I) ∧ J (i + 1) m' news') →
          ∃ k', k' < ns.length + 1 - i ∧ ∃ h' tk m' news' i, s₃ = { s with heap := h', toks := tk } ∧ h'.IsListIter I l i ∧ Fr h₀ env.locals h' m' ∧ News h₀ env.locals h' news' ∧ (∀ p ∈ news', p.1 ≠ I) ∧ J i m' news' ∧ i ≤ ns.length ∧ k' = ns.length + 1 - i := by
        rintro ⟨H₃, tk₃, m₃, news₃, e₃, F₃, N₃, ha₃, hJ₃⟩
        refine ⟨ns.length + 1 - (i + 1), by omega, H₃, tk₃, m₃, news₃, i + 1, e₃, ⟨io, (N₃ _ (.head _)).1, hio'⟩, F₃, fun p hp => N₃ p (.tail _ hp), ha₃, hJ₃, hlt, rfl⟩
      cases f with
      | ret v => exact h₃
      | brk => exact h₃
      | next => exact fin h₃
      | cont => exact fin h₃
    · have hin' : i = ns.length := by omega
      subst hin'
      refine W.done _ _ _ ⟨hst', hlist⟩ fun h₁ tk₁ hk₁ => wpAny_execs_nil ?_
      obtain ⟨F₁, N₁⟩ := next h₁ hk₁
      exact done m' news' h₁ tk₁ hJ F₁ N₁
  · subst hI
    exact ⟨_, Heap.get?_push_size _ rfl, rfl, rfl⟩
  · intro p hp e
    exact absurd (Heap.lt_size (N p hp).1) (by rw [e, ← hI]; exact Nat.lt_irrefl _)

theorem for_range {x : Str} {px : Pos} {r : Addr} {b₀ : Int} {t₀ u₀ v₀ : Tok} {n : Nat} {m₀ : Str → Option Value} {news : List (Addr × Obj)} (J : Nat → (Str → Option Value) → List (Addr × Obj) → Prop)
    (hh : A.handled = none) (hr : IsRange s.heap r 0 b₀ 1 t₀ u₀ v₀) (hsmall : Builtin.Range.small 0 b₀ 1 = true) (hn : Builtin.Range.rangeSize 0 b₀ 1 = (n : Int)) (F : Fr h₀ env.locals s.heap m₀) (N : News h₀ env.locals s.heap news) (hj : J 0 m₀ news)
    (turn : ∀ i t m₁ news₁ h tk it io, i < n → J i m₁ news₁ → (∀ p ∈ news₁, p.1 ≠ it) → Fr h₀ env.locals h m₁ → News h₀ env.locals h ((it, io) :: news₁) →
      wpAny (model prog w) A (assign (.Name x px) env (.int (i : Int) t)) (fun _ s₃ => wpAny (model prog w) A (execs body env) (Turn h₀ env.locals (J (i + 1)) (it, io) s Q) NoE s₃) NoE { s with heap := h, toks := tk })
    (done : ∀ m' news' h' tk', J n m' news' → Fr h₀ env.locals h' m' → News h₀ env.locals h' news' → Q .next { s with heap := h', toks := tk' }) :
    wpAny (model prog w) A (pyIter (.ref r)) (fun it s₂ => codeAny (model prog w) A (.forLoop (.Name x px) it body [] env) (fun r s' => match r with | .ok f => Q f s' | .error e => cameBackBy (model prog w) A env NoE e s') s₂) NoE s := by
  have hE : PassesOwn (model prog w) A env NoE := PassesOwn.never
  refine wpAny_pyIter_range hr hsmall ?_
  have W := Walks.range (prog := prog) (w := w) hh s.heap.objs.size 0 1 n
  have hst0 : IsRangeIter (s.heap.push { cls := .type "range_iterator", data := .fields #[rawInt 0, rawInt (Builtin.Range.rangeSize 0 b₀ 1), rawInt 1] }) s.heap.objs.size (0 + ((0 : Nat) : Int) * 1) ((n : Int) - ((0 : Nat) : Int)) 1 := by
    show IsRangeIter _ _ _ _ _
    rw [hn]; simpa using Heap.get?_push_size _ rfl
  generalize hI : s.heap.objs.size = I at W hst0 ⊢
  have hIL : env.locals ≠ I := by rw [← hI]; exact Nat.ne_of_lt F.ns.lt
  have hI0 : h₀.get? I = none := by rw [← hI]; exact next_is_new F
  refine codeAny_forLoop
    (fun k s' => ∃ h' tk m' news' i, s' = { s with heap := h', toks := tk } ∧ IsRangeIter h' I (0 + (i : Nat) * 1) ((n : Int) - (i : Nat)) 1 ∧ Fr h₀ env.locals h' m' ∧ News h₀ env.locals h' news' ∧ (∀ p ∈ news', p.1 ≠ I) ∧ J i m' news' ∧ i ≤ n ∧ k = n + 1 - i) ?_ (n + 1)
    ⟨_, s.toks, m₀, news, 0, rfl, hst0, F.push _, (fun p hp => ⟨Heap.get?_push_of_some _ (N p hp).1, (N p hp).2⟩), ?_, hj, Nat.zero_le _, rfl⟩
  · rintro k s' ⟨h', tk, m', news', i, rfl, hst', F', N', hnw', hJ, hin, rfl⟩
    have next : ∀ h₁ : Heap, (∀ b o, b ∉ [I] → h'.get? b = some o → h₁.get? b = some o) → Fr h₀ env.locals h₁ m' ∧ News h₀ env.locals h₁ news' := fun h₁ hk₁ =>
      ⟨⟨F'.ns.at' fun o e => hk₁ _ o (by simpa using hIL) e, fun b o e => hk₁ b o (fun hb => by rw [List.mem_singleton.mp hb, hI0] at e; cases e) (F'.keep b o e), F'.above⟩,
        fun p hp => ⟨hk₁ _ _ (by simpa using hnw' p hp) (N' p hp).1, (N' p hp).2⟩⟩
    by_cases hlt : i < n
    · refine W.item i _ _ _ hlt hst' fun v h₁ tk₁ hP hst₁ hk₁ => ?_
      obtain ⟨F₁, N₁⟩ := next h₁ hk₁
      obtain ⟨t, rfl⟩ := hP
      have ei : (0 : Int) + (i : Int) * 1 = (i : Int) := by omega
      rw [ei]
      obtain ⟨io, hio, hio'⟩ : ∃ io, h₁.get? I = some io ∧ ∀ h' : Heap, h'.get? I = some io → IsRangeIter h' I (0 + ((i + 1 : Nat) : Int) * 1) ((n : Int) - ((i + 1 : Nat) : Int)) 1 := ⟨_, hst₁, fun _ e => e⟩
      have N₂ : News h₀ env.locals h₁ ((I, io) :: news') := fun p hp => by
        rcases List.mem_cons.mp hp with rfl | hp
        · exact ⟨hio, fun q => hIL q.symm, hI0⟩
        · exact N₁ p hp
      refine wpAny_passesOwn hE (wpAny_mono (turn i t m' news' h₁ tk₁ I io hlt hJ hnw' F₁ N₂) (fun _ s₂ h₂ => wpAny_passesOwn hE (wpAny_mono h₂ (fun f s₃ h₃ => ?_) fun _ _ e => e)) fun _ _ e => e)
      have fin : (∃ h' tk m' news', s₃ = { s with heap := h', toks := tk } ∧ Fr h₀ env.locals h' m' ∧ News h₀ env.locals h' ((I, io) :: news') ∧ (∀ p ∈ news', p.1 ≠ I) ∧ J (i + 1) m' news') →
          ∃ k', k' < n + 1 - i ∧ ∃ h' tk m' news' i, s₃ = { s with heap := h', toks := tk } ∧ IsRangeIter h' I (0 + (i : Nat) * 1) ((n : Int) - (i : Nat)) 1 ∧ Fr h₀ env.locals h' m' ∧ News h₀ env.locals h' news' ∧ (∀ p ∈ news', p.1 ≠ I) ∧ J i m' news' ∧ i ≤ n ∧ k' = n + 1 - i := by
        rintro ⟨H₃, tk₃, m₃, news₃, e₃, F₃, N₃, ha₃, hJ₃⟩
        refine ⟨n + 1 - (i + 1), by omega, H₃, tk₃, m₃, news₃, i + 1, e₃, hio' _ (N₃ _ (.head _)).1, F₃, fun p hp => N₃ p (.tail _ hp), ha₃, hJ₃, hlt, rfl⟩
      cases f with
      | ret v => exact h₃
      | brk => exact h₃
      | next => exact fin h₃
      | cont => exact fin h₃
    · have hin' : i = n := by omega
      subst hin'
      refine W.done _ _ _ hst' fun h₁ tk₁ hk₁ => wpAny_execs_nil ?_
      obtain ⟨F₁, N₁⟩ := next h₁ hk₁
      exact done m' news' h₁ tk₁ hJ F₁ N₁
  · intro p hp e
    exact absurd (Heap.lt_size (N p hp).1) (by rw [e, ← hI]; exact Nat.lt_irrefl _)

theorem while_rule {test : Expr} (I : Nat → Shared → Prop)
    (turn : ∀ n s, I n s → wpAny (model prog w) A (isTrue test env (eval test env)) (fun b s₂ => if b = true then wpAny (model prog w) A (execs body env) (fun f s₃ => f = .next ∧ ∃ k, k < n ∧ I k s₃) NoE s₂ else Q .next s₂) NoE s)
    (n : Nat) (h : I n s) : wpAny (model prog w) A (exec (.While test body [] pos) env) Q NoE s := by
  have hE : PassesOwn (model prog w) A env NoE := PassesOwn.never
  refine wpAny_While (codeAny_whileLoop I (fun n s hI => ?_) n h)
  refine wpAny_passesOwn hE (wpAny_mono (turn n s hI) (fun b s₂ h₂ => ?_) fun _ _ e => e)
  cases b with
  | true =>
    simp only [if_true] at h₂ ⊢
    refine wpAny_passesOwn hE (wpAny_mono h₂ (fun f s₃ h₃ => ?_) fun _ _ e => e)
    obtain ⟨rfl, h₃⟩ := h₃
    exact h₃
  | false =>
    simp only [Bool.false_eq_true, if_false] at h₂ ⊢
    exact wpAny_execs_nil h₂
end
end Mine
namespace Mine
/-- one step of the clearing -/
def clr1 (a b : Int) : Int := if Int.fmod (Int.fdiv a (2 ^ ((Builtin.Int.intBits b : Int) - 1).toNat)) 2 = 1 then Builtin.bitXor a b else a
/-- one turn of the basis' loop: the basis, the cleared -/
def elim1 (st : List Int × List Int) (n : Int) : List Int × List Int :=
  if st.2.foldl clr1 (n.fmod 16) = 0 then st else (st.1 ++ [n.fmod 16], st.2 ++ [st.2.foldl clr1 (n.fmod 16)])
theorem take_fold {α : Type} {f : α → Int → α} {a : α} {ns : List Int} {i : Nat} {n : Int} (h : ns[i]? = some n) : (ns.take (i + 1)).foldl f a = f ((ns.take i).foldl f a) n := by
  rw [List.take_add_one, h]; simp
theorem fin16 {P : Int → Prop} (h : ∀ k : Fin 16, P (k.val : Int)) {a : Int} (h0 : 0 ≤ a) (h1 : a < 16) : P a := by
  have := h ⟨a.toNat, by omega⟩
  simpa [Int.toNat_of_nonneg h0] using this
theorem clr1_fin : ∀ a b : Fin 16, 0 ≤ clr1 (a.val : Int) (b.val : Int) ∧ clr1 (a.val : Int) (b.val : Int) < 16 := by decide +kernel
theorem clr1_in {a b : Int} (a0 : 0 ≤ a) (a1 : a < 16) (b0 : 0 ≤ b) (b1 : b < 16) : 0 ≤ clr1 a b ∧ clr1 a b < 16 :=
  fin16 (P := fun a => 0 ≤ clr1 a b ∧ clr1 a b < 16) (fun x => fin16 (P := fun b => 0 ≤ clr1 (x.val : Int) b ∧ clr1 (x.val : Int) b < 16) (clr1_fin x) b0 b1) a0 a1
theorem bits_fin : ∀ b : Fin 16, 1 ≤ (b.val : Int) → 1 ≤ Builtin.Int.intBits (b.val : Int) ∧ Builtin.Int.intBits (b.val : Int) ≤ 4 := by decide +kernel
theorem bits_in {b : Int} (b0 : 1 ≤ b) (b1 : b < 16) : 1 ≤ Builtin.Int.intBits b ∧ Builtin.Int.intBits b ≤ 4 :=
  fin16 (P := fun b => 1 ≤ b → 1 ≤ Builtin.Int.intBits b ∧ Builtin.Int.intBits b ≤ 4) bits_fin (by omega) b1 b0
theorem clr_in {cs : List Int} (hc : ∀ b ∈ cs, 1 ≤ b ∧ b < 16) : ∀ {a : Int}, 0 ≤ a → a < 16 → 0 ≤ cs.foldl clr1 a ∧ cs.foldl clr1 a < 16 := by
  induction cs with
  | nil => intro a h0 h1; exact ⟨h0, h1⟩
  | cons c r ih =>
    intro a h0 h1
    have hcc := hc c (.head _)
    have := clr1_in h0 h1 (by omega) hcc.2
    exact ih (fun b hb => hc b (.tail _ hb)) this.1 this.2
/-- what the loop keeps -/
def ElimOk (st : List Int × List Int) (i : Nat) : Prop := (∀ b ∈ st.2, 1 ≤ b ∧ b < 16) ∧ (∀ b ∈ st.1, 0 ≤ b ∧ b < 16) ∧ st.1.length ≤ i ∧ st.2.length ≤ i
theorem elim1_ok {st : List Int × List Int} {i : Nat} (h : ElimOk st i) (n : Int) : ElimOk (elim1 st n) (i + 1) := by
  obtain ⟨h1, h2, h3, h4⟩ := h
  have f := clr_in h1 (a := n.fmod 16) (Int.fmod_nonneg_of_pos _ (by decide)) (Int.fmod_lt_of_pos _ (by decide))
  unfold elim1
  split
  · exact ⟨h1, h2, by omega, by omega⟩
  · rename_i hne
    refine ⟨fun b hb => ?_, fun b hb => ?_, by simp; omega, by simp; omega⟩
    · rcases List.mem_append.mp hb with hb | hb
      · exact h1 b hb
      · rw [List.mem_singleton.mp hb]; omega
    · rcases List.mem_append.mp hb with hb | hb
      · exact h2 b hb
      · rw [List.mem_singleton.mp hb]; exact ⟨Int.fmod_nonneg_of_pos _ (by decide), Int.fmod_lt_of_pos _ (by decide)⟩
theorem elim_ok (ns : List Int) (i : Nat) (hi : i ≤ ns.length) : ElimOk ((ns.take i).foldl elim1 ([], [])) i := by
  induction i with
  | zero => exact ⟨by simp, by simp, by simp, by simp⟩
  | succ i ih =>
    have hn : ns[i]? = some (ns[i]'(by omega)) := by simp
    rw [take_fold hn]
    exact elim1_ok (ih (by omega)) _
end Mine
namespace Mine
section
variable {w : World} {h₀ : Heap} {mg mb : Str → Option Value} {mean : ExcName → Option Value} {fa L : Addr} {cd : Value} {s : Shared} {m : Str → Option Value} {Q : Flow → Shared → Prop}

theorem clear_loop {ox oy : Obj} {rest : List (Addr × Obj)} {ac : Addr} {vc : List Value} {cs : List Int} {nc : Nat} {x0 : Int} {tx : Tok} {vy : Option Value}
   (KX : (hd.heap_39 w.params).In h₀) (T : Top hd.view_39 (looseW hd.view_39 []) mean mg mb h₀) (K0 : Below callerA h₀ [] h₀)
   (F : Fr h₀ L s.heap m) (H : Has m [("cleared", .ref ac)]) (N : News h₀ L s.heap ((L+1+1, oy) :: (L+1, ox) :: rest)) (off : OwnOff rest [L+1+1, L+1])
   (hx : ox.data = .cell (some (.int x0 tx))) (hy : oy.data = .cell vy) (hc : (ac, listOf vc.toArray nc) ∈ rest) (hi : IntsAre vc cs)
   (hb : ∀ b ∈ cs, 1 ≤ Builtin.Int.intBits b ∧ Builtin.Int.intBits b ≤ 4)
   (h : ∀ h' tk' ox' oy' tx' vy', Fr h₀ L h' m → News h₀ L h' ((L+1+1, oy') :: (L+1, ox') :: rest) → ox'.data = .cell (some (.int (cs.foldl clr1 x0) tx')) → oy'.data = .cell vy' → Q .next { s with heap := h', toks := tk' }) :
   wpAny (model PySem.Challenge.rw_qu0006_01.row.prog w) (callerA.deeper (envOfC "law" (scopeAt 12) L fa cd)) (exec (nth (bodyOf (nth lawB 4)) 1) (envOfC "law" (scopeAt 12) L fa cd)) Q NoE s := by
  w_top off; revert KX; k_fill; intro KX
  conv in (occs := *) (scopeAt 12) => all_goals whnf
  conv in (nth _ _) => whnf
  have F0 := has_fr F H
  refine wpAny_For ?_
  walk1
  refine for_ints (ns := cs) (nn := nc) (news := (L+1+1, oy) :: (L+1, ox) :: rest) (fun i m' nx => m' = m ∧ ∃ ox' oy' tx' vy', nx = (L+1+1, oy') :: (L+1, ox') :: rest ∧ ox'.data = .cell (some (.int ((cs.take i).foldl clr1 x0) tx')) ∧ oy'.data = .cell vy')
    rfl (.tail _ (.tail _ hc)) hi F N ⟨rfl, ox, oy, tx, vy, rfl, hx, hy⟩ ?_ ?_ ?_
  · rintro i m' nx ⟨_, _, _, _, _, rfl, _⟩
    exact .tail _ (.tail _ hc)
  · rintro i n t m₁ news₁ h₁ tk it io hn ⟨rfl, ox, oy, tx, vy, rfl, hx, hy⟩ hit F N
    have b1 := hb n (List.mem_of_getElem? hn)
    have i1 : it ≠ L + 1 + 1 := fun e => hit _ (.head _) e.symm
    have i2 : it ≠ L + 1 := fun e => hit _ (.tail _ (.head _)) e.symm
    have i3 : ∀ p ∈ rest, p.1 ≠ it := fun p hp => hit p (.tail _ (.tail _ hp))
    k_steps
    · refine' Turn.next (by assumption) (by assumption) (List.forall_mem_cons.mpr ⟨i1.symm, List.forall_mem_cons.mpr ⟨i2.symm, i3⟩⟩) ⟨rfl, _, _, _, _, rfl, ?_, by assumption⟩
      rotate_left; rw [take_fold hn, clr1, if_pos (by assumption)]; assumption
    · refine' Turn.next (by assumption) (by assumption) (List.forall_mem_cons.mpr ⟨i1.symm, List.forall_mem_cons.mpr ⟨i2.symm, i3⟩⟩) ⟨rfl, _, _, _, _, rfl, ?_, by assumption⟩
      rotate_left; rw [take_fold hn, clr1, if_neg (by assumption)]; assumption
  · rintro m' news' h' tk' ⟨rfl, ox, oy, tx, vy, rfl, hx, hy⟩ F N
    rw [List.take_length] at hx
    exact h h' tk' ox oy tx vy F N hx hy
end
end Mine
namespace Mine
section
variable {w : World} {h₀ : Heap} {mg mb : Str → Option Value} {mean : ExcName → Option Value} {fa L : Addr} {cd : Value} {s : Shared} {m : Str → Option Value} {Q : Flow → Shared → Prop}

theorem a_st0 {ox oy : Obj} {rest : List (Addr × Obj)} {n : Int} {tn : Tok} {vx : Option Value}
   (KX : (hd.heap_39 w.params).In h₀) (T : Top hd.view_39 (looseW hd.view_39 []) mean mg mb h₀) (K0 : Below callerA h₀ [] h₀)
   (F : Fr h₀ L s.heap m) (H : Has m [("n", .int n tn)]) (N : News h₀ L s.heap ((L+1+1, oy) :: (L+1, ox) :: rest)) (off : OwnOff rest [L+1+1, L+1])
   (hx : ox.data = .cell vx)
   (h : ∀ h' tk' ox' tx', Fr h₀ L h' m → News h₀ L h' ((L+1+1, oy) :: (L+1, ox') :: rest) → ox'.data = .cell (some (.int (n.fmod 16) tx')) → Q .next { s with heap := h', toks := tk' }) :
   wpAny (model PySem.Challenge.rw_qu0006_01.row.prog w) (callerA.deeper (envOfC "law" (scopeAt 12) L fa cd)) (exec (nth (bodyOf (nth lawB 4)) 0) (envOfC "law" (scopeAt 12) L fa cd)) Q NoE s := by
  w_top off; revert KX; k_fill; intro KX
  conv in (occs := *) (scopeAt 12) => all_goals whnf
  conv in (nth _ _) => whnf
  have e : kstB m [("n", .int n tn)] = m := funext fun z => kstB_eq H fun _ => rfl
  replace F := has_fr F H
  k_steps
  refine h _ _ _ _ ?_ (by assumption) (by assumption)
  rw [← e]; assumption

theorem a_st2 {ox oy : Obj} {rest : List (Addr × Obj)} {ab ac : Addr} {vb vc : List Value} {nb nc : Nat} {n x : Int} {tn tx : Tok}
   (KX : (hd.heap_39 w.params).In h₀) (T : Top hd.view_39 (looseW hd.view_39 []) mean mg mb h₀) (K0 : Below callerA h₀ [] h₀)
   (F : Fr h₀ L s.heap m) (H : Has m [("n", .int n tn), ("basis", .ref ab), ("cleared", .ref ac)])
   (N : News h₀ L s.heap ((L+1+1, oy) :: (L+1, ox) :: (ab, listOf vb.toArray nb) :: (ac, listOf vc.toArray nc) :: rest)) (off : OwnOff rest [L+1+1, L+1, ab, ac])
   (hx : ox.data = .cell (some (.int x tx))) (hb8 : vb.length ≤ 8) (hc8 : vc.length ≤ 8) (ab1 : @LT.lt Nat _ (L + 1 + 1) ab) (ac1 : @LT.lt Nat _ ab ac)
   (h0 : x = 0 → ∀ h' tk', Fr h₀ L h' m → News h₀ L h' ((L+1+1, oy) :: (L+1, ox) :: (ab, listOf vb.toArray nb) :: (ac, listOf vc.toArray nc) :: rest) → Q .next { s with heap := h', toks := tk' })
   (h1 : x ≠ 0 → ∀ h' tk' t', Fr h₀ L h' m → News h₀ L h' ((L+1+1, oy) :: (L+1, ox) :: (ab, listOf (vb ++ [Value.int (n.fmod 16) t']).toArray (nb + 1)) :: (ac, listOf (vc ++ [Value.int x tx]).toArray (nc + 1)) :: rest) → Q .next { s with heap := h', toks := tk' }) :
   wpAny (model PySem.Challenge.rw_qu0006_01.row.prog w) (callerA.deeper (envOfC "law" (scopeAt 12) L fa cd)) (exec (nth (bodyOf (nth lawB 4)) 2) (envOfC "law" (scopeAt 12) L fa cd)) Q NoE s := by
  w_top off; revert KX; k_fill; intro KX
  conv in (occs := *) (scopeAt 12) => all_goals whnf
  conv in (nth _ _) => whnf
  have e : kstB m [("n", .int n tn), ("basis", .ref ab), ("cleared", .ref ac)] = m := funext fun z => kstB_eq H fun _ => rfl
  replace F := has_fr F H
  k_steps
  · rename_i F9 N9
    rw [e] at F9
    simp only [List.push_toArray] at N9
    exact h1 (by assumption) _ _ _ F9 N9
  · refine h0 (by assumption) _ _ ?_ (by assumption)
    rw [← e]; assumption
end
end Mine
namespace Mine
def iterOf : Stmt → Option Expr
  | .For _ i _ _ _ => some i
  | _ => none
def iterAt (n : Nat) : Expr := (iterOf (nth lawB n)).getD (.Constant .none 0 ⟨0, 0, 0, 0⟩)
section
variable {w : World} {h₀ : Heap} {mg mb : Str → Option Value} {mean : ExcName → Option Value} {fa L : Addr} {cd : Value} {s : Shared} {m : Str → Option Value}

theorem drawn8 {Q : Value → Shared → Prop} {rest : List (Addr × Obj)} {ad : Addr} {d0 d1 d2 d3 : Int} {t0 t1 t2 t3 : Tok} {nd : Nat}
   (KX : (hd.heap_39 w.params).In h₀) (T : Top hd.view_39 (looseW hd.view_39 []) mean mg mb h₀) (K0 : Below callerA h₀ [] h₀)
   (F : Fr h₀ L s.heap m) (H : Has m [("drawn", .ref ad)]) (N : News h₀ L s.heap ((ad, listOf #[.int d0 t0, .int d1 t1, .int d2 t2, .int d3 t3] nd) :: rest))
   (h : ∀ h' tk' al v8, IntsAre v8 [d0, d1, d2, d3, 1, 2, 4, 8] → (∀ p ∈ rest, p.1 < al) → Fr h₀ L h' m → News h₀ L h' ((al, listOf v8.toArray 0) :: rest) → Q (.ref al) { s with heap := h', toks := tk' }) :
   wpAny (model PySem.Challenge.rw_qu0006_01.row.prog w) (callerA.deeper (envOfC "law" (scopeAt 12) L fa cd)) (eval (iterAt 4) (envOfC "law" (scopeAt 12) L fa cd)) Q NoE s := by
  w_top off; revert KX; k_fill; intro KX
  conv in (occs := *) (scopeAt 12) => all_goals whnf
  conv in (iterAt _) => whnf
  have e : kstB m [("drawn", .ref ad)] = m := funext fun z => kstB_eq H fun _ => rfl
  replace F := has_fr F H
  k_steps
  rename_i D' h' F' N' l1
  rw [e] at F'
  exact h _ _ _ [_, _, _, _, _, _, _, _] (.cons _ _ (.cons _ _ (.cons _ _ (.cons _ _ (.cons _ _ (.cons _ _ (.cons _ _ (.cons _ _ .nil)))))))) (all_lt l1.2.2) F' (news_keep N' fun p hp => .tail _ (.tail _ hp))

theorem basis_loop {Q : Flow → Shared → Prop} {ox oy : Obj} {rest : List (Addr × Obj)} {ad ab ac : Addr} {d0 d1 d2 d3 : Int} {t0 t1 t2 t3 : Tok} {nd nb nc : Nat} {vx vy : Option Value}
   (KX : (hd.heap_39 w.params).In h₀) (T : Top hd.view_39 (looseW hd.view_39 []) mean mg mb h₀) (K0 : Below callerA h₀ [] h₀)
   (F : Fr h₀ L s.heap m) (H : Has m [("drawn", .ref ad), ("basis", .ref ab), ("cleared", .ref ac)])
   (N : News h₀ L s.heap ((ad, listOf #[.int d0 t0, .int d1 t1, .int d2 t2, .int d3 t3] nd) :: (L+1+1, oy) :: (L+1, ox) :: (ab, listOf #[] nb) :: (ac, listOf #[] nc) :: []))
   (hx : ox.data = .cell vx) (hy : oy.data = .cell vy) (ab1 : @LT.lt Nat _ (L + 1 + 1) ab) (ac1 : @LT.lt Nat _ ab ac)
   (h : ∀ h' tk' m' ox' oy' vx' vy' vb nb', (∀ z : Str, z ≠ "n" → m' z = m z) → Fr h₀ L h' m' → News h₀ L h' [(L+1+1, oy'), (L+1, ox'), (ab, listOf vb.toArray nb')] → ox'.data = .cell vx' → oy'.data = .cell vy' →
      IntsAre vb ([d0, d1, d2, d3, 1, 2, 4, 8].foldl elim1 ([], [])).1 → Q .next { s with heap := h', toks := tk' }) :
   wpAny (model PySem.Challenge.rw_qu0006_01.row.prog w) (callerA.deeper (envOfC "law" (scopeAt 12) L fa cd)) (exec (nth lawB 4) (envOfC "law" (scopeAt 12) L fa cd)) Q NoE s := by
  have H1 : Has m [("drawn", .ref ad)] := fun p hp => H p (by simp at hp; simp [hp])
  have H2 : Has m [("basis", .ref ab), ("cleared", .ref ac)] := fun p hp => H p (.tail _ hp)
  refine wpAny_For (drawn8 KX T K0 F H1 N ?_)
  intro h' tk' al v8 i8 l1 F' N'
  have l2 : ∀ b ∈ [L+1+1, L+1, ab, ac], al ≠ b := by
    intro b hb
    have l3 := fun p hp => ltN (l1 p hp)
    simp only [List.mem_cons, List.not_mem_nil, or_false, forall_eq_or_imp, forall_eq] at l3 hb
    rcases hb with rfl | rfl | rfl | rfl <;> exact neN (by omega)
  refine for_ints (ns := [d0, d1, d2, d3, 1, 2, 4, 8]) (fun i m' nx => (∀ z : Str, z ≠ "n" → m' z = m z) ∧ ∃ ox' oy' vx' vy' vb vc nb nc, nx = (al, listOf v8.toArray 0) :: (L+1+1, oy') :: (L+1, ox') :: (ab, listOf vb.toArray nb) :: (ac, listOf vc.toArray nc) :: []
      ∧ ox'.data = .cell vx' ∧ oy'.data = .cell vy' ∧ IntsAre vb (([d0, d1, d2, d3, 1, 2, 4, 8].take i).foldl elim1 ([], [])).1 ∧ IntsAre vc (([d0, d1, d2, d3, 1, 2, 4, 8].take i).foldl elim1 ([], [])).2)
    rfl (.head _) i8 F' N' ?_ ?_ ?_ ?_
  · exact ⟨fun _ _ => rfl, ox, oy, vx, vy, [], [], nb, nc, rfl, hx, hy, .nil, .nil⟩
  · rintro i m' nx ⟨_, _, _, _, _, _, _, _, _, rfl, _⟩
    exact .head _
  · rintro i n t m₁ news₁ h₁ tk it io hn ⟨hm, ox, oy, vx, vy, vb, vc, nb, nc, rfl, hx, hy, ib, ic⟩ hit F N
    have hi8 : i < 8 := by have := (List.getElem?_eq_some_iff.mp hn).1; simpa using this
    have ok := elim_ok [d0, d1, d2, d3, 1, 2, 4, 8] i (by simp; omega)
    obtain ⟨ok1, ok2, ok3, ok4⟩ := ok
    have lb := ib.length
    have lc := ic.length
    rw [take_fold hn]
    generalize ([d0, d1, d2, d3, 1, 2, 4, 8].take i).foldl elim1 ([], []) = st at ib ic ok1 ok2 ok3 ok4 lb lc ⊢
    simp only [List.mem_cons, List.not_mem_nil, or_false, forall_eq_or_imp, forall_eq] at hit l2
    have i1 := neN hit.1
    have i2 := neN hit.2.1
    have i3 := neN hit.2.2.1
    have i4 := neN hit.2.2.2.1
    have i5 := neN hit.2.2.2.2
    have k1 := neN l2.1
    have k2 := neN l2.2.1
    have k3 := neN l2.2.2.1
    have k4 := neN l2.2.2.2
    refine wpAny_assign_Name ?_
    refine storeX_L F N ?_ rfl rfl
    intro h₂ F₂ N₂
    have hm2 : ∀ z : Str, z ≠ "n" → (fun y : Str => if y = "n" then some (Value.int n t) else m₁ y) z = m z := fun z hz => by
      show (if z = "n" then _ else _) = _
      rw [if_neg hz]; exact hm z hz
    have Hn : Has (fun y : Str => if y = "n" then some (Value.int n t) else m₁ y) [("n", .int n t)] := has_cons rfl has_nil
    have Hb : Has (fun y : Str => if y = "n" then some (Value.int n t) else m₁ y) [("basis", .ref ab), ("cleared", .ref ac)] := has_off H2 hm2 rfl
    generalize (fun y : Str => if y = "n" then some (Value.int n t) else m₁ y) = m₂ at F₂ hm2 Hn Hb
    have o1 : OwnOff [(ab, listOf vb.toArray nb), (ac, listOf vc.toArray nc), (it, io), (al, listOf v8.toArray 0)] [L+1+1, L+1] := by
      intro p hp b hb
      simp only [List.mem_cons, List.not_mem_nil, or_false] at hp hb
      rcases hp with rfl | rfl | rfl | rfl <;> rcases hb with rfl | rfl <;> exact neN (by dsimp only; omega)
    have o2 : OwnOff [(it, io), (al, listOf v8.toArray 0)] [L+1+1, L+1, ab, ac] := by
      intro p hp b hb
      simp only [List.mem_cons, List.not_mem_nil, or_false] at hp hb
      rcases hp with rfl | rfl <;> rcases hb with rfl | rfl | rfl | rfl <;> exact neN (by dsimp only; omega)
    have N3 : News h₀ L h₂ ((L+1+1, oy) :: (L+1, ox) :: [(ab, listOf vb.toArray nb), (ac, listOf vc.toArray nc), (it, io), (al, listOf v8.toArray 0)]) := news_sub N₂ (by simp +contextual)
    refine wpAny_execs_cons (a_st0 KX T K0 F₂ Hn N3 o1 hx ?_)
    intro h₃ tk₃ ox₃ tx₃ F₃ N₃ hx₃
    refine wpAny_execs_cons (clear_loop KX T K0 F₃ (fun p hp => Hb p (.tail _ hp)) N₃ o1 hx₃ hy (.tail _ (.head _)) ic (fun b hb => bits_in (ok1 b hb).1 (ok1 b hb).2) ?_)
    intro h₄ tk₄ ox₄ oy₄ tx₄ vy₄ F₄ N₄ hx₄ hy₄
    refine wpAny_execs_cons (a_st2 KX T K0 F₄ (has_cons (Hn _ (.head _)) Hb) N₄ o2 hx₄ (by omega) (by omega) ab1 ac1 ?_ ?_)
    · intro hz h₅ tk₅ F₅ N₅
      refine wpAny_execs_nil (Turn.next F₅ (news_sub N₅ (by simp +contextual)) ?_ ⟨hm2, ox₄, oy₄, _, _, vb, vc, nb, nc, rfl, hx₄, hy₄, ?_, ?_⟩)
      · simp only [List.mem_cons, List.not_mem_nil, or_false, forall_eq_or_imp, forall_eq]; exact hit
      · rw [elim1, if_pos hz]; exact ib
      · rw [elim1, if_pos hz]; exact ic
    · intro hz h₅ tk₅ t₅ F₅ N₅
      refine wpAny_execs_nil (Turn.next F₅ (news_sub N₅ (by simp +contextual)) ?_ ⟨hm2, ox₄, oy₄, _, _, vb ++ [Value.int (n.fmod 16) t₅], vc ++ [Value.int (st.2.foldl clr1 (n.fmod 16)) tx₄], nb + 1, nc + 1, rfl, hx₄, hy₄, ?_, ?_⟩)
      · simp only [List.mem_cons, List.not_mem_nil, or_false, forall_eq_or_imp, forall_eq]; exact hit
      · rw [elim1, if_neg hz]; exact ib.append (.cons _ _ .nil)
      · rw [elim1, if_neg hz]; exact ic.append (.cons _ _ .nil)
  · rintro m' news' h' tk' ⟨hm, ox, oy, vx, vy, vb, vc, nb, nc, rfl, hx, hy, ib, ic⟩ F N
    exact h h' tk' m' ox oy vx vy vb nb hm F (news_sub N (by simp +contextual)) hx hy ib
end
end Mine
namespace Mine
/-- one turn of the order's loop -/
def dbl (os : List Int) (y : Int) : List Int := os ++ os.map (fun x => Builtin.bitXor x y)
theorem dbl_len (bs : List Int) : ∀ os : List Int, (bs.foldl dbl os).length = os.length * 2 ^ bs.length := by
  induction bs with
  | nil => intro os; simp
  | cons b r ih => intro os; rw [List.foldl_cons, ih]; simp [dbl, Nat.pow_succ]; rw [← Nat.two_mul, Nat.mul_comm 2, Nat.mul_assoc, Nat.mul_comm 2]
section
variable {w : World} {h₀ : Heap} {mg mb : Str → Option Value} {mean : ExcName → Option Value} {fa L : Addr} {cd : Value} {s : Shared} {m : Str → Option Value}
theorem ord_st {Q : Flow → Shared → Prop} {ox oy : Obj} {rest : List (Addr × Obj)} {ao : Addr} {vo : List Value} {os : List Int} {y : Int} {ty : Tok} {no : Nat} {vx : Option Value}
   (KX : (hd.heap_39 w.params).In h₀) (T : Top hd.view_39 (looseW hd.view_39 []) mean mg mb h₀) (K0 : Below callerA h₀ [] h₀)
   (F : Fr h₀ L s.heap m) (H : Has m [("order", .ref ao)]) (N : News h₀ L s.heap ((L+1+1, oy) :: (L+1, ox) :: (ao, listOf vo.toArray no) :: rest))
   (hx : ox.data = .cell vx) (hy : oy.data = .cell (some (.int y ty))) (hi : IntsAre vo os) (hl : vo.length ≤ 256)
   (h : ∀ h' tk' D ws m', (∀ z : Str, z ≠ "order" → m' z = m z) → m' "order" = some (.ref D) → Fr h₀ L h' m' → News h₀ L h' ((D, listOf ws.toArray 0) :: (L+1+1, oy) :: (L+1, ox) :: rest) → IntsAre ws (dbl os y) →
     @LT.lt Nat _ (L + 1 + 1) D → (∀ p ∈ rest, p.1 < D) → Q .next { s with heap := h', toks := tk' }) :
   wpAny (model PySem.Challenge.rw_qu0006_01.row.prog w) (callerA.deeper (envOfC "law" (scopeAt 12) L fa cd)) (exec (nth (bodyOf (nth lawB 6)) 0) (envOfC "law" (scopeAt 12) L fa cd)) Q NoE s := by
  w_top off; revert KX; k_fill; intro KX
  conv in (occs := *) (scopeAt 12) => all_goals whnf
  conv in (nth _ _) => whnf
  have e : kstB m [("order", .ref ao)] = m := funext fun z => kstB_eq H fun _ => rfl
  replace F := has_fr F H
  k_steps
  rename_i D' ws' h'' hI' l1 h' F' N'
  exact h _ _ _ _ _ (fun z hz => by show (if z = "order" then _ else _) = _; rw [if_neg hz, e]) rfl F' (news_keep N' (fun p hp => by
    rcases List.mem_cons.mp hp with rfl | hp
    · exact .tail _ (.head _)
    rcases List.mem_cons.mp hp with rfl | hp
    · exact .tail _ (.tail _ (.head _))
    · exact .tail _ (.tail _ (.tail _ (.tail _ hp))))) hI' l1.2.1 (all_lt l1.2.2.2.2)
theorem ord0 {Q : Flow → Shared → Prop} {rest : List (Addr × Obj)}
   (KX : (hd.heap_39 w.params).In h₀) (T : Top hd.view_39 (looseW hd.view_39 []) mean mg mb h₀) (K0 : Below callerA h₀ [] h₀)
   (F : Fr h₀ L s.heap m) (N : News h₀ L s.heap rest)
   (h : ∀ h' tk' D ws m', (∀ z : Str, z ≠ "order" → m' z = m z) → m' "order" = some (.ref D) → Fr h₀ L h' m' → News h₀ L h' ((D, listOf ws.toArray 0) :: rest) → IntsAre ws [0] →
     (∀ p ∈ rest, p.1 < D) → Q .next { s with heap := h', toks := tk' }) :
   wpAny (model PySem.Challenge.rw_qu0006_01.row.prog w) (callerA.deeper (envOfC "law" (scopeAt 12) L fa cd)) (exec (nth lawB 5) (envOfC "law" (scopeAt 12) L fa cd)) Q NoE s := by
  w_top off; revert KX; k_fill; intro KX
  conv in (occs := *) (scopeAt 12) => all_goals whnf
  conv in (nth _ _) => whnf
  k_steps
  rename_i l1 h' F' N'
  exact h _ _ _ [_] _ (fun z hz => by show (if z = "order" then _ else _) = _; rw [if_neg hz]) rfl F' N' (.cons _ _ .nil) l1

theorem order_loop {Q : Flow → Shared → Prop} {ox oy : Obj} {ab ao : Addr} {vb vo : List Value} {bs : List Int} {no nb : Nat} {vx vy : Option Value}
   (KX : (hd.heap_39 w.params).In h₀) (T : Top hd.view_39 (looseW hd.view_39 []) mean mg mb h₀) (K0 : Below callerA h₀ [] h₀)
   (F : Fr h₀ L s.heap m) (H : Has m [("order", .ref ao), ("basis", .ref ab)]) (N : News h₀ L s.heap [(ao, listOf vo.toArray no), (L+1+1, oy), (L+1, ox), (ab, listOf vb.toArray nb)])
   (hx : ox.data = .cell vx) (hy : oy.data = .cell vy) (hio : IntsAre vo [0]) (hib : IntsAre vb bs) (hl : bs.length ≤ 8) (ab1 : @LT.lt Nat _ (L + 1 + 1) ab) (ao1 : @LT.lt Nat _ ab ao)
   (h : ∀ h' tk' D ws n' m' ox' oy' vx' vy', (∀ z : Str, z ≠ "order" → m' z = m z) → m' "order" = some (.ref D) → Fr h₀ L h' m' → News h₀ L h' [(D, listOf ws.toArray n'), (L+1+1, oy'), (L+1, ox')] → ox'.data = .cell vx' → oy'.data = .cell vy' → IntsAre ws (bs.foldl dbl [0]) →
     @LT.lt Nat _ (L + 1 + 1) D → Q .next { s with heap := h', toks := tk' }) :
   wpAny (model PySem.Challenge.rw_qu0006_01.row.prog w) (callerA.deeper (envOfC "law" (scopeAt 12) L fa cd)) (exec (nth lawB 6) (envOfC "law" (scopeAt 12) L fa cd)) Q NoE s := by
  have F0 := has_fr F H
  refine wpAny_For ?_
  refine nameX_L F0 rfl ?_ rfl rfl
  refine for_ints (ns := bs) (fun i m' nx => (∀ z : Str, z ≠ "order" → m' z = m z) ∧ ∃ ao vo no ox' oy' vx' vy', m' "order" = some (.ref ao) ∧ nx = [(ao, listOf vo.toArray no), (L+1+1, oy'), (L+1, ox'), (ab, listOf vb.toArray nb)]
      ∧ ox'.data = .cell vx' ∧ oy'.data = .cell vy' ∧ IntsAre vo ((bs.take i).foldl dbl [0]) ∧ @LT.lt Nat _ (L + 1 + 1) ao)
    rfl (.tail _ (.tail _ (.tail _ (.head _)))) hib F N ⟨fun _ _ => rfl, ao, vo, no, ox, oy, vx, vy, H _ (.head _), rfl, hx, hy, hio, Nat.lt_trans ab1 ao1⟩ ?_ ?_ ?_
  · rintro i m' nx ⟨_, _, _, _, _, _, _, _, _, rfl, _⟩
    exact .tail _ (.tail _ (.tail _ (.head _)))
  · rintro i n t m₁ news₁ h₁ tk it io hn ⟨hm, ao, vo, no, ox, oy, vx, vy, hmo, rfl, hx, hy, io', ao1⟩ hit F N
    simp only [List.mem_cons, List.not_mem_nil, or_false, forall_eq_or_imp, forall_eq] at hit
    have i1 := neN hit.1
    have i2 := neN hit.2.1
    have i3 := neN hit.2.2.1
    have i4 := neN hit.2.2.2
    have hlen : vo.length ≤ 256 := by
      rw [io'.length, dbl_len]
      have : (bs.take i).length ≤ 8 := by rw [List.length_take]; omega
      have h2 := Nat.pow_le_pow_right (n := 2) (by decide) this
      simpa using h2
    rw [take_fold hn]
    refine wpAny_assign_Name ?_
    have N1 : News h₀ L h₁ ((L+1+1, oy) :: [(L+1, ox), (ao, listOf vo.toArray no), (it, io), (ab, listOf vb.toArray nb)]) := news_sub N (by simp +contextual)
    refine storeX_C F N1 rfl (.head ?_) hy ?_ rfl rfl
    · simp only [List.mem_cons, List.not_mem_nil, or_false, forall_eq_or_imp, forall_eq]
      exact ⟨neN (by omega), neN (by omega), neN (by omega), neN (by omega)⟩
    intro h₂ o₂ F₂ N₂ hy₂
    refine wpAny_execs_cons (ord_st (no := no) (rest := [(it, io), (ab, listOf vb.toArray nb)]) KX T K0 F₂ (has_cons hmo has_nil) (news_sub N₂ (by simp +contextual)) hx hy₂ io' hlen ?_)
    intro h₃ tk₃ D ws m₃ hm₃ hmo₃ F₃ N₃ hI₃ lD lr
    refine wpAny_execs_nil (Turn.next F₃ (news_sub N₃ (by simp +contextual)) ?_ ⟨fun z hz => (hm₃ z hz).trans (hm z hz), D, ws, 0, ox, o₂, vx, _, hmo₃, rfl, hx, hy₂, hI₃, lD⟩)
    have l1 := ltN (lr _ (.head _))
    simp only [List.mem_cons, List.not_mem_nil, or_false, forall_eq_or_imp, forall_eq]
    exact ⟨neN (by dsimp only at l1; omega), i2, i3, i4⟩
  · rintro m' news' h' tk' ⟨hm, ao, vo, no, ox, oy, vx, vy, hmo, rfl, hx, hy, io', ao1⟩ F N
    rw [List.take_length] at io'
    exact h h' tk' ao vo no m' ox oy vx vy hm hmo F (news_sub N (by simp +contextual)) hx hy io' ao1
end
end Mine
namespace Mine
section
variable {w : World} {h₀ : Heap} {mg mb : Str → Option Value} {mean : ExcName → Option Value} {fa L : Addr} {cd : Value} {s : Shared} {m : Str → Option Value}
theorem sorted_st {Q : Flow → Shared → Prop} {rest : List (Addr × Obj)} {ao : Addr} {vo : List Value} {os : List Int} {no : Nat}
   (KX : (hd.heap_39 w.params).In h₀) (T : Top hd.view_39 (looseW hd.view_39 []) mean mg mb h₀) (K0 : Below callerA h₀ [] h₀)
   (F : Fr h₀ L s.heap m) (H : Has m [("order", .ref ao)]) (N : News h₀ L s.heap ((ao, listOf vo.toArray no) :: rest))
   (hi : IntsAre vo os) (hl : vo.length ≤ 16) (hp : os.Perm (rangeKs 0 16))
   (h : ∀ h' tk', Fr h₀ L h' m → News h₀ L h' ((ao, listOf vo.toArray no) :: rest) → Q .next { s with heap := h', toks := tk' }) :
   wpAny (model PySem.Challenge.rw_qu0006_01.row.prog w) (callerA.deeper (envOfC "law" (scopeAt 12) L fa cd)) (exec (nth lawB 7) (envOfC "law" (scopeAt 12) L fa cd)) Q NoE s := by
  w_top off; revert KX; k_fill; intro KX
  conv in (occs := *) (scopeAt 12) => all_goals whnf
  conv in (nth _ _) => whnf
  have e : kstB m [("order", .ref ao)] = m := funext fun z => kstB_eq H fun _ => rfl
  replace F := has_fr F H
  iterate 21 walk1
  rename_i n' _ _ _ _ I1 e' p' o' b' p0 l1 h2 t1 u1 v1 tk2 R2 F2 N2 k2
  refine kll_range (n := 16) rfl F2 N2 R2 rfl rfl (by decide) ?_
  intro D3 us c3 h3 tk3 F3 N3 l3 I3
  refine ne_intsK (N3.isList (.tail _ (.head _))) I1 (N3.isList (.head _)) I3 (Nat.le_of_ble_eq_true rfl) ?_
  have en : n' = rangeKs 0 16 := List.Perm.eq_of_pairwise (le := (· ≤ ·)) (fun x y _ _ h1 h2 => Int.le_antisymm h1 h2) o' (by decide) (p'.trans hp)
  have eb : (!decide (n' = rangeKs 0 16)) = false := by simp [en]
  rw [eb]
  walk1
  refine ite_neg (by decide) ?_
  refine wpAny_execs_nil ?_
  rw [e] at F3
  exact h _ _ F3 (news_sub N3 fun p hp => .tail _ (.tail _ hp))
end
end Mine
namespace Mine
def costS (a b : Str) : Int := if (a == b) = true then 0 else if (Txt.lower a == Txt.lower b) = true then 1 else 2
section
variable {w : World} {h₀ : Heap} {mg mb : Str → Option Value} {mean : ExcName → Option Value} {L : Addr} {s : Shared} {m : Str → Option Value}
theorem cost_call {Q : Value → Shared → Prop} {news : List (Addr × Obj)} {a b : Str} {ta tb : Tok} {A₀ A : Around} {env : Env} {outer : List Env} {base : Heap}
   (KX : (hd.heap_39 w.params).In h₀) (T : Top hd.view_39 (looseW hd.view_39 []) mean mg mb h₀) (B : Below A₀ base outer h₀)
   (F : Fr h₀ L s.heap m) (N : News h₀ L s.heap news) (hA : A.frames = some (env :: outer)) (hf : env.frame = some L) (hke : env.scope.kind = .function) (hroom : A.depth < recursionLimit) (la : a.length ≤ 2) (lb : b.length ≤ 2)
   (h : ∀ h' tk' t', Fr h₀ L h' m → News h₀ L h' news → Q (.int (costS a b) t') { s with heap := h', toks := tk' }) :
   wpAny (model PySem.Challenge.rw_qu0006_01.row.prog w) A (call (.ref 35) [.str a ta, .str b tb]) Q NoE s := by
  w_top off; revert KX; k_fill; intro KX
  refine wpAny_call ?_
  refine' code_def B F KX N T hA hf hke ?k6 ?k7 hroom ?k9 ?kB ?_ ?c2 ?c3 ?c4 ?c5
  case k6 => k_dflt k_is
  case k7 => k_dflt k_is
  case k9 => exact BindsTo.of_eq rfl
  case c5 => decide
  case kB => exact locs rfl
  case c2 => exact rfl
  case c3 => exact rfl
  case c4 => exact rfl
  intro g' L' h' FG' F' N' B' X' T'
  k_steps
  · have e : costS a b = 0 := by rw [costS, if_pos (by assumption)]
    rw [e] at h; exact h _ _ _ (by assumption) (by assumption)
  · have e : costS a b = 1 := by rw [costS, if_neg (by simp_all), if_pos (by assumption)]
    rw [e] at h; exact h _ _ _ (by assumption) (by assumption)
  · have e : costS a b = 2 := by rw [costS, if_neg (by simp_all), if_neg (by simp_all)]
    rw [e] at h; exact h _ _ _ (by assumption) (by assumption)
end
end Mine
namespace Mine
def levB : List Stmt := bodyOf (defAt 8)
def dropS : Nat → List Stmt → List Stmt
  | 0, l => l
  | _ + 1, [] => []
  | n + 1, _ :: r => dropS n r
section
variable {w : World} {h₀ g : Heap} {mg mb : Str → Option Value} {mean : ExcName → Option Value} {fa Lc L : Addr} {cd : Value} {s : Shared} {m : Str → Option Value}
theorem lev_g9 {Q : Flow → Shared → Prop} {news : List (Addr × Obj)} {a b : Str} {sz : Int} {ta tb tc : Tok}
   (KX : (hd.heap_39 w.params).In g) (T : Top hd.view_39 (looseW hd.view_39 []) mean mg mb g) (B : Below (callerA.deeper (envOfC "law" (scopeAt 12) Lc fa cd)) h₀ [envOfC "law" (scopeAt 12) Lc fa cd] g)
   (F : Fr g L s.heap m) (H : Has m [("a", .str a ta), ("b", .str b tb), ("max_cost", .int sz tc)]) (N : News g L s.heap news)
   (la : 1 ≤ a.length) (la2 : a.length ≤ 2) (lb : b.length = a.length) (sz2 : 2 ≤ sz) (sz3 : sz ≤ 3)
   (h : ∀ tk', Fr g L s.heap m → News g L s.heap news → Q .next { s with toks := tk' }) :
   wpAny (model PySem.Challenge.rw_qu0006_01.row.prog w) ((callerA.deeper (envOfC "law" (scopeAt 12) Lc fa cd)).deeper (envOf "_levenshtein_distance" (scopeAt 8) L 42 (.ref 41)))
      (exec (nth levB 9) (envOf "_levenshtein_distance" (scopeAt 8) L 42 (.ref 41))) Q NoE s := by
  w_top off; revert KX; k_fill; intro KX
  conv in (occs := *) (scopeAt 12) => all_goals whnf
  conv in (occs := *) (scopeAt 8) => all_goals whnf
  conv in (nth _ _) => whnf
  have e : kstB m [("a", .str a ta), ("b", .str b tb), ("max_cost", .int sz tc)] = m := funext fun z => kstB_eq H fun _ => rfl
  replace F := has_fr F H
  k_steps
  all_goals first
    | (exfalso; omega)
    | (rw [e] at F; exact h _ F (by assumption))
theorem lev_g10 {Q : Flow → Shared → Prop} {news : List (Addr × Obj)} {a b : Str} {sz : Int} {ta tb tc : Tok}
   (KX : (hd.heap_39 w.params).In g) (T : Top hd.view_39 (looseW hd.view_39 []) mean mg mb g) (B : Below (callerA.deeper (envOfC "law" (scopeAt 12) Lc fa cd)) h₀ [envOfC "law" (scopeAt 12) Lc fa cd] g)
   (F : Fr g L s.heap m) (H : Has m [("a", .str a ta), ("b", .str b tb), ("max_cost", .int sz tc)]) (N : News g L s.heap news)
   (la : 1 ≤ a.length) (la2 : a.length ≤ 2) (lb : b.length = a.length) (sz2 : 2 ≤ sz) (sz3 : sz ≤ 3)
   (h : ∀ tk', Fr g L s.heap m → News g L s.heap news → Q .next { s with toks := tk' }) :
   wpAny (model PySem.Challenge.rw_qu0006_01.row.prog w) ((callerA.deeper (envOfC "law" (scopeAt 12) Lc fa cd)).deeper (envOf "_levenshtein_distance" (scopeAt 8) L 42 (.ref 41)))
      (exec (nth levB 10) (envOf "_levenshtein_distance" (scopeAt 8) L 42 (.ref 41))) Q NoE s := by
  w_top off; revert KX; k_fill; intro KX
  conv in (occs := *) (scopeAt 12) => all_goals whnf
  conv in (occs := *) (scopeAt 8) => all_goals whnf
  conv in (nth _ _) => whnf
  have e : kstB m [("a", .str a ta), ("b", .str b tb), ("max_cost", .int sz tc)] = m := funext fun z => kstB_eq H fun _ => rfl
  replace F := has_fr F H
  k_steps
  all_goals first
    | (exfalso; omega)
    | (rw [e] at F; exact h _ F (by assumption))
theorem lev_g11 {Q : Flow → Shared → Prop} {news : List (Addr × Obj)} {a b : Str} {sz : Int} {ta tb tc : Tok}
   (KX : (hd.heap_39 w.params).In g) (T : Top hd.view_39 (looseW hd.view_39 []) mean mg mb g) (B : Below (callerA.deeper (envOfC "law" (scopeAt 12) Lc fa cd)) h₀ [envOfC "law" (scopeAt 12) Lc fa cd] g)
   (F : Fr g L s.heap m) (H : Has m [("a", .str a ta), ("b", .str b tb), ("max_cost", .int sz tc)]) (N : News g L s.heap news)
   (la : 1 ≤ a.length) (la2 : a.length ≤ 2) (lb : b.length = a.length) (sz2 : 2 ≤ sz) (sz3 : sz ≤ 3)
   (h : ∀ tk', Fr g L s.heap m → News g L s.heap news → Q .next { s with toks := tk' }) :
   wpAny (model PySem.Challenge.rw_qu0006_01.row.prog w) ((callerA.deeper (envOfC "law" (scopeAt 12) Lc fa cd)).deeper (envOf "_levenshtein_distance" (scopeAt 8) L 42 (.ref 41)))
      (exec (nth levB 11) (envOf "_levenshtein_distance" (scopeAt 8) L 42 (.ref 41))) Q NoE s := by
  w_top off; revert KX; k_fill; intro KX
  conv in (occs := *) (scopeAt 12) => all_goals whnf
  conv in (occs := *) (scopeAt 8) => all_goals whnf
  conv in (nth _ _) => whnf
  have e : kstB m [("a", .str a ta), ("b", .str b tb), ("max_cost", .int sz tc)] = m := funext fun z => kstB_eq H fun _ => rfl
  replace F := has_fr F H
  k_steps
  all_goals first
    | (exfalso; omega)
    | (rw [e] at F; exact h _ F (by assumption))
theorem lev_g12 {Q : Flow → Shared → Prop} {news : List (Addr × Obj)} {a b : Str} {sz : Int} {ta tb tc : Tok}
   (KX : (hd.heap_39 w.params).In g) (T : Top hd.view_39 (looseW hd.view_39 []) mean mg mb g) (B : Below (callerA.deeper (envOfC "law" (scopeAt 12) Lc fa cd)) h₀ [envOfC "law" (scopeAt 12) Lc fa cd] g)
   (F : Fr g L s.heap m) (H : Has m [("a", .str a ta), ("b", .str b tb), ("max_cost", .int sz tc)]) (N : News g L s.heap news)
   (la : 1 ≤ a.length) (la2 : a.length ≤ 2) (lb : b.length = a.length) (sz2 : 2 ≤ sz) (sz3 : sz ≤ 3)
   (h : ∀ tk', Fr g L s.heap m → News g L s.heap news → Q .next { s with toks := tk' }) :
   wpAny (model PySem.Challenge.rw_qu0006_01.row.prog w) ((callerA.deeper (envOfC "law" (scopeAt 12) Lc fa cd)).deeper (envOf "_levenshtein_distance" (scopeAt 8) L 42 (.ref 41)))
      (exec (nth levB 12) (envOf "_levenshtein_distance" (scopeAt 8) L 42 (.ref 41))) Q NoE s := by
  w_top off; revert KX; k_fill; intro KX
  conv in (occs := *) (scopeAt 12) => all_goals whnf
  conv in (occs := *) (scopeAt 8) => all_goals whnf
  conv in (nth _ _) => whnf
  have e : kstB m [("a", .str a ta), ("b", .str b tb), ("max_cost", .int sz tc)] = m := funext fun z => kstB_eq H fun _ => rfl
  replace F := has_fr F H
  k_steps
  all_goals first
    | (exfalso; omega)
    | (rw [e] at F; exact h _ F (by assumption))
end
end Mine
namespace Mine
/-- the rows' state: distance, result, minimum, row -/
abbrev LSt := Int × Int × Int × List Int
def cell1 (c a : Str) (j : Nat) (d r : Int) (row : List Int) : Int :=
  if d + costS c (Txt.item a j) < (if row.getD j 0 < r then row.getD j 0 else r) + 2 then d + costS c (Txt.item a j) else (if row.getD j 0 < r then row.getD j 0 else r) + 2
def stepR (c a : Str) (st : LSt) (j : Nat) : LSt :=
  (st.2.2.2.getD j 0, cell1 c a j st.1 st.2.1 st.2.2.2, if cell1 c a j st.1 st.2.1 st.2.2.2 < st.2.2.1 then cell1 c a j st.1 st.2.1 st.2.2.2 else st.2.2.1, st.2.2.2.set j (cell1 c a j st.1 st.2.1 st.2.2.2))
section
variable {w : World} {h₀ g : Heap} {mg mb : Str → Option Value} {mean : ExcName → Option Value} {fa Lc L : Addr} {cd : Value} {s : Shared} {m : Str → Option Value}
theorem inner_body {Q : Flow → Shared → Prop} {rest : List (Addr × Obj)} {a c : Str} {ta tc' : Tok} {D : Addr} {vr : List Value} {row : List Int} {cn : Nat} {d r mn : Int} {j : Nat} {td tr tm tj : Tok}
   (KX : (hd.heap_39 w.params).In g) (T : Top hd.view_39 (looseW hd.view_39 []) mean mg mb g) (B : Below (callerA.deeper (envOfC "law" (scopeAt 12) Lc fa cd)) h₀ [envOfC "law" (scopeAt 12) Lc fa cd] g)
   (F : Fr g L s.heap m) (H : Has m [("a", .str a ta), ("bchar", .str c tc'), ("distance", .int d td), ("result", .int r tr), ("minimum", .int mn tm), ("row", .ref D), ("index", .int (j : Int) tj)]) (N : News g L s.heap ((D, listOf vr.toArray cn) :: rest))
   (off : OwnOff rest [D]) (hi : IntsAre vr row) (lc : c.length = 1) (la : a.length ≤ 2) (j1 : j < a.length) (j2 : j < row.length)
   (h : ∀ h' tk' m' vr', Keep ["substitute", "insert_delete", "distance", "result", "minimum"] m' m →
     (∃ t, m' "distance" = some (.int (stepR c a (d, r, mn, row) j).1 t)) → (∃ t, m' "result" = some (.int (stepR c a (d, r, mn, row) j).2.1 t)) → (∃ t, m' "minimum" = some (.int (stepR c a (d, r, mn, row) j).2.2.1 t)) →
     Fr g L h' m' → News g L h' ((D, listOf vr'.toArray cn) :: rest) → IntsAre vr' (stepR c a (d, r, mn, row) j).2.2.2 → Q .next { s with heap := h', toks := tk' }) :
   wpAny (model PySem.Challenge.rw_qu0006_01.row.prog w) ((callerA.deeper (envOfC "law" (scopeAt 12) Lc fa cd)).deeper (envOf "_levenshtein_distance" (scopeAt 8) L 42 (.ref 41)))
      (execs (bodyOf (nth (bodyOf (nth levB 15)) 3)) (envOf "_levenshtein_distance" (scopeAt 8) L 42 (.ref 41))) Q NoE s := by
  w_top off; revert KX; k_fill; intro KX
  conv in (occs := *) (scopeAt 12) => all_goals whnf
  conv in (occs := *) (scopeAt 8) => all_goals whnf
  conv in (bodyOf _) => whnf
  have e : kstB m [("a", .str a ta), ("bchar", .str c tc'), ("distance", .int d td), ("result", .int r tr), ("minimum", .int mn tm), ("row", .ref D), ("index", .int (j : Int) tj)] = m := funext fun z => kstB_eq H fun _ => rfl
  replace F := has_fr F H
  iterate 16 walk1
  refine cost_call (by k_asm) (by k_asm) (by k_asm) (by k_asm) (by k_asm) rfl rfl rfl (by k_room) (by omega) (by omega) ?_
  intro h9 tk9 t9 F9 N9
  clear F
  k_steps
  all_goals simp only [Int.toNat_natCast] at *
  · refine h _ _ _ _ ?_ ⟨_, rfl⟩ ⟨_, rfl⟩ ?_ (by assumption) (by assumption) (by assumption)
    · intro z hz
      simp only [List.contains_cons, List.contains_nil, Bool.or_false, Bool.or_eq_false_iff, beq_eq_false_iff_ne] at hz
      simp only [if_neg hz.1, if_neg hz.2.1, if_neg hz.2.2.1, if_neg hz.2.2.2.1, if_neg hz.2.2.2.2]
      rw [e]
    · have em : (stepR c a (d, r, mn, row) j).2.2.1 = cell1 c a j d r row := if_pos (by assumption)
      rw [em]
      exact ⟨_, rfl⟩
  · refine h _ _ _ _ ?_ ⟨_, rfl⟩ ⟨_, rfl⟩ ?_ (by assumption) (by assumption) (by assumption)
    · intro z hz
      simp only [List.contains_cons, List.contains_nil, Bool.or_false, Bool.or_eq_false_iff, beq_eq_false_iff_ne] at hz
      simp only [if_neg hz.1, if_neg hz.2.1, if_neg hz.2.2.1, if_neg hz.2.2.2.1, if_neg hz.2.2.2.2]
      rw [e]
    · have em : (stepR c a (d, r, mn, row) j).2.2.1 = mn := if_neg (by assumption)
      rw [em]
      exact ⟨_, rfl⟩
end
end Mine
namespace Mine
theorem stepR_len (c a : Str) (st : LSt) (n : Nat) : ((List.range n).foldl (stepR c a) st).2.2.2.length = st.2.2.2.length := by
  induction n with
  | zero => rfl
  | succ n ih => rw [List.range_succ, List.foldl_append]; simp only [List.foldl_cons, List.foldl_nil, stepR, List.length_set]; exact ih
section
variable {w : World} {h₀ g : Heap} {mg mb : Str → Option Value} {mean : ExcName → Option Value} {fa Lc L : Addr} {cd : Value} {s : Shared} {m : Str → Option Value}
theorem inner_loop {Q : Flow → Shared → Prop} {rest : List (Addr × Obj)} {a c : Str} {ta tc' : Tok} {D : Addr} {vr : List Value} {row : List Int} {cn : Nat} {d r mn : Int} {td tr tm : Tok}
   (KX : (hd.heap_39 w.params).In g) (T : Top hd.view_39 (looseW hd.view_39 []) mean mg mb g) (B : Below (callerA.deeper (envOfC "law" (scopeAt 12) Lc fa cd)) h₀ [envOfC "law" (scopeAt 12) Lc fa cd] g)
   (F : Fr g L s.heap m) (H : Has m [("a", .str a ta), ("bchar", .str c tc'), ("distance", .int d td), ("result", .int r tr), ("minimum", .int mn tm), ("row", .ref D)]) (N : News g L s.heap ((D, listOf vr.toArray cn) :: rest))
   (off : OwnOff rest [D]) (hi : IntsAre vr row) (lc : c.length = 1) (la : a.length ≤ 2) (lr : row.length = a.length)
   (h : ∀ h' tk' m' vr', Keep ["substitute", "insert_delete", "distance", "result", "minimum", "index"] m' m →
     (∃ t, m' "result" = some (.int ((List.range a.length).foldl (stepR c a) (d, r, mn, row)).2.1 t)) → (∃ t, m' "minimum" = some (.int ((List.range a.length).foldl (stepR c a) (d, r, mn, row)).2.2.1 t)) →
     Fr g L h' m' → News g L h' ((D, listOf vr'.toArray cn) :: rest) → IntsAre vr' ((List.range a.length).foldl (stepR c a) (d, r, mn, row)).2.2.2 → Q .next { s with heap := h', toks := tk' }) :
   wpAny (model PySem.Challenge.rw_qu0006_01.row.prog w) ((callerA.deeper (envOfC "law" (scopeAt 12) Lc fa cd)).deeper (envOf "_levenshtein_distance" (scopeAt 8) L 42 (.ref 41)))
      (exec (nth (bodyOf (nth levB 15)) 3) (envOf "_levenshtein_distance" (scopeAt 8) L 42 (.ref 41))) Q NoE s := by
  w_top off; revert KX; k_fill; intro KX
  conv in (occs := *) (scopeAt 12) => all_goals whnf
  conv in (occs := *) (scopeAt 8) => all_goals whnf
  have e : kstB m [("a", .str a ta)] = m := funext fun z => kstB_eq (fun p hp => H p (by simp at hp; simp [hp])) fun _ => rfl
  rw [← e] at F
  refine wpAny_For ?_
  iterate 12 walk1
  rw [e] at F
  refine range1_rows F N ?_
  intro h₁ tk₁ t₁ u₁ v₁ R₁ F₁ N₁ k₁
  refine for_range (n := a.length) (fun i m' nx => Keep ["substitute", "insert_delete", "distance", "result", "minimum", "index"] m' m ∧
      (∃ t, m' "distance" = some (.int ((List.range i).foldl (stepR c a) (d, r, mn, row)).1 t)) ∧ (∃ t, m' "result" = some (.int ((List.range i).foldl (stepR c a) (d, r, mn, row)).2.1 t)) ∧ (∃ t, m' "minimum" = some (.int ((List.range i).foldl (stepR c a) (d, r, mn, row)).2.2.1 t)) ∧
      ∃ vr', nx = (D, listOf vr'.toArray cn) :: rest ∧ IntsAre vr' ((List.range i).foldl (stepR c a) (d, r, mn, row)).2.2.2)
    rfl R₁ (small_one (by decide) (by decide) (by omega) (by omega)) (by rw [rangeSize_one]; omega) F₁ N₁ ⟨.refl, ⟨_, H _ (.tail _ (.tail _ (.head _)))⟩, ⟨_, H _ (.tail _ (.tail _ (.tail _ (.head _))))⟩, ⟨_, H _ (.tail _ (.tail _ (.tail _ (.tail _ (.head _)))))⟩, vr, rfl, hi⟩ ?_ ?_
  · rintro i t m₁ news₁ h₂ tk it io hlt ⟨hk, ⟨td, hd⟩, ⟨tr, hr⟩, ⟨tm, hm⟩, vr', rfl, hi'⟩ hit F₂ N₂
    have ln := stepR_len c a (d, r, mn, row) i
    rw [List.range_succ, List.foldl_append]
    simp only [List.foldl_cons, List.foldl_nil]
    generalize (List.range i).foldl (stepR c a) (d, r, mn, row) = st at hd hr hm hi' ln ⊢
    obtain ⟨d', r', mn', row'⟩ := st
    simp only [List.mem_cons, forall_eq_or_imp] at hit
    refine wpAny_assign_Name ?_
    refine storeX_L F₂ N₂ ?_ rfl rfl
    intro h₃ F₃ N₃
    have hk3 : Keep ["index"] (fun y : Str => if y = "index" then some (Value.int (i : Int) t) else m₁ y) m₁ := fun z hz => by
      simp only [List.contains_cons, List.contains_nil, Bool.or_false, beq_eq_false_iff_ne] at hz
      simp only [if_neg hz]
    have H3 : Has (fun y : Str => if y = "index" then some (Value.int (i : Int) t) else m₁ y) [("a", .str a ta), ("bchar", .str c tc'), ("distance", .int d' td), ("result", .int r' tr), ("minimum", .int mn' tm), ("row", .ref D), ("index", .int (i : Int) t)] := by
      have h1 : Has m₁ [("a", .str a ta), ("bchar", .str c tc')] := Has.keep (m := m) (fun p hp => H p (by simp at hp ⊢; rcases hp with rfl | rfl <;> simp)) hk rfl
      have h2 : Has m₁ [("row", .ref D)] := Has.keep (m := m) (fun p hp => H p (by simp at hp ⊢; simp [hp])) hk rfl
      exact has_cons (h1 _ (.head _)) (has_cons (h1 _ (.tail _ (.head _))) (has_cons hd (has_cons hr (has_cons hm (has_cons (h2 _ (.head _)) (has_cons rfl has_nil))))))
    generalize (fun y : Str => if y = "index" then some (Value.int (i : Int) t) else m₁ y) = m₃ at F₃ hk3 H3
    refine inner_body (rest := (it, io) :: rest) KX T B F₃ H3 (news_mv (l := [_]) N₃) (off_cons (by simp only [List.mem_cons, List.not_mem_nil, or_false, forall_eq]; exact fun e => hit.1 e.symm) off) hi' lc la hlt (by rw [ln, lr]; exact hlt) ?_
    intro h₄ tk₄ m₄ vr₄ hk4 hd4 hr4 hm4 F₄ N₄ hi4
    refine Turn.next F₄ (news_vm (l := [_]) N₄) ?_ ⟨((hk4.mono rfl).trans (hk3.mono rfl)).trans hk, hd4, hr4, hm4, vr₄, rfl, hi4⟩
    simp only [List.singleton_append, List.mem_cons, forall_eq_or_imp]; exact hit
  · rintro m' news' h' tk' ⟨hk, ⟨td, hd⟩, ⟨tr, hr⟩, ⟨tm, hm⟩, vr', rfl, hi'⟩ F' N'
    exact h h' tk' m' vr' hk ⟨tr, hr⟩ ⟨tm, hm⟩ F' N' hi'
end
end Mine
namespace Mine
section
variable {w : World} {h₀ g : Heap} {mg mb : Str → Option Value} {mean : ExcName → Option Value} {fa Lc L : Addr} {cd : Value} {s : Shared} {m : Str → Option Value}
theorem outer_tail {Q : Flow → Shared → Prop} {news : List (Addr × Obj)} {tm tc : Tok} {sz mn : Int}
   (KX : (hd.heap_39 w.params).In g) (T : Top hd.view_39 (looseW hd.view_39 []) mean mg mb g) (B : Below (callerA.deeper (envOfC "law" (scopeAt 12) Lc fa cd)) h₀ [envOfC "law" (scopeAt 12) Lc fa cd] g)
   (F : Fr g L s.heap m) (H : Has m [("minimum", .int mn tm), ("max_cost", .int sz tc)]) (N : News g L s.heap news)
   (h1 : sz < mn → ∀ tk' t', Q (.ret (.int (sz + 1) t')) { s with toks := tk' })
   (h0 : ¬ sz < mn → ∀ tk', Q .next { s with toks := tk' }) :
   wpAny (model PySem.Challenge.rw_qu0006_01.row.prog w) ((callerA.deeper (envOfC "law" (scopeAt 12) Lc fa cd)).deeper (envOf "_levenshtein_distance" (scopeAt 8) L 42 (.ref 41)))
      (exec (nth (bodyOf (nth levB 15)) 4) (envOf "_levenshtein_distance" (scopeAt 8) L 42 (.ref 41))) Q NoE s := by
  w_top off; revert KX; k_fill; intro KX
  conv in (occs := *) (scopeAt 12) => all_goals whnf
  conv in (occs := *) (scopeAt 8) => all_goals whnf
  conv in (nth _ _) => whnf
  replace F := has_fr F H
  k_steps
  · exact h1 (by omega) _ _
  · exact h0 (by omega) _
/-- one turn of the outer loop -/
def rowOf (a b : Str) (row : List Int) (i : Nat) : LSt := (List.range a.length).foldl (stepR (Txt.item b i) a) ((i : Int) * 2, (i : Int) * 2, 9223372036854775807, row)
theorem outer_body {Q : Flow → Shared → Prop} {rest : List (Addr × Obj)} {a b : Str} {ta tb tc ti tr : Tok} {D : Addr} {vr : List Value} {row : List Int} {cn i : Nat} {sz r : Int}
   (KX : (hd.heap_39 w.params).In g) (T : Top hd.view_39 (looseW hd.view_39 []) mean mg mb g) (B : Below (callerA.deeper (envOfC "law" (scopeAt 12) Lc fa cd)) h₀ [envOfC "law" (scopeAt 12) Lc fa cd] g)
   (F : Fr g L s.heap m) (H : Has m [("a", .str a ta), ("b", .str b tb), ("max_cost", .int sz tc), ("row", .ref D), ("bindex", .int (i : Int) ti), ("result", .int r tr)]) (N : News g L s.heap ((D, listOf vr.toArray cn) :: rest))
   (off : OwnOff rest [D]) (hi : IntsAre vr row) (la : a.length ≤ 2) (lb : b.length = a.length) (lr : row.length = a.length) (hlt : i < b.length)
   (h1 : sz < (rowOf a b row i).2.2.1 → ∀ h' tk' m' t', Fr g L h' m' → News g L h' rest → Q (.ret (.int (sz + 1) t')) { s with heap := h', toks := tk' })
   (h0 : ¬ sz < (rowOf a b row i).2.2.1 → ∀ h' tk' m' vr', Keep ["substitute", "insert_delete", "distance", "result", "minimum", "index", "bchar"] m' m → (∃ t, m' "result" = some (.int (rowOf a b row i).2.1 t)) →
     Fr g L h' m' → News g L h' ((D, listOf vr'.toArray cn) :: rest) → IntsAre vr' (rowOf a b row i).2.2.2 → Q .next { s with heap := h', toks := tk' }) :
   wpAny (model PySem.Challenge.rw_qu0006_01.row.prog w) ((callerA.deeper (envOfC "law" (scopeAt 12) Lc fa cd)).deeper (envOf "_levenshtein_distance" (scopeAt 8) L 42 (.ref 41)))
      (execs (bodyOf (nth levB 15)) (envOf "_levenshtein_distance" (scopeAt 8) L 42 (.ref 41))) Q NoE s := by
  w_top off; revert KX; k_fill; intro KX
  conv in (occs := *) (scopeAt 12) => all_goals whnf
  conv in (occs := *) (scopeAt 8) => all_goals whnf
  conv in (bodyOf _) => whnf
  have e : kstB m [("a", .str a ta), ("b", .str b tb), ("max_cost", .int sz tc), ("row", .ref D), ("bindex", .int (i : Int) ti), ("result", .int r tr)] = m := funext fun z => kstB_eq H fun _ => rfl
  replace F := has_fr F H
  iterate 21 walk1
  rename_i h' F' N'
  obtain ⟨M, tk₁, hk, ⟨td, hd⟩, ⟨tr, hr⟩, ⟨tm, hm⟩, hc, F₂⟩ : ∃ (M : Str → Option Value) (tk : Tok), Keep ["substitute", "insert_delete", "distance", "result", "minimum", "index", "bchar"] M m ∧ (∃ t, M "distance" = some (.int ((i : Int) * 2) t)) ∧ (∃ t, M "result" = some (.int ((i : Int) * 2) t)) ∧
      (∃ t, M "minimum" = some (.int 9223372036854775807 t)) ∧ M "bchar" = some (.str (Txt.item b (i : Int)) tk) ∧ Fr g L h' M :=
    ⟨_, _, by
      intro z hz
      simp only [List.contains_cons, List.contains_nil, Bool.or_false, Bool.or_eq_false_iff, beq_eq_false_iff_ne] at hz
      simp only [if_neg hz.2.2.1, if_neg hz.2.2.2.1, if_neg hz.2.2.2.2.1, if_neg hz.2.2.2.2.2.2]
      rw [e], ⟨_, rfl⟩, ⟨_, rfl⟩, ⟨_, rfl⟩, rfl, F'⟩
  have H1 := Has.keep H hk
  have Ha : Has M [("a", .str a ta), ("row", .ref D), ("max_cost", .int sz tc)] := Has.keep (m := m) (fun p hp => H p (by simp at hp ⊢; rcases hp with rfl | rfl | rfl <;> simp)) hk rfl
  refine wpAny_execs_cons (inner_loop KX T B F₂ (has_cons (Ha _ (.head _)) (has_cons hc (has_cons hd (has_cons hr (has_cons hm (has_cons (Ha _ (.tail _ (.head _))) has_nil)))))) N' off hi (by omega) la lr ?_)
  intro h₃ tk₃ m₃ vr₃ hk₃ hr₃ ⟨tm₃, hm₃⟩ F₃ N₃ hi₃
  refine wpAny_execs_cons (outer_tail KX T B F₃ (has_cons hm₃ (has_cons ((hk₃ _ rfl).trans (Ha _ (.tail _ (.tail _ (.head _))))) has_nil)) N₃ ?_ ?_)
  · intro hlt' tk' t'
    exact h1 hlt' h₃ tk' m₃ t' F₃ (fun p hp => N₃ p (.tail _ hp))
  · intro hlt' tk'
    exact wpAny_execs_nil (h0 hlt' h₃ tk' m₃ vr₃ ((hk₃.mono rfl).trans hk) hr₃ F₃ N₃ hi₃)
end
end Mine
namespace Mine
def rowsAt (a b : Str) : Nat → Int × List Int
  | 0 => (0, rangeInts 2 2 a.length)
  | i + 1 => ((rowOf a b (rowsAt a b i).2 i).2.1, (rowOf a b (rowsAt a b i).2 i).2.2.2)
def levM (a b : Str) (sz : Int) : Int := if ((List.range b.length).any fun j => decide (sz < (rowOf a b (rowsAt a b j).2 j).2.2.1)) = true then sz + 1 else (rowsAt a b b.length).1
theorem rowsAt_len (a b : Str) (i : Nat) : (rowsAt a b i).2.length = a.length := by
  induction i with
  | zero => exact rangeInts_length _ _ _
  | succ i ih => simp only [rowsAt, rowOf]; rw [stepR_len]; exact ih
section
variable {w : World} {h₀ g : Heap} {mg mb : Str → Option Value} {mean : ExcName → Option Value} {fa Lc L : Addr} {cd : Value} {s : Shared} {m : Str → Option Value}
theorem lev_row {Q : Flow → Shared → Prop} {news : List (Addr × Obj)} {a : Str} {ta : Tok} 
   (KX : (hd.heap_39 w.params).In g) (T : Top hd.view_39 (looseW hd.view_39 []) mean mg mb g) (B : Below (callerA.deeper (envOfC "law" (scopeAt 12) Lc fa cd)) h₀ [envOfC "law" (scopeAt 12) Lc fa cd] g)
   (F : Fr g L s.heap m) (H : Has m [("a", .str a ta)]) (N : News g L s.heap news)
   (la : 1 ≤ a.length) (la2 : a.length ≤ 2)
   (h : ∀ h' tk' m' D vr c, Keep ["row"] m' m → m' "row" = some (.ref D) → Fr g L h' m' → News g L h' ((D, listOf vr.toArray c) :: news) → (∀ p ∈ news, p.1 < D) → IntsAre vr (rangeInts 2 2 a.length) → Q .next { s with heap := h', toks := tk' }) :
   wpAny (model PySem.Challenge.rw_qu0006_01.row.prog w) ((callerA.deeper (envOfC "law" (scopeAt 12) Lc fa cd)).deeper (envOf "_levenshtein_distance" (scopeAt 8) L 42 (.ref 41)))
      (exec (nth levB 13) (envOf "_levenshtein_distance" (scopeAt 8) L 42 (.ref 41))) Q NoE s := by
  w_top off; revert KX; k_fill; intro KX
  conv in (occs := *) (scopeAt 12) => all_goals whnf
  conv in (occs := *) (scopeAt 8) => all_goals whnf
  conv in (nth _ _) => whnf
  have e : kstB m [("a", .str a ta)] = m := funext fun z => kstB_eq H fun _ => rfl
  replace F := has_fr F H
  iterate 27 walk1
  refine range3_rows F N (by decide) ?_
  intro h₁ tk₁ t₁ u₁ v₁ R₁ F₁ N₁ k₁
  iterate 1 walk1
  have hk : a.length = 1 ∨ a.length = 2 := by omega
  have hsm : Builtin.Range.small 2 (2 * ((a.length : Int) + 1)) 2 = true := by rcases hk with e | e <;> rw [e] <;> decide
  have hsz : Builtin.Range.rangeSize 2 (2 * ((a.length : Int) + 1)) 2 = (a.length : Int) := by rcases hk with e | e <;> rw [e] <;> decide
  refine list_rangeD (n := a.length) rfl F₁ N₁ R₁ hsm hsz (by omega) ?_
  intro h₂ tk₂ ys F₂ N₂ k₂ hn₂ hl₂ np₂ ca₂
  obtain ⟨⟨c₂, hp₂⟩, nd₂⟩ := np₂
  have hlt : ∀ p ∈ news, p.1 < h₁.objs.size := fun p hp => Heap.lt_size (N₁ p hp).1
  have N₃ : News g L h₂ ((h₁.objs.size, listOf ys.toArray c₂) :: news) := fun p hp => by
    rcases List.mem_cons.mp hp with rfl | hp
    · exact ⟨hp₂, fun q => absurd F₁.ns.lt (by rw [← q]; exact Nat.lt_irrefl _), hn₂⟩
    · exact N₂ p hp
  refine storeX_L F₂ N₃ ?_ rfl rfl
  intro h₃ F₃ N₃'
  refine h _ _ _ _ _ _ ?_ rfl F₃ N₃' hlt (IntsAre.ofCarried ca₂)
  intro z hz
  simp only [List.contains_cons, List.contains_nil, Bool.or_false, beq_eq_false_iff_ne] at hz
  simp only [if_neg hz]
  rw [e]
theorem lev_res {Q : Flow → Shared → Prop} {news : List (Addr × Obj)}
   (KX : (hd.heap_39 w.params).In g) (T : Top hd.view_39 (looseW hd.view_39 []) mean mg mb g) (B : Below (callerA.deeper (envOfC "law" (scopeAt 12) Lc fa cd)) h₀ [envOfC "law" (scopeAt 12) Lc fa cd] g)
   (F : Fr g L s.heap m) (N : News g L s.heap news)
   (h : ∀ h' tk' m', Keep ["result"] m' m → (∃ t, m' "result" = some (.int 0 t)) → Fr g L h' m' → News g L h' news → Q .next { s with heap := h', toks := tk' }) :
   wpAny (model PySem.Challenge.rw_qu0006_01.row.prog w) ((callerA.deeper (envOfC "law" (scopeAt 12) Lc fa cd)).deeper (envOf "_levenshtein_distance" (scopeAt 8) L 42 (.ref 41)))
      (exec (nth levB 14) (envOf "_levenshtein_distance" (scopeAt 8) L 42 (.ref 41))) Q NoE s := by
  w_top off; revert KX; k_fill; intro KX
  conv in (occs := *) (scopeAt 12) => all_goals whnf
  conv in (occs := *) (scopeAt 8) => all_goals whnf
  conv in (nth _ _) => whnf
  k_steps
  refine h _ _ _ ?_ ⟨_, rfl⟩ (by assumption) (by assumption)
  intro z hz
  simp only [List.contains_cons, List.contains_nil, Bool.or_false, beq_eq_false_iff_ne] at hz
  simp only [if_neg hz]
theorem lev_ret {Q : Flow → Shared → Prop} {news : List (Addr × Obj)} {r : Int} {tr : Tok}
   (KX : (hd.heap_39 w.params).In g) (T : Top hd.view_39 (looseW hd.view_39 []) mean mg mb g) (B : Below (callerA.deeper (envOfC "law" (scopeAt 12) Lc fa cd)) h₀ [envOfC "law" (scopeAt 12) Lc fa cd] g)
   (F : Fr g L s.heap m) (H : Has m [("result", .int r tr)]) (N : News g L s.heap news)
   (h : ∀ tk' t', Q (.ret (.int r t')) { s with toks := tk' }) :
   wpAny (model PySem.Challenge.rw_qu0006_01.row.prog w) ((callerA.deeper (envOfC "law" (scopeAt 12) Lc fa cd)).deeper (envOf "_levenshtein_distance" (scopeAt 8) L 42 (.ref 41)))
      (exec (nth levB 16) (envOf "_levenshtein_distance" (scopeAt 8) L 42 (.ref 41))) Q NoE s := by
  w_top off; revert KX; k_fill; intro KX
  conv in (occs := *) (scopeAt 12) => all_goals whnf
  conv in (occs := *) (scopeAt 8) => all_goals whnf
  conv in (nth _ _) => whnf
  replace F := has_fr F H
  k_steps
  exact h _ _
end
end Mine
namespace Mine
section
variable {w : World} {h₀ g : Heap} {mg mb : Str → Option Value} {mean : ExcName → Option Value} {fa Lc L : Addr} {cd : Value} {s : Shared} {m : Str → Option Value}
theorem outer_loop {Q : Flow → Shared → Prop} {news : List (Addr × Obj)} {a b : Str} {ta tb tc tr : Tok} {D : Addr} {vr : List Value} {cn : Nat} {sz : Int}
   (KX : (hd.heap_39 w.params).In g) (T : Top hd.view_39 (looseW hd.view_39 []) mean mg mb g) (B : Below (callerA.deeper (envOfC "law" (scopeAt 12) Lc fa cd)) h₀ [envOfC "law" (scopeAt 12) Lc fa cd] g)
   (F : Fr g L s.heap m) (H : Has m [("b", .str b tb), ("a", .str a ta), ("max_cost", .int sz tc), ("row", .ref D), ("result", .int 0 tr)]) (N : News g L s.heap ((D, listOf vr.toArray cn) :: news))
   (off : OwnOff news [D]) (hi : IntsAre vr (rangeInts 2 2 a.length)) (la : a.length ≤ 2) (lb : b.length = a.length)
   (h1 : ((List.range b.length).any fun j => decide (sz < (rowOf a b (rowsAt a b j).2 j).2.2.1)) = true → ∀ h' tk' m' t', Fr g L h' m' → News g L h' news → Q (.ret (.int (sz + 1) t')) { s with heap := h', toks := tk' })
   (h0 : ¬ ((List.range b.length).any fun j => decide (sz < (rowOf a b (rowsAt a b j).2 j).2.2.1)) = true → ∀ h' tk' m', Fr g L h' m' → News g L h' news → (∃ t, m' "result" = some (.int (rowsAt a b b.length).1 t)) → Q .next { s with heap := h', toks := tk' }) :
   wpAny (model PySem.Challenge.rw_qu0006_01.row.prog w) ((callerA.deeper (envOfC "law" (scopeAt 12) Lc fa cd)).deeper (envOf "_levenshtein_distance" (scopeAt 8) L 42 (.ref 41)))
      (exec (nth levB 15) (envOf "_levenshtein_distance" (scopeAt 8) L 42 (.ref 41))) Q NoE s := by
  w_top off; revert KX; k_fill; intro KX
  conv in (occs := *) (scopeAt 12) => all_goals whnf
  conv in (occs := *) (scopeAt 8) => all_goals whnf
  have e : kstB m [("b", .str b tb)] = m := funext fun z => kstB_eq (fun p hp => H p (by simp at hp; simp [hp])) fun _ => rfl
  rw [← e] at F
  refine wpAny_For ?_
  iterate 12 walk1
  rw [e] at F
  refine range1_rows F N ?_
  intro h₁ tk₁ t₁ u₁ v₁ R₁ F₁ N₁ k₁
  refine for_range (n := b.length) (fun i m' nx => Keep ["substitute", "insert_delete", "distance", "result", "minimum", "index", "bchar", "bindex"] m' m ∧
      (∃ t, m' "result" = some (.int (rowsAt a b i).1 t)) ∧ (∀ j < i, ¬ sz < (rowOf a b (rowsAt a b j).2 j).2.2.1) ∧
      ∃ vr', nx = (D, listOf vr'.toArray cn) :: news ∧ IntsAre vr' (rowsAt a b i).2)
    rfl R₁ (small_one (by decide) (by decide) (by omega) (by omega)) (by rw [rangeSize_one]; omega) F₁ N₁ ⟨.refl, ⟨_, H _ (.tail _ (.tail _ (.tail _ (.tail _ (.head _)))))⟩, fun j hj => absurd hj (Nat.not_lt_zero j), vr, rfl, hi⟩ ?_ ?_
  · rintro i t m₁ news₁ h₂ tk it io hlt ⟨hk, ⟨tr, hr⟩, hno, vr', rfl, hi'⟩ hit F₂ N₂
    have ln := rowsAt_len a b i
    simp only [List.mem_cons, forall_eq_or_imp] at hit
    refine wpAny_assign_Name ?_
    refine storeX_L F₂ N₂ ?_ rfl rfl
    intro h₃ F₃ N₃
    have hk3 : Keep ["bindex"] (fun y : Str => if y = "bindex" then some (Value.int (i : Int) t) else m₁ y) m₁ := fun z hz => by
      simp only [List.contains_cons, List.contains_nil, Bool.or_false, beq_eq_false_iff_ne] at hz
      simp only [if_neg hz]
    have H3 : Has (fun y : Str => if y = "bindex" then some (Value.int (i : Int) t) else m₁ y) [("a", .str a ta), ("b", .str b tb), ("max_cost", .int sz tc), ("row", .ref D), ("bindex", .int (i : Int) t), ("result", .int (rowsAt a b i).1 tr)] := by
      have h1 : Has m₁ [("a", .str a ta), ("b", .str b tb), ("max_cost", .int sz tc), ("row", .ref D)] := Has.keep (m := m) (fun p hp => H p (by simp at hp ⊢; rcases hp with rfl | rfl | rfl | rfl <;> simp)) hk rfl
      exact has_cons (h1 _ (.head _)) (has_cons (h1 _ (.tail _ (.head _))) (has_cons (h1 _ (.tail _ (.tail _ (.head _)))) (has_cons (h1 _ (.tail _ (.tail _ (.tail _ (.head _))))) (has_cons rfl (has_cons hr has_nil)))))
    generalize (fun y : Str => if y = "bindex" then some (Value.int (i : Int) t) else m₁ y) = m₃ at F₃ hk3 H3
    refine outer_body (rest := (it, io) :: news) KX T B F₃ H3 (news_mv (l := [_]) N₃) (off_cons (by simp only [List.mem_cons, List.not_mem_nil, or_false, forall_eq]; exact fun e => hit.1 e.symm) off) hi' la lb (by rw [ln]) hlt ?_ ?_
    · intro hs h₄ tk₄ m₄ t₄ F₄ N₄
      exact h1 (List.any_eq_true.mpr ⟨i, List.mem_range.mpr hlt, decide_eq_true hs⟩) h₄ tk₄ m₄ t₄ F₄ (fun p hp => N₄ p (.tail _ hp))
    · intro hs h₄ tk₄ m₄ vr₄ hk4 hr4 F₄ N₄ hi4
      refine Turn.next F₄ (news_vm (l := [_]) N₄) ?_ ⟨((hk4.mono rfl).trans (hk3.mono rfl)).trans hk, hr4, ?_, vr₄, rfl, hi4⟩
      · simp only [List.singleton_append, List.mem_cons, forall_eq_or_imp]; exact hit
      · intro j hj
        by_cases ej : j = i
        · rw [ej]; exact hs
        · exact hno j (by omega)
  · rintro m' news' h' tk' ⟨hk, ⟨tr, hr⟩, hno, vr', rfl, hi'⟩ F' N'
    refine h0 (fun hh => ?_) h' tk' m' F' (fun p hp => N' p (.tail _ hp)) ⟨tr, hr⟩
    obtain ⟨j, hj, hd⟩ := List.any_eq_true.mp hh
    exact hno j (List.mem_range.mp hj) (of_decide_eq_true hd)

theorem lev_mat {Q : Flow → Shared → Prop} {news : List (Addr × Obj)} {a b : Str} {ta tb tc : Tok} {sz : Int}
   (KX : (hd.heap_39 w.params).In g) (T : Top hd.view_39 (looseW hd.view_39 []) mean mg mb g) (B : Below (callerA.deeper (envOfC "law" (scopeAt 12) Lc fa cd)) h₀ [envOfC "law" (scopeAt 12) Lc fa cd] g)
   (F : Fr g L s.heap m) (H : Has m [("a", .str a ta), ("b", .str b tb), ("max_cost", .int sz tc)]) (N : News g L s.heap news)
   (la : 1 ≤ a.length) (la2 : a.length ≤ 2) (lb : b.length = a.length) (sz2 : 2 ≤ sz) (sz3 : sz ≤ 3)
   (h : ∀ h' tk' m' t', Fr g L h' m' → News g L h' news → Q (.ret (.int (levM a b sz) t')) { s with heap := h', toks := tk' }) :
   wpAny (model PySem.Challenge.rw_qu0006_01.row.prog w) ((callerA.deeper (envOfC "law" (scopeAt 12) Lc fa cd)).deeper (envOf "_levenshtein_distance" (scopeAt 8) L 42 (.ref 41)))
      (execs (dropS 9 levB) (envOf "_levenshtein_distance" (scopeAt 8) L 42 (.ref 41))) Q NoE s := by
  conv in (dropS _ _) => whnf
  refine wpAny_execs_cons (lev_g9 KX T B F H N la la2 lb sz2 sz3 ?_)
  intro tk₁ F₁ N₁
  refine wpAny_execs_cons (lev_g10 KX T B F₁ H N₁ la la2 lb sz2 sz3 ?_)
  intro tk₂ F₂ N₂
  refine wpAny_execs_cons (lev_g11 KX T B F₂ H N₂ la la2 lb sz2 sz3 ?_)
  intro tk₃ F₃ N₃
  refine wpAny_execs_cons (lev_g12 KX T B F₃ H N₃ la la2 lb sz2 sz3 ?_)
  intro tk₄ F₄ N₄
  refine wpAny_execs_cons (lev_row KX T B F₄ (has_cons (H _ (.head _)) has_nil) N₄ la la2 ?_)
  intro h₅ tk₅ m₅ D vr c hk₅ hm₅ F₅ N₅ lt₅ hi₅
  refine wpAny_execs_cons (lev_res KX T B F₅ N₅ ?_)
  intro h₆ tk₆ m₆ hk₆ ⟨tr, hr₆⟩ F₆ N₆
  have H6 : Has m₆ [("a", .str a ta), ("b", .str b tb), ("max_cost", .int sz tc)] := Has.keep (Has.keep H hk₅ rfl) hk₆ rfl
  refine wpAny_execs_cons (outer_loop KX T B F₆ (has_cons (H6 _ (.tail _ (.head _))) (has_cons (H6 _ (.head _)) (has_cons (H6 _ (.tail _ (.tail _ (.head _)))) (has_cons ((hk₆ _ rfl).trans hm₅) (has_cons hr₆ has_nil))))) N₆ (fun p hp b hb => by rw [List.mem_singleton.mp hb]; exact Nat.ne_of_lt (lt₅ p hp)) hi₅ la2 lb ?_ ?_)
  · intro hy h' tk' m' t' F' N'
    have el : levM a b sz = sz + 1 := if_pos hy
    rw [el] at h
    exact h h' tk' m' t' F' N'
  · intro hn h' tk' m' F' N' ⟨t, hr⟩
    have el : levM a b sz = (rowsAt a b b.length).1 := if_neg hn
    rw [el] at h
    refine wpAny_execs_cons (lev_ret KX T B F' (has_cons hr has_nil) N' ?_)
    intro tk₇ t₇
    exact h _ _ _ _ F' N'
end
end Mine
namespace Mine
def testOf : Stmt → Option Expr
  | .While t _ _ _ => some t
  | _ => none
def testAt (n : Nat) : Expr := (testOf (nth levB n)).getD (.Constant .none 0 ⟨0, 0, 0, 0⟩)
section
variable {w : World} {h₀ g : Heap} {mg mb : Str → Option Value} {mean : ExcName → Option Value} {fa Lc L : Addr} {cd : Value} {s : Shared} {m : Str → Option Value}
theorem pre_test {Q : Bool → Shared → Prop} {news : List (Addr × Obj)} {a b : Str} {ta tb tp : Tok} {p : Nat}
   (KX : (hd.heap_39 w.params).In g) (T : Top hd.view_39 (looseW hd.view_39 []) mean mg mb g) (B : Below (callerA.deeper (envOfC "law" (scopeAt 12) Lc fa cd)) h₀ [envOfC "law" (scopeAt 12) Lc fa cd] g)
   (F : Fr g L s.heap m) (H : Has m [("a", .str a ta), ("b", .str b tb), ("pre", .int (p : Int) tp)]) (N : News g L s.heap news)
   (la : a.length = 2) (lb : b.length = 2) (hp : p ≤ 1)
   (h : ∀ h' tk', Fr g L h' m → News g L h' news → Q (Txt.item a (p : Int) == Txt.item b (p : Int)) { s with heap := h', toks := tk' }) :
   wpAny (model PySem.Challenge.rw_qu0006_01.row.prog w) ((callerA.deeper (envOfC "law" (scopeAt 12) Lc fa cd)).deeper (envOf "_levenshtein_distance" (scopeAt 8) L 42 (.ref 41)))
      (isTrue (testAt 2) (envOf "_levenshtein_distance" (scopeAt 8) L 42 (.ref 41)) (eval (testAt 2) (envOf "_levenshtein_distance" (scopeAt 8) L 42 (.ref 41)))) Q NoE s := by
  w_top off; revert KX; k_fill; intro KX
  conv in (occs := *) (scopeAt 12) => all_goals whnf
  conv in (occs := *) (scopeAt 8) => all_goals whnf
  conv in (occs := *) (testAt 2) => all_goals whnf
  have e : kstB m [("a", .str a ta), ("b", .str b tb), ("pre", .int (p : Int) tp)] = m := funext fun z => kstB_eq H fun _ => rfl
  replace F := has_fr F H
  k_steps
  · rw [← e, show (Txt.item a (p : Int) == Txt.item b (p : Int)) = true from by assumption] at h
    exact h _ _ (by assumption) (by assumption)
  · rw [← e, show (Txt.item a (p : Int) == Txt.item b (p : Int)) = false from by assumption] at h
    exact h _ _ (by assumption) (by assumption)
  · exfalso; omega
  · exfalso; omega
theorem post_testA {Q : Bool → Shared → Prop} {news : List (Addr × Obj)} {a b : Str} {ta tb tp : Tok}
   (KX : (hd.heap_39 w.params).In g) (T : Top hd.view_39 (looseW hd.view_39 []) mean mg mb g) (B : Below (callerA.deeper (envOfC "law" (scopeAt 12) Lc fa cd)) h₀ [envOfC "law" (scopeAt 12) Lc fa cd] g)
   (F : Fr g L s.heap m) (H : Has m [("a", .str a ta), ("b", .str b tb), ("post", .int 0 tp)]) (N : News g L s.heap news)
   (la : 1 ≤ a.length) (la2 : a.length ≤ 2) (lb : b.length = a.length) (na : Txt.slice a none none = a) (nb : Txt.slice b none none = b)
   (h : ∀ h' tk', Fr g L h' m → News g L h' news → Q (Txt.item a (-1) == Txt.item b (-1)) { s with heap := h', toks := tk' }) :
   wpAny (model PySem.Challenge.rw_qu0006_01.row.prog w) ((callerA.deeper (envOfC "law" (scopeAt 12) Lc fa cd)).deeper (envOf "_levenshtein_distance" (scopeAt 8) L 42 (.ref 41)))
      (isTrue (testAt 6) (envOf "_levenshtein_distance" (scopeAt 8) L 42 (.ref 41)) (eval (testAt 6) (envOf "_levenshtein_distance" (scopeAt 8) L 42 (.ref 41)))) Q NoE s := by
  w_top off; revert KX; k_fill; intro KX
  conv in (occs := *) (scopeAt 12) => all_goals whnf
  conv in (occs := *) (scopeAt 8) => all_goals whnf
  conv in (occs := *) (testAt 6) => all_goals whnf
  have e : kstB m [("a", .str a ta), ("b", .str b tb), ("post", .int 0 tp)] = m := funext fun z => kstB_eq H fun _ => rfl
  replace F := has_fr F H
  iterate 14 walk1
  refine slice_strN_nn_len (s := ⟨_, _, _, _, _⟩) F N ?_
  intro h₁ t₁ k₁ F₁ N₁ _
  clear F N
  rw [na]
  iterate 2 walk1
  · iterate 14 walk1
    refine slice_strN_nn_len (s := ⟨_, _, _, _, _⟩) F₁ N₁ ?_
    intro h₂ t₂ k₂ F₂ N₂ _
    clear F₁ N₁
    rw [nb]
    iterate 2 walk1
    · k_steps
      · rw [← e, show (Txt.item a (-1) == Txt.item b (-1)) = true from by assumption] at h
        exact h _ _ (by assumption) (by assumption)
      · rw [← e, show (Txt.item a (-1) == Txt.item b (-1)) = false from by assumption] at h
        exact h _ _ (by assumption) (by assumption)
    · exfalso; omega
  · exfalso; omega
theorem post_testB {Q : Bool → Shared → Prop} {news : List (Addr × Obj)} {a b : Str} {ta tb tp : Tok}
   (KX : (hd.heap_39 w.params).In g) (T : Top hd.view_39 (looseW hd.view_39 []) mean mg mb g) (B : Below (callerA.deeper (envOfC "law" (scopeAt 12) Lc fa cd)) h₀ [envOfC "law" (scopeAt 12) Lc fa cd] g)
   (F : Fr g L s.heap m) (H : Has m [("a", .str a ta), ("b", .str b tb), ("post", .int (-1) tp)]) (N : News g L s.heap news)
   (la : a.length = 2) (lb : b.length = 2) (na : (Txt.slice a none (some (-1))).length = 1) (nb : (Txt.slice b none (some (-1))).length = 1)
   (h : ∀ h' tk', Fr g L h' m → News g L h' news → Q (Txt.item a (-2) == Txt.item b (-2)) { s with heap := h', toks := tk' }) :
   wpAny (model PySem.Challenge.rw_qu0006_01.row.prog w) ((callerA.deeper (envOfC "law" (scopeAt 12) Lc fa cd)).deeper (envOf "_levenshtein_distance" (scopeAt 8) L 42 (.ref 41)))
      (isTrue (testAt 6) (envOf "_levenshtein_distance" (scopeAt 8) L 42 (.ref 41)) (eval (testAt 6) (envOf "_levenshtein_distance" (scopeAt 8) L 42 (.ref 41)))) Q NoE s := by
  w_top off; revert KX; k_fill; intro KX
  conv in (occs := *) (scopeAt 12) => all_goals whnf
  conv in (occs := *) (scopeAt 8) => all_goals whnf
  conv in (occs := *) (testAt 6) => all_goals whnf
  have e : kstB m [("a", .str a ta), ("b", .str b tb), ("post", .int (-1) tp)] = m := funext fun z => kstB_eq H fun _ => rfl
  replace F := has_fr F H
  k_steps
  · rw [← e, show (Txt.item a (-2) == Txt.item b (-2)) = true from by assumption] at h
    exact h _ _ (by assumption) (by assumption)
  · rw [← e, show (Txt.item a (-2) == Txt.item b (-2)) = false from by assumption] at h
    exact h _ _ (by assumption) (by assumption)
  · exfalso; omega
  · exfalso; omega
end
end Mine
namespace Mine
section
variable {w : World} {h₀ g : Heap} {mg mb : Str → Option Value} {mean : ExcName → Option Value} {fa Lc L : Addr} {cd : Value} {s : Shared} {m : Str → Option Value}
theorem lv_st0 {Q : Flow → Shared → Prop} {news : List (Addr × Obj)} {a b : Str} {ta tb : Tok}
   (KX : (hd.heap_39 w.params).In g) (T : Top hd.view_39 (looseW hd.view_39 []) mean mg mb g) (B : Below (callerA.deeper (envOfC "law" (scopeAt 12) Lc fa cd)) h₀ [envOfC "law" (scopeAt 12) Lc fa cd] g)
   (F : Fr g L s.heap m) (H : Has m [("a", .str a ta), ("b", .str b tb)]) (N : News g L s.heap news)
   (h1 : (a == b) = true → ∀ tk' t', Q (.ret (.int 0 t')) { s with toks := tk' }) (h0 : (a == b) = false → ∀ tk', Q .next { s with toks := tk' }) :
   wpAny (model PySem.Challenge.rw_qu0006_01.row.prog w) ((callerA.deeper (envOfC "law" (scopeAt 12) Lc fa cd)).deeper (envOf "_levenshtein_distance" (scopeAt 8) L 42 (.ref 41)))
      (exec (nth levB 0) (envOf "_levenshtein_distance" (scopeAt 8) L 42 (.ref 41))) Q NoE s := by
  w_top off; revert KX; k_fill; intro KX
  conv in (occs := *) (scopeAt 12) => all_goals whnf
  conv in (occs := *) (scopeAt 8) => all_goals whnf
  conv in (nth _ _) => whnf
  replace F := has_fr F H
  k_steps
  · exact h1 (by assumption) _ _
  · exact h0 (by assumption) _
theorem lv_st1 {Q : Flow → Shared → Prop} {news : List (Addr × Obj)}
   (KX : (hd.heap_39 w.params).In g) (T : Top hd.view_39 (looseW hd.view_39 []) mean mg mb g) (B : Below (callerA.deeper (envOfC "law" (scopeAt 12) Lc fa cd)) h₀ [envOfC "law" (scopeAt 12) Lc fa cd] g)
   (F : Fr g L s.heap m) (N : News g L s.heap news)
   (h : ∀ h' tk' m', Keep ["pre"] m' m → (∃ t, m' "pre" = some (.int 0 t)) → Fr g L h' m' → News g L h' news → Q .next { s with heap := h', toks := tk' }) :
   wpAny (model PySem.Challenge.rw_qu0006_01.row.prog w) ((callerA.deeper (envOfC "law" (scopeAt 12) Lc fa cd)).deeper (envOf "_levenshtein_distance" (scopeAt 8) L 42 (.ref 41)))
      (exec (nth levB 1) (envOf "_levenshtein_distance" (scopeAt 8) L 42 (.ref 41))) Q NoE s := by
  w_top off; revert KX; k_fill; intro KX
  conv in (occs := *) (scopeAt 12) => all_goals whnf
  conv in (occs := *) (scopeAt 8) => all_goals whnf
  conv in (nth _ _) => whnf
  k_steps
  refine h _ _ _ ?_ ⟨_, rfl⟩ (by assumption) (by assumption)
  intro z hz
  simp only [List.contains_cons, List.contains_nil, Bool.or_false, beq_eq_false_iff_ne] at hz
  simp only [if_neg hz]
theorem lv_st5 {Q : Flow → Shared → Prop} {news : List (Addr × Obj)}
   (KX : (hd.heap_39 w.params).In g) (T : Top hd.view_39 (looseW hd.view_39 []) mean mg mb g) (B : Below (callerA.deeper (envOfC "law" (scopeAt 12) Lc fa cd)) h₀ [envOfC "law" (scopeAt 12) Lc fa cd] g)
   (F : Fr g L s.heap m) (N : News g L s.heap news)
   (h : ∀ h' tk' m', Keep ["post"] m' m → (∃ t, m' "post" = some (.int 0 t)) → Fr g L h' m' → News g L h' news → Q .next { s with heap := h', toks := tk' }) :
   wpAny (model PySem.Challenge.rw_qu0006_01.row.prog w) ((callerA.deeper (envOfC "law" (scopeAt 12) Lc fa cd)).deeper (envOf "_levenshtein_distance" (scopeAt 8) L 42 (.ref 41)))
      (exec (nth levB 5) (envOf "_levenshtein_distance" (scopeAt 8) L 42 (.ref 41))) Q NoE s := by
  w_top off; revert KX; k_fill; intro KX
  conv in (occs := *) (scopeAt 12) => all_goals whnf
  conv in (occs := *) (scopeAt 8) => all_goals whnf
  conv in (nth _ _) => whnf
  k_steps
  refine h _ _ _ ?_ ⟨_, rfl⟩ (by assumption) (by assumption)
  intro z hz
  simp only [List.contains_cons, List.contains_nil, Bool.or_false, beq_eq_false_iff_ne] at hz
  simp only [if_neg hz]
theorem lv_st3 {Q : Flow → Shared → Prop} {news : List (Addr × Obj)} {a : Str} {ta tp : Tok} {p : Nat}
   (KX : (hd.heap_39 w.params).In g) (T : Top hd.view_39 (looseW hd.view_39 []) mean mg mb g) (B : Below (callerA.deeper (envOfC "law" (scopeAt 12) Lc fa cd)) h₀ [envOfC "law" (scopeAt 12) Lc fa cd] g)
   (F : Fr g L s.heap m) (H : Has m [("a", .str a ta), ("pre", .int (p : Int) tp)]) (N : News g L s.heap news) (la : a.length = 2)
   (h : ∀ h' tk' m', Keep ["a"] m' m → (∃ t, m' "a" = some (.str (Txt.slice a (some (p : Int)) none) t)) → Fr g L h' m' → News g L h' news → Q .next { s with heap := h', toks := tk' }) :
   wpAny (model PySem.Challenge.rw_qu0006_01.row.prog w) ((callerA.deeper (envOfC "law" (scopeAt 12) Lc fa cd)).deeper (envOf "_levenshtein_distance" (scopeAt 8) L 42 (.ref 41)))
      (exec (nth levB 3) (envOf "_levenshtein_distance" (scopeAt 8) L 42 (.ref 41))) Q NoE s := by
  w_top off; revert KX; k_fill; intro KX
  conv in (occs := *) (scopeAt 12) => all_goals whnf
  conv in (occs := *) (scopeAt 8) => all_goals whnf
  conv in (nth _ _) => whnf
  have e : kstB m [("a", .str a ta), ("pre", .int (p : Int) tp)] = m := funext fun z => kstB_eq H fun _ => rfl
  replace F := has_fr F H
  k_steps
  refine h _ _ _ ?_ ⟨_, rfl⟩ (by assumption) (by assumption)
  intro z hz
  simp only [List.contains_cons, List.contains_nil, Bool.or_false, beq_eq_false_iff_ne] at hz
  simp only [if_neg hz]
  rw [e]
theorem lv_st4 {Q : Flow → Shared → Prop} {news : List (Addr × Obj)} {a : Str} {ta tp : Tok} {p : Nat}
   (KX : (hd.heap_39 w.params).In g) (T : Top hd.view_39 (looseW hd.view_39 []) mean mg mb g) (B : Below (callerA.deeper (envOfC "law" (scopeAt 12) Lc fa cd)) h₀ [envOfC "law" (scopeAt 12) Lc fa cd] g)
   (F : Fr g L s.heap m) (H : Has m [("b", .str a ta), ("pre", .int (p : Int) tp)]) (N : News g L s.heap news) (la : a.length = 2)
   (h : ∀ h' tk' m', Keep ["b"] m' m → (∃ t, m' "b" = some (.str (Txt.slice a (some (p : Int)) none) t)) → Fr g L h' m' → News g L h' news → Q .next { s with heap := h', toks := tk' }) :
   wpAny (model PySem.Challenge.rw_qu0006_01.row.prog w) ((callerA.deeper (envOfC "law" (scopeAt 12) Lc fa cd)).deeper (envOf "_levenshtein_distance" (scopeAt 8) L 42 (.ref 41)))
      (exec (nth levB 4) (envOf "_levenshtein_distance" (scopeAt 8) L 42 (.ref 41))) Q NoE s := by
  w_top off; revert KX; k_fill; intro KX
  conv in (occs := *) (scopeAt 12) => all_goals whnf
  conv in (occs := *) (scopeAt 8) => all_goals whnf
  conv in (nth _ _) => whnf
  have e : kstB m [("b", .str a ta), ("pre", .int (p : Int) tp)] = m := funext fun z => kstB_eq H fun _ => rfl
  replace F := has_fr F H
  k_steps
  refine h _ _ _ ?_ ⟨_, rfl⟩ (by assumption) (by assumption)
  intro z hz
  simp only [List.contains_cons, List.contains_nil, Bool.or_false, beq_eq_false_iff_ne] at hz
  simp only [if_neg hz]
  rw [e]
theorem lv_st7A {Q : Flow → Shared → Prop} {news : List (Addr × Obj)} {a : Str} {ta tp : Tok}
   (KX : (hd.heap_39 w.params).In g) (T : Top hd.view_39 (looseW hd.view_39 []) mean mg mb g) (B : Below (callerA.deeper (envOfC "law" (scopeAt 12) Lc fa cd)) h₀ [envOfC "law" (scopeAt 12) Lc fa cd] g)
   (F : Fr g L s.heap m) (H : Has m [("a", .str a ta), ("post", .int 0 tp)]) (N : News g L s.heap news) (la : a.length ≤ 2)
   (h : ∀ h' tk' m', Keep ["a"] m' m → (∃ t, m' "a" = some (.str (Txt.slice a none none) t)) → Fr g L h' m' → News g L h' news → Q .next { s with heap := h', toks := tk' }) :
   wpAny (model PySem.Challenge.rw_qu0006_01.row.prog w) ((callerA.deeper (envOfC "law" (scopeAt 12) Lc fa cd)).deeper (envOf "_levenshtein_distance" (scopeAt 8) L 42 (.ref 41)))
      (exec (nth levB 7) (envOf "_levenshtein_distance" (scopeAt 8) L 42 (.ref 41))) Q NoE s := by
  w_top off; revert KX; k_fill; intro KX
  conv in (occs := *) (scopeAt 12) => all_goals whnf
  conv in (occs := *) (scopeAt 8) => all_goals whnf
  conv in (nth _ _) => whnf
  have e : kstB m [("a", .str a ta), ("post", .int 0 tp)] = m := funext fun z => kstB_eq H fun _ => rfl
  replace F := has_fr F H
  iterate 13 walk1
  refine slice_strN_nn_len (s := ⟨_, _, _, _, _⟩) F N ?_
  intro h₁ t₁ k₁ F₁ N₁ _
  clear F N
  k_steps
  refine h _ _ _ ?_ ⟨_, rfl⟩ (by assumption) (by assumption)
  intro z hz
  simp only [List.contains_cons, List.contains_nil, Bool.or_false, beq_eq_false_iff_ne] at hz
  simp only [if_neg hz]
  rw [e]
theorem lv_st7B {Q : Flow → Shared → Prop} {news : List (Addr × Obj)} {a : Str} {ta tp : Tok}
   (KX : (hd.heap_39 w.params).In g) (T : Top hd.view_39 (looseW hd.view_39 []) mean mg mb g) (B : Below (callerA.deeper (envOfC "law" (scopeAt 12) Lc fa cd)) h₀ [envOfC "law" (scopeAt 12) Lc fa cd] g)
   (F : Fr g L s.heap m) (H : Has m [("a", .str a ta), ("post", .int (-1) tp)]) (N : News g L s.heap news) (la : a.length = 2)
   (h : ∀ h' tk' m', Keep ["a"] m' m → (∃ t, m' "a" = some (.str (Txt.slice a none (some (-1))) t)) → Fr g L h' m' → News g L h' news → Q .next { s with heap := h', toks := tk' }) :
   wpAny (model PySem.Challenge.rw_qu0006_01.row.prog w) ((callerA.deeper (envOfC "law" (scopeAt 12) Lc fa cd)).deeper (envOf "_levenshtein_distance" (scopeAt 8) L 42 (.ref 41)))
      (exec (nth levB 7) (envOf "_levenshtein_distance" (scopeAt 8) L 42 (.ref 41))) Q NoE s := by
  w_top off; revert KX; k_fill; intro KX
  conv in (occs := *) (scopeAt 12) => all_goals whnf
  conv in (occs := *) (scopeAt 8) => all_goals whnf
  conv in (nth _ _) => whnf
  have e : kstB m [("a", .str a ta), ("post", .int (-1) tp)] = m := funext fun z => kstB_eq H fun _ => rfl
  replace F := has_fr F H
  k_steps
  refine h _ _ _ ?_ ⟨_, rfl⟩ (by assumption) (by assumption)
  intro z hz
  simp only [List.contains_cons, List.contains_nil, Bool.or_false, beq_eq_false_iff_ne] at hz
  simp only [if_neg hz]
  rw [e]
theorem lv_st8A {Q : Flow → Shared → Prop} {news : List (Addr × Obj)} {a : Str} {ta tp : Tok}
   (KX : (hd.heap_39 w.params).In g) (T : Top hd.view_39 (looseW hd.view_39 []) mean mg mb g) (B : Below (callerA.deeper (envOfC "law" (scopeAt 12) Lc fa cd)) h₀ [envOfC "law" (scopeAt 12) Lc fa cd] g)
   (F : Fr g L s.heap m) (H : Has m [("b", .str a ta), ("post", .int 0 tp)]) (N : News g L s.heap news) (la : a.length ≤ 2)
   (h : ∀ h' tk' m', Keep ["b"] m' m → (∃ t, m' "b" = some (.str (Txt.slice a none none) t)) → Fr g L h' m' → News g L h' news → Q .next { s with heap := h', toks := tk' }) :
   wpAny (model PySem.Challenge.rw_qu0006_01.row.prog w) ((callerA.deeper (envOfC "law" (scopeAt 12) Lc fa cd)).deeper (envOf "_levenshtein_distance" (scopeAt 8) L 42 (.ref 41)))
      (exec (nth levB 8) (envOf "_levenshtein_distance" (scopeAt 8) L 42 (.ref 41))) Q NoE s := by
  w_top off; revert KX; k_fill; intro KX
  conv in (occs := *) (scopeAt 12) => all_goals whnf
  conv in (occs := *) (scopeAt 8) => all_goals whnf
  conv in (nth _ _) => whnf
  have e : kstB m [("b", .str a ta), ("post", .int 0 tp)] = m := funext fun z => kstB_eq H fun _ => rfl
  replace F := has_fr F H
  iterate 13 walk1
  refine slice_strN_nn_len (s := ⟨_, _, _, _, _⟩) F N ?_
  intro h₁ t₁ k₁ F₁ N₁ _
  clear F N
  k_steps
  refine h _ _ _ ?_ ⟨_, rfl⟩ (by assumption) (by assumption)
  intro z hz
  simp only [List.contains_cons, List.contains_nil, Bool.or_false, beq_eq_false_iff_ne] at hz
  simp only [if_neg hz]
  rw [e]
theorem lv_st8B {Q : Flow → Shared → Prop} {news : List (Addr × Obj)} {a : Str} {ta tp : Tok}
   (KX : (hd.heap_39 w.params).In g) (T : Top hd.view_39 (looseW hd.view_39 []) mean mg mb g) (B : Below (callerA.deeper (envOfC "law" (scopeAt 12) Lc fa cd)) h₀ [envOfC "law" (scopeAt 12) Lc fa cd] g)
   (F : Fr g L s.heap m) (H : Has m [("b", .str a ta), ("post", .int (-1) tp)]) (N : News g L s.heap news) (la : a.length = 2)
   (h : ∀ h' tk' m', Keep ["b"] m' m → (∃ t, m' "b" = some (.str (Txt.slice a none (some (-1))) t)) → Fr g L h' m' → News g L h' news → Q .next { s with heap := h', toks := tk' }) :
   wpAny (model PySem.Challenge.rw_qu0006_01.row.prog w) ((callerA.deeper (envOfC "law" (scopeAt 12) Lc fa cd)).deeper (envOf "_levenshtein_distance" (scopeAt 8) L 42 (.ref 41)))
      (exec (nth levB 8) (envOf "_levenshtein_distance" (scopeAt 8) L 42 (.ref 41))) Q NoE s := by
  w_top off; revert KX; k_fill; intro KX
  conv in (occs := *) (scopeAt 12) => all_goals whnf
  conv in (occs := *) (scopeAt 8) => all_goals whnf
  conv in (nth _ _) => whnf
  have e : kstB m [("b", .str a ta), ("post", .int (-1) tp)] = m := funext fun z => kstB_eq H fun _ => rfl
  replace F := has_fr F H
  k_steps
  refine h _ _ _ ?_ ⟨_, rfl⟩ (by assumption) (by assumption)
  intro z hz
  simp only [List.contains_cons, List.contains_nil, Bool.or_false, beq_eq_false_iff_ne] at hz
  simp only [if_neg hz]
  rw [e]
theorem lv_preB {Q : Flow → Shared → Prop} {news : List (Addr × Obj)} {tp : Tok} {p : Nat}
   (KX : (hd.heap_39 w.params).In g) (T : Top hd.view_39 (looseW hd.view_39 []) mean mg mb g) (B : Below (callerA.deeper (envOfC "law" (scopeAt 12) Lc fa cd)) h₀ [envOfC "law" (scopeAt 12) Lc fa cd] g)
   (F : Fr g L s.heap m) (H : Has m [("pre", .int (p : Int) tp)]) (N : News g L s.heap news)
   (h : ∀ h' tk' m', Keep ["pre"] m' m → (∃ t, m' "pre" = some (.int ((p : Int) + 1) t)) → Fr g L h' m' → News g L h' news → Q .next { s with heap := h', toks := tk' }) :
   wpAny (model PySem.Challenge.rw_qu0006_01.row.prog w) ((callerA.deeper (envOfC "law" (scopeAt 12) Lc fa cd)).deeper (envOf "_levenshtein_distance" (scopeAt 8) L 42 (.ref 41)))
      (execs (bodyOf (nth levB 2)) (envOf "_levenshtein_distance" (scopeAt 8) L 42 (.ref 41))) Q NoE s := by
  w_top off; revert KX; k_fill; intro KX
  conv in (occs := *) (scopeAt 12) => all_goals whnf
  conv in (occs := *) (scopeAt 8) => all_goals whnf
  conv in (bodyOf _) => whnf
  have e : kstB m [("pre", .int (p : Int) tp)] = m := funext fun z => kstB_eq H fun _ => rfl
  replace F := has_fr F H
  k_steps
  refine h _ _ _ ?_ ⟨_, rfl⟩ (by assumption) (by assumption)
  intro z hz
  simp only [List.contains_cons, List.contains_nil, Bool.or_false, beq_eq_false_iff_ne] at hz
  simp only [if_neg hz]
  rw [e]
theorem lv_postB {Q : Flow → Shared → Prop} {news : List (Addr × Obj)} {tp : Tok}
   (KX : (hd.heap_39 w.params).In g) (T : Top hd.view_39 (looseW hd.view_39 []) mean mg mb g) (B : Below (callerA.deeper (envOfC "law" (scopeAt 12) Lc fa cd)) h₀ [envOfC "law" (scopeAt 12) Lc fa cd] g)
   (F : Fr g L s.heap m) (H : Has m [("post", .int 0 tp)]) (N : News g L s.heap news)
   (h : ∀ h' tk' m', Keep ["post"] m' m → (∃ t, m' "post" = some (.int (-1) t)) → Fr g L h' m' → News g L h' news → Q .next { s with heap := h', toks := tk' }) :
   wpAny (model PySem.Challenge.rw_qu0006_01.row.prog w) ((callerA.deeper (envOfC "law" (scopeAt 12) Lc fa cd)).deeper (envOf "_levenshtein_distance" (scopeAt 8) L 42 (.ref 41)))
      (execs (bodyOf (nth levB 6)) (envOf "_levenshtein_distance" (scopeAt 8) L 42 (.ref 41))) Q NoE s := by
  w_top off; revert KX; k_fill; intro KX
  conv in (occs := *) (scopeAt 12) => all_goals whnf
  conv in (occs := *) (scopeAt 8) => all_goals whnf
  conv in (bodyOf _) => whnf
  have e : kstB m [("post", .int 0 tp)] = m := funext fun z => kstB_eq H fun _ => rfl
  replace F := has_fr F H
  k_steps
  refine h _ _ _ ?_ ⟨_, rfl⟩ (by assumption) (by assumption)
  intro z hz
  simp only [List.contains_cons, List.contains_nil, Bool.or_false, beq_eq_false_iff_ne] at hz
  simp only [if_neg hz]
  rw [e]
end
end Mine
namespace Mine
/-- what the walk wants of a word -/
structure WOk (a : Str) : Prop where
  len : a.length = 2
  s0 : Txt.slice a (some 0) none = a
  s1 : (Txt.slice a (some 1) none).length = 1
  s1n : Txt.slice (Txt.slice a (some 1) none) none none = Txt.slice a (some 1) none
  i1 : Txt.item (Txt.slice a (some 1) none) (-1) = Txt.item a 1
  n : Txt.slice a none none = a
  m1 : (Txt.slice a none (some (-1))).length = 1
  im1 : Txt.item a (-1) = Txt.item a 1
  im2 : Txt.item a (-2) = Txt.item a 0
def levF (a b : Str) (sz : Int) : Int :=
  if (a == b) = true then 0
  else if (Txt.item a 0 == Txt.item b 0) = true then levM (Txt.slice a (some 1) none) (Txt.slice b (some 1) none) sz
  else if (Txt.item a 1 == Txt.item b 1) = true then levM (Txt.slice a none (some (-1))) (Txt.slice b none (some (-1))) sz
  else levM a b sz
section
variable {w : World} {h₀ g : Heap} {mg mb : Str → Option Value} {mean : ExcName → Option Value} {fa Lc L : Addr} {cd : Value} {s : Shared} {m : Str → Option Value}
theorem pre_loop {Q : Flow → Shared → Prop} {news : List (Addr × Obj)} {a b : Str} {ta tb tp : Tok}
   (KX : (hd.heap_39 w.params).In g) (T : Top hd.view_39 (looseW hd.view_39 []) mean mg mb g) (B : Below (callerA.deeper (envOfC "law" (scopeAt 12) Lc fa cd)) h₀ [envOfC "law" (scopeAt 12) Lc fa cd] g)
   (F : Fr g L s.heap m) (H : Has m [("a", .str a ta), ("b", .str b tb), ("pre", .int 0 tp)]) (N : News g L s.heap news) (la : a.length = 2) (lb : b.length = 2)
   (hne : ¬ ((Txt.item a 0 == Txt.item b 0) = true ∧ (Txt.item a 1 == Txt.item b 1) = true))
   (h : ∀ (p : Nat) h' tk' m', (p = 0 ∧ (Txt.item a 0 == Txt.item b 0) = false) ∨ (p = 1 ∧ (Txt.item a 0 == Txt.item b 0) = true) → Keep ["pre"] m' m → (∃ t, m' "pre" = some (.int (p : Int) t)) → Fr g L h' m' → News g L h' news → Q .next { s with heap := h', toks := tk' }) :
   wpAny (model PySem.Challenge.rw_qu0006_01.row.prog w) ((callerA.deeper (envOfC "law" (scopeAt 12) Lc fa cd)).deeper (envOf "_levenshtein_distance" (scopeAt 8) L 42 (.ref 41)))
      (exec (nth levB 2) (envOf "_levenshtein_distance" (scopeAt 8) L 42 (.ref 41))) Q NoE s := by
  refine while_rule (fun n s' => ∃ (p : Nat) (h' : Heap) (tk' : Nat) (m' : Str → Option Value), n = 2 - p ∧ p ≤ 1 ∧ s' = { s with heap := h', toks := tk' } ∧ Keep ["pre"] m' m ∧ (∃ t, m' "pre" = some (.int (p : Int) t)) ∧ Fr g L h' m' ∧ News g L h' news ∧ (p = 1 → (Txt.item a 0 == Txt.item b 0) = true)) ?_ 2
    ⟨0, s.heap, s.toks, m, rfl, by decide, rfl, .refl, ⟨tp, H _ (.tail _ (.tail _ (.head _)))⟩, F, N, fun e => absurd e (by decide)⟩
  rintro n s' ⟨p, h₁, tk₁, m₁, rfl, hp, rfl, hk, ⟨t, ht⟩, F₁, N₁, h1⟩
  have Hab : Has m₁ [("a", .str a ta), ("b", .str b tb)] := Has.keep (m := m) (fun q hq => H q (by simp at hq ⊢; rcases hq with rfl | rfl <;> simp)) hk rfl
  refine pre_test (p := p) KX T B F₁ (has_cons (Hab _ (.head _)) (has_cons (Hab _ (.tail _ (.head _))) (has_cons ht has_nil))) N₁ la lb hp ?_
  intro h₂ tk₂ F₂ N₂
  cases hq : (Txt.item a (p : Int) == Txt.item b (p : Int)) with
  | true =>
    rw [if_pos rfl]
    have hp0 : p = 0 := by
      rcases Nat.lt_or_ge p 1 with hlt | hge
      · omega
      · have e1 : p = 1 := by omega
        subst e1
        exact absurd ⟨h1 rfl, hq⟩ hne
    subst hp0
    refine lv_preB KX T B F₂ (has_cons ht has_nil) N₂ ?_
    intro h₃ tk₃ m₃ hk₃ ht₃ F₃ N₃
    exact ⟨rfl, 1, by decide, 1, h₃, tk₃, m₃, rfl, by decide, rfl, hk₃.trans hk, ht₃, F₃, N₃, fun _ => hq⟩
  | false =>
    rw [if_neg (by decide)]
    refine h p h₂ tk₂ m₁ ?_ hk ⟨t, ht⟩ F₂ N₂
    rcases Nat.lt_or_ge p 1 with hlt | hge
    · have e1 : p = 0 := by omega
      subst e1
      exact .inl ⟨rfl, hq⟩
    · have e1 : p = 1 := by omega
      exact .inr ⟨e1, h1 e1⟩
/-- the back's loop: no turn -/
theorem post_loop0 {Q : Flow → Shared → Prop} {news : List (Addr × Obj)} {a b : Str} {ta tb tp : Tok}
   (KX : (hd.heap_39 w.params).In g) (T : Top hd.view_39 (looseW hd.view_39 []) mean mg mb g) (B : Below (callerA.deeper (envOfC "law" (scopeAt 12) Lc fa cd)) h₀ [envOfC "law" (scopeAt 12) Lc fa cd] g)
   (F : Fr g L s.heap m) (H : Has m [("a", .str a ta), ("b", .str b tb), ("post", .int 0 tp)]) (N : News g L s.heap news) (la : 1 ≤ a.length) (la2 : a.length ≤ 2) (lb : b.length = a.length) (na : Txt.slice a none none = a) (nb : Txt.slice b none none = b)
   (hne : (Txt.item a (-1) == Txt.item b (-1)) = false)
   (h : ∀ h' tk', Fr g L h' m → News g L h' news → Q .next { s with heap := h', toks := tk' }) :
   wpAny (model PySem.Challenge.rw_qu0006_01.row.prog w) ((callerA.deeper (envOfC "law" (scopeAt 12) Lc fa cd)).deeper (envOf "_levenshtein_distance" (scopeAt 8) L 42 (.ref 41)))
      (exec (nth levB 6) (envOf "_levenshtein_distance" (scopeAt 8) L 42 (.ref 41))) Q NoE s := by
  refine while_rule (fun n s' => s' = s) ?_ 0 rfl
  rintro n s' rfl
  refine post_testA KX T B F H N la la2 lb na nb ?_
  intro h₂ tk₂ F₂ N₂
  rw [hne, if_neg (by decide)]
  exact h _ _ F₂ N₂
/-- the back's loop: one turn -/
theorem post_loop1 {Q : Flow → Shared → Prop} {news : List (Addr × Obj)} {a b : Str} {ta tb tp : Tok}
   (KX : (hd.heap_39 w.params).In g) (T : Top hd.view_39 (looseW hd.view_39 []) mean mg mb g) (B : Below (callerA.deeper (envOfC "law" (scopeAt 12) Lc fa cd)) h₀ [envOfC "law" (scopeAt 12) Lc fa cd] g)
   (F : Fr g L s.heap m) (H : Has m [("a", .str a ta), ("b", .str b tb), ("post", .int 0 tp)]) (N : News g L s.heap news) (wa : WOk a) (wb : WOk b)
   (h1 : (Txt.item a 1 == Txt.item b 1) = true) (h0 : (Txt.item a 0 == Txt.item b 0) = false)
   (h : ∀ h' tk' m', Keep ["post"] m' m → (∃ t, m' "post" = some (.int (-1) t)) → Fr g L h' m' → News g L h' news → Q .next { s with heap := h', toks := tk' }) :
   wpAny (model PySem.Challenge.rw_qu0006_01.row.prog w) ((callerA.deeper (envOfC "law" (scopeAt 12) Lc fa cd)).deeper (envOf "_levenshtein_distance" (scopeAt 8) L 42 (.ref 41)))
      (exec (nth levB 6) (envOf "_levenshtein_distance" (scopeAt 8) L 42 (.ref 41))) Q NoE s := by
  refine while_rule (fun n s' => (n = 1 ∧ s' = s) ∨ (n = 0 ∧ ∃ (h' : Heap) (tk' : Nat) (m' : Str → Option Value), s' = { s with heap := h', toks := tk' } ∧ Keep ["post"] m' m ∧ (∃ t, m' "post" = some (.int (-1) t)) ∧ Fr g L h' m' ∧ News g L h' news)) ?_ 1 (.inl ⟨rfl, rfl⟩)
  rintro n s' (⟨rfl, rfl⟩ | ⟨rfl, h₁, tk₁, m₁, rfl, hk, ⟨t, ht⟩, F₁, N₁⟩)
  · refine post_testA KX T B F H N (by rw [wa.len]; decide) (by rw [wa.len]; decide) (by rw [wa.len, wb.len]) wa.n wb.n ?_
    intro h₂ tk₂ F₂ N₂
    rw [wa.im1, wb.im1, h1, if_pos rfl]
    refine lv_postB KX T B F₂ (has_cons (H _ (.tail _ (.tail _ (.head _)))) has_nil) N₂ ?_
    intro h₃ tk₃ m₃ hk₃ ht₃ F₃ N₃
    exact ⟨rfl, 0, by decide, .inr ⟨rfl, h₃, tk₃, m₃, rfl, hk₃, ht₃, F₃, N₃⟩⟩
  · have Hab : Has m₁ [("a", .str a ta), ("b", .str b tb)] := Has.keep (m := m) (fun q hq => H q (by simp at hq ⊢; rcases hq with rfl | rfl <;> simp)) hk rfl
    refine post_testB KX T B F₁ (has_cons (Hab _ (.head _)) (has_cons (Hab _ (.tail _ (.head _))) (has_cons ht has_nil))) N₁ wa.len wb.len wa.m1 wb.m1 ?_
    intro h₂ tk₂ F₂ N₂
    rw [wa.im2, wb.im2, h0, if_neg (by decide)]
    exact h _ _ _ hk ⟨t, ht⟩ F₂ N₂

theorem lev_body {Q : Flow → Shared → Prop} {news : List (Addr × Obj)} {a b : Str} {ta tb tc : Tok} {sz : Int}
   (KX : (hd.heap_39 w.params).In g) (T : Top hd.view_39 (looseW hd.view_39 []) mean mg mb g) (B : Below (callerA.deeper (envOfC "law" (scopeAt 12) Lc fa cd)) h₀ [envOfC "law" (scopeAt 12) Lc fa cd] g)
   (F : Fr g L s.heap m) (H : Has m [("a", .str a ta), ("b", .str b tb), ("max_cost", .int sz tc)]) (N : News g L s.heap news) (wa : WOk a) (wb : WOk b) (sz2 : 2 ≤ sz) (sz3 : sz ≤ 3)
   (hne : (a == b) = false → ¬ ((Txt.item a 0 == Txt.item b 0) = true ∧ (Txt.item a 1 == Txt.item b 1) = true))
   (h : ∀ h' tk' m' t', Fr g L h' m' → News g L h' news → Q (.ret (.int (levF a b sz) t')) { s with heap := h', toks := tk' }) :
   wpAny (model PySem.Challenge.rw_qu0006_01.row.prog w) ((callerA.deeper (envOfC "law" (scopeAt 12) Lc fa cd)).deeper (envOf "_levenshtein_distance" (scopeAt 8) L 42 (.ref 41)))
      (execs levB (envOf "_levenshtein_distance" (scopeAt 8) L 42 (.ref 41))) Q NoE s := by
  conv in levB => whnf
  refine wpAny_execs_cons (lv_st0 KX T B F (has_cons (H _ (.head _)) (has_cons (H _ (.tail _ (.head _))) has_nil)) N ?_ ?_)
  · intro he tk' t'
    have el : levF a b sz = 0 := if_pos he
    rw [el] at h
    exact h _ _ _ _ F N
  intro he tk₀
  have hne := hne he
  have el : levF a b sz = if (Txt.item a 0 == Txt.item b 0) = true then levM (Txt.slice a (some 1) none) (Txt.slice b (some 1) none) sz
      else if (Txt.item a 1 == Txt.item b 1) = true then levM (Txt.slice a none (some (-1))) (Txt.slice b none (some (-1))) sz else levM a b sz := if_neg (by rw [he]; decide)
  rw [el] at h
  refine wpAny_execs_cons (lv_st1 KX T B F N ?_)
  intro h₁ tk₁ m₁ hk₁ ⟨tp, hp₁⟩ F₁ N₁
  have H1 := Has.keep H hk₁ rfl
  refine wpAny_execs_cons (pre_loop KX T B F₁ (has_cons (H1 _ (.head _)) (has_cons (H1 _ (.tail _ (.head _))) (has_cons hp₁ has_nil))) N₁ wa.len wb.len hne ?_)
  intro p h₂ tk₂ m₂ hp hk₂ ⟨tp₂, hp₂⟩ F₂ N₂
  have H2 := Has.keep H1 hk₂ rfl
  refine wpAny_execs_cons (lv_st3 (p := p) KX T B F₂ (has_cons (H2 _ (.head _)) (has_cons hp₂ has_nil)) N₂ wa.len ?_)
  intro h₃ tk₃ m₃ hk₃ ⟨ta₃, ha₃⟩ F₃ N₃
  refine wpAny_execs_cons (lv_st4 (p := p) KX T B F₃ (has_cons ((hk₃ _ rfl).trans (H2 _ (.tail _ (.head _)))) (has_cons ((hk₃ _ rfl).trans hp₂) has_nil)) N₃ wb.len ?_)
  intro h₄ tk₄ m₄ hk₄ ⟨tb₄, hb₄⟩ F₄ N₄
  have ha₄ := (hk₄ "a" rfl).trans ha₃
  have hc₄ := (hk₄ "max_cost" rfl).trans ((hk₃ "max_cost" rfl).trans (H2 _ (.tail _ (.tail _ (.head _)))))
  refine wpAny_execs_cons (lv_st5 KX T B F₄ N₄ ?_)
  intro h₅ tk₅ m₅ hk₅ ⟨tq, hq₅⟩ F₅ N₅
  have ha₅ := (hk₅ "a" rfl).trans ha₄
  have hb₅ := (hk₅ "b" rfl).trans hb₄
  have hc₅ := (hk₅ "max_cost" rfl).trans hc₄
  clear hk₅ hk₄ hk₃ hk₂ hk₁ ha₄ hb₄ hc₄ ha₃ H1 H2 H F F₁ F₂ F₃ F₄ N N₁ N₂ N₃ N₄
  rcases hp with ⟨rfl, h0⟩ | ⟨rfl, h0⟩
  · rw [if_neg (by rw [h0]; decide)] at h
    simp only [Int.ofNat_eq_natCast, Int.natCast_zero] at ha₅ hb₅
    rw [wa.s0] at ha₅
    rw [wb.s0] at hb₅
    cases h1 : (Txt.item a 1 == Txt.item b 1) with
    | true =>
      rw [if_pos h1] at h
      refine wpAny_execs_cons (post_loop1 KX T B F₅ (has_cons ha₅ (has_cons hb₅ (has_cons hq₅ has_nil))) N₅ wa wb h1 h0 ?_)
      intro h₆ tk₆ m₆ hk₆ ⟨tq₆, hq₆⟩ F₆ N₆
      refine wpAny_execs_cons (lv_st7B KX T B F₆ (has_cons ((hk₆ _ rfl).trans ha₅) (has_cons hq₆ has_nil)) N₆ wa.len ?_)
      intro h₇ tk₇ m₇ hk₇ ⟨ta₇, ha₇⟩ F₇ N₇
      refine wpAny_execs_cons (lv_st8B KX T B F₇ (has_cons ((hk₇ _ rfl).trans ((hk₆ _ rfl).trans hb₅)) (has_cons ((hk₇ _ rfl).trans hq₆) has_nil)) N₇ wb.len ?_)
      intro h₈ tk₈ m₈ hk₈ ⟨tb₈, hb₈⟩ F₈ N₈
      refine lev_mat KX T B F₈ (has_cons ((hk₈ _ rfl).trans ha₇) (has_cons hb₈ (has_cons ((hk₈ _ rfl).trans ((hk₇ _ rfl).trans ((hk₆ _ rfl).trans hc₅))) has_nil))) N₈ (by rw [wa.m1]; decide) (by rw [wa.m1]; decide) (by rw [wa.m1, wb.m1]) sz2 sz3 ?_
      intro h₉ tk₉ m₉ t₉ F₉ N₉
      exact h _ _ _ _ F₉ N₉
    | false =>
      rw [if_neg (by rw [h1]; decide)] at h
      refine wpAny_execs_cons (post_loop0 KX T B F₅ (has_cons ha₅ (has_cons hb₅ (has_cons hq₅ has_nil))) N₅ (by rw [wa.len]; decide) (by rw [wa.len]; decide) (by rw [wa.len, wb.len]) wa.n wb.n (by rw [wa.im1, wb.im1]; exact h1) ?_)
      intro h₆ tk₆ F₆ N₆
      refine wpAny_execs_cons (lv_st7A KX T B F₆ (has_cons ha₅ (has_cons hq₅ has_nil)) N₆ (by rw [wa.len]; decide) ?_)
      intro h₇ tk₇ m₇ hk₇ ⟨ta₇, ha₇⟩ F₇ N₇
      refine wpAny_execs_cons (lv_st8A KX T B F₇ (has_cons ((hk₇ _ rfl).trans hb₅) (has_cons ((hk₇ _ rfl).trans hq₅) has_nil)) N₇ (by rw [wb.len]; decide) ?_)
      intro h₈ tk₈ m₈ hk₈ ⟨tb₈, hb₈⟩ F₈ N₈
      rw [wa.n] at ha₇
      rw [wb.n] at hb₈
      refine lev_mat KX T B F₈ (has_cons ((hk₈ _ rfl).trans ha₇) (has_cons hb₈ (has_cons ((hk₈ _ rfl).trans ((hk₇ _ rfl).trans hc₅)) has_nil))) N₈ (by rw [wa.len]; decide) (by rw [wa.len]; decide) (by rw [wa.len, wb.len]) sz2 sz3 ?_
      intro h₉ tk₉ m₉ t₉ F₉ N₉
      exact h _ _ _ _ F₉ N₉
  · rw [if_pos h0] at h
    have h1 : (Txt.item a 1 == Txt.item b 1) = false := by
      cases h1 : (Txt.item a 1 == Txt.item b 1) with
      | true => exact absurd ⟨h0, h1⟩ hne
      | false => rfl
    refine wpAny_execs_cons (post_loop0 KX T B F₅ (has_cons ha₅ (has_cons hb₅ (has_cons hq₅ has_nil))) N₅ (by rw [show ((1 : Nat) : Int) = 1 from rfl, wa.s1]; decide) (by rw [show ((1 : Nat) : Int) = 1 from rfl, wa.s1]; decide) (by rw [show ((1 : Nat) : Int) = 1 from rfl, wa.s1, wb.s1]) wa.s1n wb.s1n (by rw [show ((1 : Nat) : Int) = 1 from rfl, wa.i1, wb.i1]; exact h1) ?_)
    intro h₆ tk₆ F₆ N₆
    refine wpAny_execs_cons (lv_st7A KX T B F₆ (has_cons ha₅ (has_cons hq₅ has_nil)) N₆ (by rw [show ((1 : Nat) : Int) = 1 from rfl, wa.s1]; decide) ?_)
    intro h₇ tk₇ m₇ hk₇ ⟨ta₇, ha₇⟩ F₇ N₇
    refine wpAny_execs_cons (lv_st8A KX T B F₇ (has_cons ((hk₇ _ rfl).trans hb₅) (has_cons ((hk₇ _ rfl).trans hq₅) has_nil)) N₇ (by rw [show ((1 : Nat) : Int) = 1 from rfl, wb.s1]; decide) ?_)
    intro h₈ tk₈ m₈ hk₈ ⟨tb₈, hb₈⟩ F₈ N₈
    rw [show ((1 : Nat) : Int) = 1 from rfl, wa.s1n] at ha₇
    rw [show ((1 : Nat) : Int) = 1 from rfl, wb.s1n] at hb₈
    refine lev_mat KX T B F₈ (has_cons ((hk₈ _ rfl).trans ha₇) (has_cons hb₈ (has_cons ((hk₈ _ rfl).trans ((hk₇ _ rfl).trans hc₅)) has_nil))) N₈ (by rw [wa.s1]; decide) (by rw [wa.s1]; decide) (by rw [wa.s1, wb.s1]) sz2 sz3 ?_
    intro h₉ tk₉ m₉ t₉ F₉ N₉
    exact h _ _ _ _ F₉ N₉
end
end Mine
namespace Mine
def wordS (x : Int) : Str := Txt.item "aAbB" (x.fmod 4) ++ Txt.item "cCdD" (x.fdiv 4)
theorem word_facts : ∀ x : Fin 16, (wordS (x.val : Int)).length = 2 ∧ Txt.slice (wordS (x.val : Int)) (some 0) none = wordS (x.val : Int) ∧ (Txt.slice (wordS (x.val : Int)) (some 1) none).length = 1 ∧
    Txt.slice (Txt.slice (wordS (x.val : Int)) (some 1) none) none none = Txt.slice (wordS (x.val : Int)) (some 1) none ∧ Txt.item (Txt.slice (wordS (x.val : Int)) (some 1) none) (-1) = Txt.item (wordS (x.val : Int)) 1 ∧
    Txt.slice (wordS (x.val : Int)) none none = wordS (x.val : Int) ∧ (Txt.slice (wordS (x.val : Int)) none (some (-1))).length = 1 ∧ Txt.item (wordS (x.val : Int)) (-1) = Txt.item (wordS (x.val : Int)) 1 ∧ Txt.item (wordS (x.val : Int)) (-2) = Txt.item (wordS (x.val : Int)) 0 := by decide +kernel
theorem word_ok {x : Int} (x0 : 0 ≤ x) (x1 : x < 16) : WOk (wordS x) :=
  fin16 (P := fun x => WOk (wordS x)) (fun k => let ⟨a, b, c, d, e, f, g, h, i⟩ := word_facts k; ⟨a, b, c, d, e, f, g, h, i⟩) x0 x1
theorem word_ne_fin : ∀ x y : Fin 16, (wordS (x.val : Int) == wordS (y.val : Int)) = false → ¬ ((Txt.item (wordS (x.val : Int)) 0 == Txt.item (wordS (y.val : Int)) 0) = true ∧ (Txt.item (wordS (x.val : Int)) 1 == Txt.item (wordS (y.val : Int)) 1) = true) := by decide +kernel
theorem word_ne {x y : Int} (x0 : 0 ≤ x) (x1 : x < 16) (y0 : 0 ≤ y) (y1 : y < 16) : (wordS x == wordS y) = false → ¬ ((Txt.item (wordS x) 0 == Txt.item (wordS y) 0) = true ∧ (Txt.item (wordS x) 1 == Txt.item (wordS y) 1) = true) :=
  fin16 (P := fun x => (wordS x == wordS y) = false → ¬ ((Txt.item (wordS x) 0 == Txt.item (wordS y) 0) = true ∧ (Txt.item (wordS x) 1 == Txt.item (wordS y) 1) = true))
    (fun k => fin16 (P := fun y => (wordS (k.val : Int) == wordS y) = false → ¬ ((Txt.item (wordS (k.val : Int)) 0 == Txt.item (wordS y) 0) = true ∧ (Txt.item (wordS (k.val : Int)) 1 == Txt.item (wordS y) 1) = true)) (word_ne_fin k) y0 y1) x0 x1
/-- how far the bits say -/
def awayI (x y : Int) : Int := ([0, 1, 2, 2] : List Int).getD ((Builtin.bitXor x y).fmod 4).toNat 0 + ([0, 1, 2, 2] : List Int).getD ((Builtin.bitXor x y).fdiv 4).toNat 0
theorem lev_away_fin : ∀ x y : Fin 16, ∀ z : Fin 2, (if levF (wordS (x.val : Int)) (wordS (y.val : Int)) ((z.val : Int) + 2) < (z.val : Int) + 3 then levF (wordS (x.val : Int)) (wordS (y.val : Int)) ((z.val : Int) + 2) else (z.val : Int) + 3)
    = (if awayI (x.val : Int) (y.val : Int) < (z.val : Int) + 3 then awayI (x.val : Int) (y.val : Int) else (z.val : Int) + 3) := by decide +kernel
end Mine
namespace Mine
section
variable {w : World} {h₀ : Heap} {mg mb : Str → Option Value} {mean : ExcName → Option Value} {fa L : Addr} {cd : Value} {s : Shared} {m : Str → Option Value}
theorem lev_call {Q : Value → Shared → Prop} {news : List (Addr × Obj)} {a b : Str} {sz : Int} {ta tb tc : Tok}
   (KX : (hd.heap_39 w.params).In h₀) (T : Top hd.view_39 (looseW hd.view_39 []) mean mg mb h₀) (K0 : Below callerA h₀ [] h₀)
   (F : Fr h₀ L s.heap m) (N : News h₀ L s.heap news) (wa : WOk a) (wb : WOk b) (sz2 : 2 ≤ sz) (sz3 : sz ≤ 3)
   (hne : (a == b) = false → ¬ ((Txt.item a 0 == Txt.item b 0) = true ∧ (Txt.item a 1 == Txt.item b 1) = true))
   (h : ∀ h' tk' t', Fr h₀ L h' m → News h₀ L h' news → Q (.int (levF a b sz) t') { s with heap := h', toks := tk' }) :
   wpAny (model PySem.Challenge.rw_qu0006_01.row.prog w) (callerA.deeper (envOfC "law" (scopeAt 12) L fa cd)) (call (.ref 42) [.str a ta, .str b tb, .int sz tc]) Q NoE s := by
  w_top off; revert KX; k_fill; intro KX
  refine wpAny_call ?_
  refine' code_def K0 F KX N T (env := envOfC "law" (scopeAt 12) L fa cd) rfl rfl rfl ?k6 ?k7 ?k8 ?k9 ?kB ?_ ?c2 ?c3 ?c4 ?c5
  case k6 => k_dflt k_is
  case k7 => k_dflt k_is
  case k8 => k_room
  case k9 => exact BindsTo.of_eq rfl
  case c5 => decide
  case kB => exact locs rfl
  case c2 => exact rfl
  case c3 => exact rfl
  case c4 => exact rfl
  intro g' L' h' FG' F' N' B' X' T'
  refine wpAny_mono (lev_body (a := a) (b := b) (sz := sz) X' T' B' F' (has_cons rfl (has_cons rfl (has_cons rfl has_nil))) N' wa wb sz2 sz3 hne ?_) (fun _ _ x => x) (fun _ _ x => x.elim)
  intro h'' tk'' m'' t'' F'' N''
  exact leaveK_ F'' N'' (fun F3 N3 => h _ _ _ F3 N3)
theorem told_st {Q : Flow → Shared → Prop} {ox oy : Obj} {rest : List (Addr × Obj)} {x y sz : Int} {tx ty ts : Tok}
   (KX : (hd.heap_39 w.params).In h₀) (T : Top hd.view_39 (looseW hd.view_39 []) mean mg mb h₀) (K0 : Below callerA h₀ [] h₀)
   (F : Fr h₀ L s.heap m) (H : Has m [("size", .int sz ts)]) (N : News h₀ L s.heap ((L+1+1, oy) :: (L+1, ox) :: rest))
   (hx : ox.data = .cell (some (.int x tx))) (hy : oy.data = .cell (some (.int y ty))) (x0 : 0 ≤ x) (x1 : x < 16) (y0 : 0 ≤ y) (y1 : y < 16) (sz2 : 2 ≤ sz) (sz3 : sz ≤ 3)
   (h : ∀ h' tk' m', Keep ["told"] m' m → (∃ t, m' "told" = some (.int (levF (wordS x) (wordS y) sz) t)) → Fr h₀ L h' m' → News h₀ L h' ((L+1+1, oy) :: (L+1, ox) :: rest) → Q .next { s with heap := h', toks := tk' }) :
   wpAny (model PySem.Challenge.rw_qu0006_01.row.prog w) (callerA.deeper (envOfC "law" (scopeAt 12) L fa cd)) (exec (nth (bodyOf (nth (bodyOf (nth lawB 9)) 1)) 0) (envOfC "law" (scopeAt 12) L fa cd)) Q NoE s := by
  w_top off; revert KX; k_fill; intro KX
  conv in (occs := *) (scopeAt 12) => all_goals whnf
  conv in (nth _ _) => whnf
  have e : kstB m [("size", .int sz ts)] = m := funext fun z => kstB_eq H fun _ => rfl
  replace F := has_fr F H
  iterate 66 walk1
  refine lev_call (a := wordS x) (b := wordS y) (by k_asm) (by k_asm) (by k_asm) (by k_asm) (by k_asm) (word_ok x0 x1) (word_ok y0 y1) sz2 sz3 (word_ne x0 x1 y0 y1) ?_
  intro h₉ tk₉ t₉ F₉ N₉
  refine storeX_L F₉ N₉ ?_ rfl rfl
  intro h' F' N'
  refine h _ _ _ ?_ ⟨_, rfl⟩ F' N'
  intro z hz
  simp only [List.contains_cons, List.contains_nil, Bool.or_false, beq_eq_false_iff_ne] at hz
  simp only [if_neg hz]
  rw [e]
end
end Mine
namespace Mine
/-- is one of these just the size away? -/
def crowdB (sz x : Int) (ts : List Int) : Bool := ts.any fun y => decide (levF (wordS x) (wordS y) sz = sz)
theorem xor_fin : ∀ x y : Fin 16, 0 ≤ Builtin.bitXor (x.val : Int) (y.val : Int) ∧ Builtin.bitXor (x.val : Int) (y.val : Int) < 16 := by decide +kernel
theorem xor_in {x y : Int} (x0 : 0 ≤ x) (x1 : x < 16) (y0 : 0 ≤ y) (y1 : y < 16) : 0 ≤ Builtin.bitXor x y ∧ Builtin.bitXor x y < 16 :=
  fin16 (P := fun x => 0 ≤ Builtin.bitXor x y ∧ Builtin.bitXor x y < 16) (fun k => fin16 (P := fun y => 0 ≤ Builtin.bitXor (k.val : Int) y ∧ Builtin.bitXor (k.val : Int) y < 16) (xor_fin k) y0 y1) x0 x1
theorem told_fin : ∀ x y : Fin 16, ∀ z : Fin 2, (if (z.val : Int) + 2 + 1 < levF (wordS (x.val : Int)) (wordS (y.val : Int)) ((z.val : Int) + 2) then (z.val : Int) + 2 + 1 else levF (wordS (x.val : Int)) (wordS (y.val : Int)) ((z.val : Int) + 2))
    = (if (z.val : Int) + 2 + 1 < awayI (x.val : Int) (y.val : Int) then (z.val : Int) + 2 + 1 else awayI (x.val : Int) (y.val : Int)) := by decide +kernel
theorem told_eq {x y sz : Int} (x0 : 0 ≤ x) (x1 : x < 16) (y0 : 0 ≤ y) (y1 : y < 16) (sz2 : 2 ≤ sz) (sz3 : sz ≤ 3) :
    (if sz + 1 < levF (wordS x) (wordS y) sz then sz + 1 else levF (wordS x) (wordS y) sz) = (if sz + 1 < awayI x y then sz + 1 else awayI x y) := by
  have hz : ∃ z : Fin 2, sz = (z.val : Int) + 2 := ⟨⟨(sz - 2).toNat, by omega⟩, by simp only; omega⟩
  obtain ⟨z, rfl⟩ := hz
  exact fin16 (P := fun x => (if (z.val : Int) + 2 + 1 < levF (wordS x) (wordS y) ((z.val : Int) + 2) then (z.val : Int) + 2 + 1 else levF (wordS x) (wordS y) ((z.val : Int) + 2)) = (if (z.val : Int) + 2 + 1 < awayI x y then (z.val : Int) + 2 + 1 else awayI x y))
    (fun k => fin16 (P := fun y => (if (z.val : Int) + 2 + 1 < levF (wordS (k.val : Int)) (wordS y) ((z.val : Int) + 2) then (z.val : Int) + 2 + 1 else levF (wordS (k.val : Int)) (wordS y) ((z.val : Int) + 2)) = (if (z.val : Int) + 2 + 1 < awayI (k.val : Int) y then (z.val : Int) + 2 + 1 else awayI (k.val : Int) y))
      (fun l => told_fin k l z) y0 y1) x0 x1
section
variable {w : World} {h₀ : Heap} {mg mb : Str → Option Value} {mean : ExcName → Option Value} {fa L : Addr} {cd : Value} {s : Shared} {m : Str → Option Value}
theorem away_call {Q : Value → Shared → Prop} {news : List (Addr × Obj)} {x y : Int} {tx ty : Tok}
   (KX : (hd.heap_39 w.params).In h₀) (T : Top hd.view_39 (looseW hd.view_39 []) mean mg mb h₀) (K0 : Below callerA h₀ [] h₀)
   (F : Fr h₀ L s.heap m) (N : News h₀ L s.heap news) (x0 : 0 ≤ Builtin.bitXor x y) (x1 : Builtin.bitXor x y < 16)
   (h : ∀ h' tk' t', Fr h₀ L h' m → News h₀ L h' news → Q (.int (awayI x y) t') { s with heap := h', toks := tk' }) :
   wpAny (model PySem.Challenge.rw_qu0006_01.row.prog w) (callerA.deeper (envOfC "law" (scopeAt 12) L fa cd)) (call (.ref 56) [.int x tx, .int y ty]) Q NoE s := by
  w_top off; revert KX; k_fill; intro KX
  refine wpAny_call ?_
  refine' code_def K0 F KX N T (env := envOfC "law" (scopeAt 12) L fa cd) rfl rfl rfl ?k6 ?k7 ?k8 ?k9 ?kB ?_ ?c2 ?c3 ?c4 ?c5
  case k6 => k_dflt k_is
  case k7 => k_dflt k_is
  case k8 => k_room
  case k9 => exact BindsTo.of_eq rfl
  case c5 => decide
  case kB => exact locs rfl
  case c2 => exact rfl
  case c3 => exact rfl
  case c4 => exact rfl
  intro g' L' h' FG' F' N' B' X' T'
  clear F N
  k_steps
  refine h _ _ _ (by assumption) (news_sub (l := _ :: _ :: news) (by assumption) fun p hp => .tail _ (.tail _ hp))
theorem told_if {Q : Flow → Shared → Prop} {ox oy : Obj} {rest : List (Addr × Obj)} {x y sz told : Int} {tx ty ts tt : Tok}
   (KX : (hd.heap_39 w.params).In h₀) (T : Top hd.view_39 (looseW hd.view_39 []) mean mg mb h₀) (K0 : Below callerA h₀ [] h₀)
   (F : Fr h₀ L s.heap m) (H : Has m [("size", .int sz ts), ("told", .int told tt)]) (N : News h₀ L s.heap ((L+1+1, oy) :: (L+1, ox) :: rest))
   (hx : ox.data = .cell (some (.int x tx))) (hy : oy.data = .cell (some (.int y ty))) (x0 : 0 ≤ Builtin.bitXor x y) (x1 : Builtin.bitXor x y < 16)
   (heq : (if sz + 1 < told then sz + 1 else told) = (if sz + 1 < awayI x y then sz + 1 else awayI x y))
   (h : ∀ h' tk', Fr h₀ L h' m → News h₀ L h' ((L+1+1, oy) :: (L+1, ox) :: rest) → Q .next { s with heap := h', toks := tk' }) :
   wpAny (model PySem.Challenge.rw_qu0006_01.row.prog w) (callerA.deeper (envOfC "law" (scopeAt 12) L fa cd)) (exec (nth (bodyOf (nth (bodyOf (nth lawB 9)) 1)) 1) (envOfC "law" (scopeAt 12) L fa cd)) Q NoE s := by
  w_top off; revert KX; k_fill; intro KX
  conv in (occs := *) (scopeAt 12) => all_goals whnf
  conv in (nth _ _) => whnf
  have e : kstB m [("size", .int sz ts), ("told", .int told tt)] = m := funext fun z => kstB_eq H fun _ => rfl
  replace F := has_fr F H
  iterate 27 walk1
  refine away_call (by k_asm) (by k_asm) (by k_asm) (by k_asm) (by k_asm) x0 x1 ?_
  intro h₉ tk₉ t₉ F₉ N₉
  k_steps
  · exact absurd heq (by assumption)
  · rw [← e] at h
    exact h _ _ (by assumption) (by assumption)
theorem told_brk {Q : Flow → Shared → Prop} {news : List (Addr × Obj)} {sz told : Int} {ts tt : Tok}
   (KX : (hd.heap_39 w.params).In h₀) (T : Top hd.view_39 (looseW hd.view_39 []) mean mg mb h₀) (K0 : Below callerA h₀ [] h₀)
   (F : Fr h₀ L s.heap m) (H : Has m [("size", .int sz ts), ("told", .int told tt)]) (N : News h₀ L s.heap news)
   (h1 : told = sz → ∀ h' tk' m', Keep ["crowded"] m' m → m' "crowded" = some (.bool true) → Fr h₀ L h' m' → News h₀ L h' news → Q .brk { s with heap := h', toks := tk' })
   (h0 : told ≠ sz → ∀ tk', Q .next { s with toks := tk' }) :
   wpAny (model PySem.Challenge.rw_qu0006_01.row.prog w) (callerA.deeper (envOfC "law" (scopeAt 12) L fa cd)) (exec (nth (bodyOf (nth (bodyOf (nth lawB 9)) 1)) 2) (envOfC "law" (scopeAt 12) L fa cd)) Q NoE s := by
  w_top off; revert KX; k_fill; intro KX
  conv in (occs := *) (scopeAt 12) => all_goals whnf
  conv in (nth _ _) => whnf
  have e : kstB m [("size", .int sz ts), ("told", .int told tt)] = m := funext fun z => kstB_eq H fun _ => rfl
  replace F := has_fr F H
  k_steps
  · refine h1 (by assumption) _ _ _ ?_ rfl (by assumption) (by assumption)
    intro z hz
    simp only [List.contains_cons, List.contains_nil, Bool.or_false, beq_eq_false_iff_ne] at hz
    simp only [if_neg hz]
    rw [e]
  · exact h0 (by assumption) _

theorem crowd_loop {Q : Flow → Shared → Prop} {ox oy : Obj} {rest : List (Addr × Obj)} {at' : Addr} {vt : List Value} {ts : List Int} {nt : Nat} {x sz : Int} {tx tz : Tok} {vy : Option Value}
   (KX : (hd.heap_39 w.params).In h₀) (T : Top hd.view_39 (looseW hd.view_39 []) mean mg mb h₀) (K0 : Below callerA h₀ [] h₀)
   (F : Fr h₀ L s.heap m) (H : Has m [("taken", .ref at'), ("size", .int sz tz), ("crowded", .bool false)]) (N : News h₀ L s.heap ((L+1+1, oy) :: (L+1, ox) :: rest)) (off : OwnOff rest [L+1+1, L+1])
   (hx : ox.data = .cell (some (.int x tx))) (hy : oy.data = .cell vy) (ht : (at', listOf vt.toArray nt) ∈ rest) (hi : IntsAre vt ts) (x0 : 0 ≤ x) (x1 : x < 16) (t16 : ∀ y ∈ ts, 0 ≤ y ∧ y < 16) (sz2 : 2 ≤ sz) (sz3 : sz ≤ 3)
   (h : ∀ h' tk' m' oy' vy', Keep ["told", "crowded"] m' m → m' "crowded" = some (.bool (crowdB sz x ts)) → Fr h₀ L h' m' → News h₀ L h' ((L+1+1, oy') :: (L+1, ox) :: rest) → oy'.data = .cell vy' → Q .next { s with heap := h', toks := tk' }) :
   wpAny (model PySem.Challenge.rw_qu0006_01.row.prog w) (callerA.deeper (envOfC "law" (scopeAt 12) L fa cd)) (exec (nth (bodyOf (nth lawB 9)) 1) (envOfC "law" (scopeAt 12) L fa cd)) Q NoE s := by
  have F0 := has_fr F H
  refine wpAny_For ?_
  refine nameX_L F0 rfl ?_ rfl rfl
  refine for_ints (ns := ts) (fun i m' nx => Keep ["told"] m' m ∧ (∀ y ∈ ts.take i, levF (wordS x) (wordS y) sz ≠ sz) ∧ ∃ oy' vy', nx = (L+1+1, oy') :: (L+1, ox) :: rest ∧ oy'.data = .cell vy')
    rfl (.tail _ (.tail _ ht)) hi F N ⟨.refl, by simp, oy, vy, rfl, hy⟩ ?_ ?_ ?_
  · rintro i m' nx ⟨_, _, _, _, rfl, _⟩
    exact .tail _ (.tail _ ht)
  · rintro i n t m₁ news₁ h₁ tk it io hn ⟨hk, hno, oy, vy, rfl, hy⟩ hit F N
    have hn16 := t16 n (List.mem_of_getElem? hn)
    have i1 : it ≠ L + 1 + 1 := fun e => hit _ (.head _) e.symm
    have i2 : it ≠ L + 1 := fun e => hit _ (.tail _ (.head _)) e.symm
    have i3 : ∀ p ∈ rest, p.1 ≠ it := fun p hp => hit p (.tail _ (.tail _ hp))
    refine wpAny_assign_Name ?_
    refine storeX_C F (news_mv (l := [_]) N) rfl (.head ?_) hy ?_ rfl rfl
    · intro p hp
      rcases List.mem_cons.mp hp with rfl | hp
      · exact i1
      rcases List.mem_cons.mp hp with rfl | hp
      · exact neN (by dsimp only; omega)
      · exact off p hp _ (.head _)
    intro h₂ o₂ F₂ N₂ hy₂
    have N2 : News h₀ L h₂ ((L+1+1, o₂) :: (L+1, ox) :: (it, io) :: rest) := news_sub N₂ (fun p hp => by
      rcases List.mem_cons.mp hp with rfl | hp
      · exact .head _
      rcases List.mem_cons.mp hp with rfl | hp
      · exact .tail _ (.tail _ (.head _))
      rcases List.mem_cons.mp hp with rfl | hp
      · exact .tail _ (.head _)
      · exact .tail _ (.tail _ (.tail _ hp)))
    have hs := (hk "size" rfl).trans (H _ (.tail _ (.head _)))
    refine wpAny_execs_cons (told_st KX T K0 F₂ (has_cons hs has_nil) N2 hx hy₂ x0 x1 hn16.1 hn16.2 sz2 sz3 ?_)
    intro h₃ tk₃ m₃ hk₃ ⟨t₃, ht₃⟩ F₃ N₃
    have xb := xor_in x0 x1 hn16.1 hn16.2
    have hs₃ := (hk₃ "size" rfl).trans hs
    refine wpAny_execs_cons (told_if KX T K0 F₃ (has_cons hs₃ (has_cons ht₃ has_nil)) N₃ hx hy₂ xb.1 xb.2 (told_eq x0 x1 hn16.1 hn16.2 sz2 sz3) ?_)
    intro h₄ tk₄ F₄ N₄
    refine wpAny_execs_cons (told_brk KX T K0 F₄ (has_cons hs₃ (has_cons ht₃ has_nil)) N₄ ?_ ?_)
    · intro he h₅ tk₅ m₅ hk₅ hc₅ F₅ N₅
      refine h _ _ m₅ o₂ _ ((hk₅.mono rfl).trans ((hk₃.mono rfl).trans (hk.mono rfl))) ?_ F₅ (news_sub N₅ fun p hp => ?_) hy₂
      · rw [hc₅, show crowdB sz x ts = true from List.any_eq_true.mpr ⟨n, List.mem_of_getElem? hn, decide_eq_true he⟩]
      · rcases List.mem_cons.mp hp with rfl | hp
        · exact .head _
        rcases List.mem_cons.mp hp with rfl | hp
        · exact .tail _ (.head _)
        · exact .tail _ (.tail _ (.tail _ hp))
    · intro he tk₅
      refine wpAny_execs_nil (Turn.next F₄ (news_sub N₄ fun p hp => ?_) ?_ ⟨hk₃.trans hk, ?_, o₂, _, rfl, hy₂⟩)
      · rcases List.mem_cons.mp hp with rfl | hp
        · exact .tail _ (.tail _ (.head _))
        rcases List.mem_cons.mp hp with rfl | hp
        · exact .head _
        rcases List.mem_cons.mp hp with rfl | hp
        · exact .tail _ (.head _)
        · exact .tail _ (.tail _ (.tail _ hp))
      · exact List.forall_mem_cons.mpr ⟨i1.symm, List.forall_mem_cons.mpr ⟨i2.symm, i3⟩⟩
      · intro y hy
        rw [List.take_add_one, hn] at hy
        rcases List.mem_append.mp hy with hy | hy
        · exact hno y hy
        · rw [show y = n by simpa using hy]; exact he
  · rintro m' news' h' tk' ⟨hk, hno, oy, vy, rfl, hy⟩ F N
    rw [List.take_length] at hno
    refine h h' tk' m' oy vy (hk.mono rfl) ?_ F N hy
    rw [(hk "crowded" rfl).trans (H _ (.tail _ (.tail _ (.head _))))]
    have : crowdB sz x ts = false := by
      cases hc : crowdB sz x ts with
      | false => rfl
      | true =>
        obtain ⟨y, hy, hd⟩ := List.any_eq_true.mp hc
        exact absurd (of_decide_eq_true hd) (hno y hy)
    rw [this]
end
end Mine
namespace Mine
/-- one turn of the taking -/
def take1 (sz : Int) (ts : List Int) (x : Int) : List Int := if crowdB sz x ts = true then ts else ts ++ [x]
theorem take1_ok {sz : Int} {os : List Int} (h16 : ∀ x ∈ os, 0 ≤ x ∧ x < 16) (i : Nat) (hi : i ≤ os.length) : (∀ y ∈ (os.take i).foldl (take1 sz) [], 0 ≤ y ∧ y < 16) ∧ ((os.take i).foldl (take1 sz) []).length ≤ i := by
  induction i with
  | zero => simp
  | succ i ih =>
    have hn : os[i]? = some (os[i]'(by omega)) := by simp
    rw [take_fold hn]
    obtain ⟨h1, h2⟩ := ih (by omega)
    generalize (os.take i).foldl (take1 sz) [] = ts at h1 h2 ⊢
    unfold take1
    split
    · exact ⟨h1, by omega⟩
    · refine ⟨fun y hy => ?_, by simp; omega⟩
      rcases List.mem_append.mp hy with hy | hy
      · exact h1 y hy
      · rw [List.mem_singleton.mp hy]; exact h16 _ (List.getElem_mem _)
section
variable {w : World} {h₀ : Heap} {mg mb : Str → Option Value} {mean : ExcName → Option Value} {fa L : Addr} {cd : Value} {s : Shared} {m : Str → Option Value}
theorem tk0 {Q : Flow → Shared → Prop} {rest : List (Addr × Obj)}
   (KX : (hd.heap_39 w.params).In h₀) (T : Top hd.view_39 (looseW hd.view_39 []) mean mg mb h₀) (K0 : Below callerA h₀ [] h₀)
   (F : Fr h₀ L s.heap m) (N : News h₀ L s.heap rest)
   (h : ∀ h' tk' D m', Keep ["taken"] m' m → m' "taken" = some (.ref D) → Fr h₀ L h' m' → News h₀ L h' ((D, listOf #[] 0) :: rest) → (∀ p ∈ rest, p.1 < D) → Q .next { s with heap := h', toks := tk' }) :
   wpAny (model PySem.Challenge.rw_qu0006_01.row.prog w) (callerA.deeper (envOfC "law" (scopeAt 12) L fa cd)) (exec (nth lawB 8) (envOfC "law" (scopeAt 12) L fa cd)) Q NoE s := by
  w_top off; revert KX; k_fill; intro KX
  conv in (occs := *) (scopeAt 12) => all_goals whnf
  conv in (nth _ _) => whnf
  k_steps
  rename_i l1 h' F' N'
  refine h _ _ _ _ ?_ rfl F' N' l1
  intro z hz
  simp only [List.contains_cons, List.contains_nil, Bool.or_false, beq_eq_false_iff_ne] at hz
  simp only [if_neg hz]
theorem cr0 {Q : Flow → Shared → Prop} {rest : List (Addr × Obj)}
   (KX : (hd.heap_39 w.params).In h₀) (T : Top hd.view_39 (looseW hd.view_39 []) mean mg mb h₀) (K0 : Below callerA h₀ [] h₀)
   (F : Fr h₀ L s.heap m) (N : News h₀ L s.heap rest)
   (h : ∀ h' tk' m', Keep ["crowded"] m' m → m' "crowded" = some (.bool false) → Fr h₀ L h' m' → News h₀ L h' rest → Q .next { s with heap := h', toks := tk' }) :
   wpAny (model PySem.Challenge.rw_qu0006_01.row.prog w) (callerA.deeper (envOfC "law" (scopeAt 12) L fa cd)) (exec (nth (bodyOf (nth lawB 9)) 0) (envOfC "law" (scopeAt 12) L fa cd)) Q NoE s := by
  w_top off; revert KX; k_fill; intro KX
  conv in (occs := *) (scopeAt 12) => all_goals whnf
  conv in (nth _ _) => whnf
  k_steps
  refine h _ _ _ ?_ rfl (by assumption) (by assumption)
  intro z hz
  simp only [List.contains_cons, List.contains_nil, Bool.or_false, beq_eq_false_iff_ne] at hz
  simp only [if_neg hz]
theorem ap1 {Q : Flow → Shared → Prop} {ox oy : Obj} {rest : List (Addr × Obj)} {at' : Addr} {vt : List Value} {nt : Nat} {x : Int} {tx : Tok} {c : Bool}
   (KX : (hd.heap_39 w.params).In h₀) (T : Top hd.view_39 (looseW hd.view_39 []) mean mg mb h₀) (K0 : Below callerA h₀ [] h₀)
   (F : Fr h₀ L s.heap m) (H : Has m [("crowded", .bool c), ("taken", .ref at')])
   (N : News h₀ L s.heap ((L+1+1, oy) :: (L+1, ox) :: (at', listOf vt.toArray nt) :: rest)) (off : OwnOff rest [L+1+1, L+1, at'])
   (hx : ox.data = .cell (some (.int x tx))) (ht8 : vt.length ≤ 16) (at1 : @LT.lt Nat _ (L + 1 + 1) at')
   (h1 : c = true → ∀ h' tk', Fr h₀ L h' m → News h₀ L h' ((L+1+1, oy) :: (L+1, ox) :: (at', listOf vt.toArray nt) :: rest) → Q .next { s with heap := h', toks := tk' })
   (h0 : c = false → ∀ h' tk', Fr h₀ L h' m → News h₀ L h' ((L+1+1, oy) :: (L+1, ox) :: (at', listOf (vt ++ [Value.int x tx]).toArray (nt + 1)) :: rest) → Q .next { s with heap := h', toks := tk' }) :
   wpAny (model PySem.Challenge.rw_qu0006_01.row.prog w) (callerA.deeper (envOfC "law" (scopeAt 12) L fa cd)) (exec (nth (bodyOf (nth lawB 9)) 2) (envOfC "law" (scopeAt 12) L fa cd)) Q NoE s := by
  w_top off; revert KX; k_fill; intro KX
  conv in (occs := *) (scopeAt 12) => all_goals whnf
  conv in (nth _ _) => whnf
  have e : kstB m [("crowded", .bool c), ("taken", .ref at')] = m := funext fun z => kstB_eq H fun _ => rfl
  replace F := has_fr F H
  cases c with
  | true =>
    k_steps
    rw [← e] at h1
    exact h1 rfl _ _ (by assumption) (by assumption)
  | false =>
    k_steps
    rename_i F9 N9
    rw [e] at F9
    simp only [List.push_toArray] at N9
    exact h0 rfl _ _ F9 N9
theorem taken_loop {Q : Flow → Shared → Prop} {ox oy : Obj} {at' ao : Addr} {vo : List Value} {os : List Int} {no nt : Nat} {sz : Int} {tz : Tok} {vx vy : Option Value}
   (KX : (hd.heap_39 w.params).In h₀) (T : Top hd.view_39 (looseW hd.view_39 []) mean mg mb h₀) (K0 : Below callerA h₀ [] h₀)
   (F : Fr h₀ L s.heap m) (H : Has m [("order", .ref ao), ("taken", .ref at'), ("size", .int sz tz)]) (N : News h₀ L s.heap [(at', listOf #[] nt), (ao, listOf vo.toArray no), (L+1+1, oy), (L+1, ox)])
   (hx : ox.data = .cell vx) (hy : oy.data = .cell vy) (hi : IntsAre vo os) (h16 : ∀ x ∈ os, 0 ≤ x ∧ x < 16) (hl : os.length ≤ 16) (sz2 : 2 ≤ sz) (sz3 : sz ≤ 3) (ao1 : @LT.lt Nat _ (L + 1 + 1) ao) (at1 : @LT.lt Nat _ ao at')
   (h : ∀ h' tk' m' ox' oy' vx' vy' vt nt', Keep ["told", "crowded"] m' m → Fr h₀ L h' m' → News h₀ L h' [(L+1+1, oy'), (L+1, ox'), (at', listOf vt.toArray nt'), (ao, listOf vo.toArray no)] → ox'.data = .cell vx' → oy'.data = .cell vy' →
     IntsAre vt (os.foldl (take1 sz) []) → Q .next { s with heap := h', toks := tk' }) :
   wpAny (model PySem.Challenge.rw_qu0006_01.row.prog w) (callerA.deeper (envOfC "law" (scopeAt 12) L fa cd)) (exec (nth lawB 9) (envOfC "law" (scopeAt 12) L fa cd)) Q NoE s := by
  have F0 := has_fr F H
  refine wpAny_For ?_
  refine nameX_L F0 rfl ?_ rfl rfl
  have N0 : News h₀ L s.heap [(L+1+1, oy), (L+1, ox), (at', listOf ([] : List Value).toArray nt), (ao, listOf vo.toArray no)] := news_sub N (by simp +contextual)
  refine for_ints (ns := os) (fun i m' nx => Keep ["told", "crowded"] m' m ∧ ∃ ox' oy' vx' vy' vt nt', nx = [(L+1+1, oy'), (L+1, ox'), (at', listOf vt.toArray nt'), (ao, listOf vo.toArray no)] ∧ ox'.data = .cell vx' ∧ oy'.data = .cell vy' ∧ IntsAre vt ((os.take i).foldl (take1 sz) []))
    rfl (.tail _ (.tail _ (.tail _ (.head _)))) hi F N0 ⟨.refl, ox, oy, vx, vy, [], nt, rfl, hx, hy, .nil⟩ ?_ ?_ ?_
  · rintro i m' nx ⟨_, _, _, _, _, _, _, rfl, _⟩
    exact .tail _ (.tail _ (.tail _ (.head _)))
  · rintro i n t m₁ news₁ h₁ tk it io hn ⟨hk, ox, oy, vx, vy, vt, nt, rfl, hx, hy, it'⟩ hit F N
    have hn16 := h16 n (List.mem_of_getElem? hn)
    have hil : i < os.length := (List.getElem?_eq_some_iff.mp hn).1
    obtain ⟨t16, tl⟩ := take1_ok (sz := sz) h16 i (by omega)
    have lt' := it'.length
    rw [take_fold hn]
    generalize (os.take i).foldl (take1 sz) [] = ts at it' t16 tl lt' ⊢
    simp only [List.mem_cons, List.not_mem_nil, or_false, forall_eq_or_imp, forall_eq] at hit
    have i1 := neN hit.1
    have i2 := neN hit.2.1
    have i3 := neN hit.2.2.1
    have i4 := neN hit.2.2.2
    refine wpAny_assign_Name ?_
    have N1 : News h₀ L h₁ ((L+1, ox) :: [(L+1+1, oy), (at', listOf vt.toArray nt), (it, io), (ao, listOf vo.toArray no)]) := news_sub N (by simp +contextual)
    refine storeX_C F N1 rfl (.head ?_) hx ?_ rfl rfl
    · simp only [List.mem_cons, List.not_mem_nil, or_false, forall_eq_or_imp, forall_eq]
      exact ⟨neN (by omega), neN (by omega), neN (by omega), neN (by omega)⟩
    intro h₂ o₂ F₂ N₂ hx₂
    have N2 : News h₀ L h₂ ((L+1+1, oy) :: (L+1, o₂) :: [(at', listOf vt.toArray nt), (it, io), (ao, listOf vo.toArray no)]) := news_sub N₂ (by simp +contextual)
    have o1 : OwnOff [(at', listOf vt.toArray nt), (it, io), (ao, listOf vo.toArray no)] [L+1+1, L+1] := by
      intro p hp b hb
      simp only [List.mem_cons, List.not_mem_nil, or_false] at hp hb
      rcases hp with rfl | rfl | rfl <;> rcases hb with rfl | rfl <;> exact neN (by dsimp only; omega)
    have o2 : OwnOff [(it, io), (ao, listOf vo.toArray no)] [L+1+1, L+1, at'] := by
      intro p hp b hb
      simp only [List.mem_cons, List.not_mem_nil, or_false] at hp hb
      rcases hp with rfl | rfl <;> rcases hb with rfl | rfl | rfl <;> exact neN (by dsimp only; omega)
    refine wpAny_execs_cons (cr0 KX T K0 F₂ N2 ?_)
    intro h₃ tk₃ m₃ hk₃ hc₃ F₃ N₃
    have H3 : Has m₃ [("taken", .ref at'), ("size", .int sz tz)] := Has.keep (Has.keep (m := m) (fun q hq => H q (.tail _ hq)) hk rfl) hk₃ rfl
    refine wpAny_execs_cons (crowd_loop KX T K0 F₃ (has_cons (H3 _ (.head _)) (has_cons (H3 _ (.tail _ (.head _))) (has_cons hc₃ has_nil))) N₃ o1 hx₂ hy (.head _) it' hn16.1 hn16.2 t16 sz2 sz3 ?_)
    intro h₄ tk₄ m₄ oy₄ vy₄ hk₄ hc₄ F₄ N₄ hy₄
    refine wpAny_execs_cons (ap1 KX T K0 F₄ (has_cons hc₄ (has_cons ((hk₄ _ rfl).trans (H3 _ (.head _))) has_nil)) N₄ o2 hx₂ (by omega) (by omega) ?_ ?_)
    · intro hc h₅ tk₅ F₅ N₅
      refine wpAny_execs_nil (Turn.next F₅ (news_sub N₅ (by simp +contextual)) ?_ ⟨hk₄.trans ((hk₃.mono rfl).trans hk), o₂, oy₄, _, _, vt, nt, rfl, hx₂, hy₄, ?_⟩)
      · simp only [List.mem_cons, List.not_mem_nil, or_false, forall_eq_or_imp, forall_eq]; exact hit
      · rw [take1, if_pos hc]; exact it'
    · intro hc h₅ tk₅ F₅ N₅
      refine wpAny_execs_nil (Turn.next F₅ (news_sub N₅ (by simp +contextual)) ?_ ⟨hk₄.trans ((hk₃.mono rfl).trans hk), o₂, oy₄, _, _, vt ++ [Value.int n t], nt + 1, rfl, hx₂, hy₄, ?_⟩)
      · simp only [List.mem_cons, List.not_mem_nil, or_false, forall_eq_or_imp, forall_eq]; exact hit
      · rw [take1, if_neg (by rw [hc]; decide)]; exact it'.append (.cons _ _ .nil)
  · rintro m' news' h' tk' ⟨hk, ox, oy, vx, vy, vt, nt, rfl, hx, hy, it'⟩ F N
    rw [List.take_length] at it'
    exact h h' tk' m' ox oy vx vy vt nt hk F N hx hy it'
end
end Mine
namespace Mine
theorem weight_ints : ∀ ns : List Int, (∀ n ∈ ns, 0 ≤ n ∧ n < 16) → PyData.weightAll (ns.map PyData.int) ≤ 100 * ns.length
  | [], _ => by simp [PyData.weightAll]
  | n :: r, h => by
    have h1 := weight_ints r (fun k hk => h k (.tail _ hk))
    have h2 := h n (.head _)
    have h3 : Builtin.Int.intBits n ≤ 4 := by
      rcases Int.lt_or_le 0 n with hp | hp
      · exact (bits_in (by omega) h2.2).2
      · have : n = 0 := by omega
        rw [this]; decide
    simp only [List.map_cons, PyData.weightAll, PyData.weight, List.length_cons]
    simp only [Builtin.Int.intBits] at h3
    omega
theorem lay16 {ns : List Int} (h : ∀ n ∈ ns, 0 ≤ n ∧ n < 16) (hl : ns.length ≤ 16) : PyData.layable0 (.list (ns.map PyData.int)) = true := by
  have h1 := W.depthAll_ints ns
  have h2 : PyData.depth (.list (ns.map PyData.int)) ≤ 64 := by simp only [PyData.depth]; omega
  have h3 : PyData.weight (.list (ns.map PyData.int)) ≤ 2 ^ 20 := by
    have := weight_ints ns h
    simp only [PyData.weight]; omega
  show (PyData.canLay0 (.list (ns.map PyData.int)) && decide (PyData.depth (.list (ns.map PyData.int)) ≤ 64) && decide (PyData.weight (.list (ns.map PyData.int)) ≤ 2 ^ 20)) = true
  rw [Bool.and_eq_true, Bool.and_eq_true]
  exact ⟨⟨by simp only [PyData.canLay0]; exact W.canLayAll0_ints ns, decide_eq_true h2⟩, decide_eq_true h3⟩
/-- the place's high bit -/
def placeI (os : List Int) (x : Int) : Int := (Builtin.Int.intBits ((os.idxOf x : Nat) : Int) : Int) - 1
/-- one turn of the doubling -/
def dstep (os : List Int) (st : List Int × Int) (x : Int) : List Int × Int :=
  if st.2 < placeI os x then (st.1 ++ st.1.map (fun y => Builtin.bitXor x y), placeI os x) else st
section
variable {w : World} {h₀ : Heap} {mg mb : Str → Option Value} {mean : ExcName → Option Value} {fa L : Addr} {cd : Value} {s : Shared} {m : Str → Option Value}
theorem tail1 {Q : Value → Shared → Prop} {rest : List (Addr × Obj)} {at' : Addr} {vt : List Value} {ts : List Int} {nt : Nat}
   (KX : (hd.heap_39 w.params).In h₀) (T : Top hd.view_39 (looseW hd.view_39 []) mean mg mb h₀) (K0 : Below callerA h₀ [] h₀)
   (F : Fr h₀ L s.heap m) (H : Has m [("taken", .ref at')]) (N : News h₀ L s.heap ((at', listOf vt.toArray nt) :: rest)) (hi : IntsAre vt ts) (hl : vt.length ≤ 16)
   (h : ∀ h' tk' D ws, Fr h₀ L h' m → News h₀ L h' ((D, listOf ws.toArray 0) :: (at', listOf vt.toArray nt) :: rest) → IntsAre ws (ts.drop 1) → at' < D → (∀ p ∈ rest, p.1 < D) → Q (.ref D) { s with heap := h', toks := tk' }) :
   wpAny (model PySem.Challenge.rw_qu0006_01.row.prog w) (callerA.deeper (envOfC "law" (scopeAt 12) L fa cd)) (eval (iterAt 12) (envOfC "law" (scopeAt 12) L fa cd)) Q NoE s := by
  w_top off; revert KX; k_fill; intro KX
  conv in (occs := *) (scopeAt 12) => all_goals whnf
  conv in (iterAt _) => whnf
  have e : kstB m [("taken", .ref at')] = m := funext fun z => kstB_eq H fun _ => rfl
  replace F := has_fr F H
  k_steps
  rename_i F' N' hI' hC' hL' l1
  rw [e] at F'
  exact h _ _ _ _ F' N' hI' l1.1 (all_lt l1.2)
theorem place_st {Q : Flow → Shared → Prop} {ox oy : Obj} {rest : List (Addr × Obj)} {ao : Addr} {vo : List Value} {os : List Int} {no : Nat} {x : Int} {tx : Tok}
   (KX : (hd.heap_39 w.params).In h₀) (T : Top hd.view_39 (looseW hd.view_39 []) mean mg mb h₀) (K0 : Below callerA h₀ [] h₀)
   (F : Fr h₀ L s.heap m) (H : Has m [("order", .ref ao)]) (N : News h₀ L s.heap ((L+1+1, oy) :: (L+1, ox) :: (ao, listOf vo.toArray no) :: rest)) (hi : IntsAre vo os) (hl : os.length ≤ 16) (h16 : ∀ n ∈ os, 0 ≤ n ∧ n < 16)
   (hx : ox.data = .cell (some (.int x tx))) (hm : x ∈ os)
   (h : ∀ h' tk' m', Keep ["place"] m' m → (∃ t, m' "place" = some (.int (placeI os x) t)) → Fr h₀ L h' m' → News h₀ L h' ((L+1+1, oy) :: (L+1, ox) :: (ao, listOf vo.toArray no) :: rest) → Q .next { s with heap := h', toks := tk' }) :
   wpAny (model PySem.Challenge.rw_qu0006_01.row.prog w) (callerA.deeper (envOfC "law" (scopeAt 12) L fa cd)) (exec (nth (bodyOf (nth lawB 12)) 0) (envOfC "law" (scopeAt 12) L fa cd)) Q NoE s := by
  w_top off; revert KX; k_fill; intro KX
  conv in (occs := *) (scopeAt 12) => all_goals whnf
  conv in (nth _ _) => whnf
  have e : kstB m [("order", .ref ao)] = m := funext fun z => kstB_eq H fun _ => rfl
  replace F := has_fr F H
  iterate 12 walk1
  refine index_list_ints (N.isList (.tail _ (.tail _ (.head _)))) hi (lay16 h16 hl) hm ?_
  k_steps
  refine h _ _ _ ?_ ⟨_, rfl⟩ (by assumption) (by assumption)
  intro z hz
  simp only [List.contains_cons, List.contains_nil, Bool.or_false, beq_eq_false_iff_ne] at hz
  simp only [if_neg hz]
  rw [e]
theorem dbl_st {Q : Flow → Shared → Prop} {ox oy : Obj} {rest : List (Addr × Obj)} {ad : Addr} {vd : List Value} {ds : List Int} {nd : Nat} {x pl hg : Int} {tx tp th : Tok} {vy : Option Value}
   (KX : (hd.heap_39 w.params).In h₀) (T : Top hd.view_39 (looseW hd.view_39 []) mean mg mb h₀) (K0 : Below callerA h₀ [] h₀)
   (F : Fr h₀ L s.heap m) (H : Has m [("doubled", .ref ad), ("place", .int pl tp), ("highest", .int hg th)]) (N : News h₀ L s.heap ((L+1+1, oy) :: (L+1, ox) :: (ad, listOf vd.toArray nd) :: rest)) (hi : IntsAre vd ds) (hl : vd.length ≤ 65536)
   (hx : ox.data = .cell (some (.int x tx))) (hy : oy.data = .cell vy)
   (h1 : hg < pl → ∀ h' tk' m' D ws, Keep ["doubled", "highest"] m' m → m' "doubled" = some (.ref D) → (∃ t, m' "highest" = some (.int pl t)) → Fr h₀ L h' m' → News h₀ L h' ((D, listOf ws.toArray 0) :: (L+1+1, oy) :: (L+1, ox) :: rest) →
     IntsAre ws (ds ++ ds.map (fun y => Builtin.bitXor x y)) → @LT.lt Nat _ (L + 1 + 1) D → (∀ p ∈ rest, p.1 < D) → Q .next { s with heap := h', toks := tk' })
   (h0 : ¬ hg < pl → ∀ tk', Q .next { s with toks := tk' }) :
   wpAny (model PySem.Challenge.rw_qu0006_01.row.prog w) (callerA.deeper (envOfC "law" (scopeAt 12) L fa cd)) (exec (nth (bodyOf (nth lawB 12)) 1) (envOfC "law" (scopeAt 12) L fa cd)) Q NoE s := by
  w_top off; revert KX; k_fill; intro KX
  conv in (occs := *) (scopeAt 12) => all_goals whnf
  conv in (nth _ _) => whnf
  have e : kstB m [("doubled", .ref ad), ("place", .int pl tp), ("highest", .int hg th)] = m := funext fun z => kstB_eq H fun _ => rfl
  replace F := has_fr F H
  k_steps
  · rename_i D' ws' h'' hI' l1 _ h' F' N'
    refine h1 (by assumption) _ _ _ _ _ ?_ rfl ⟨_, rfl⟩ F' (news_keep N' (fun p hp => ?_)) hI' l1.2.1 (all_lt l1.2.2.2.2)
    · intro z hz
      simp only [List.contains_cons, List.contains_nil, Bool.or_false, Bool.or_eq_false_iff, beq_eq_false_iff_ne] at hz
      simp only [if_neg hz.1, if_neg hz.2]
      rw [e]
    · rcases List.mem_cons.mp hp with rfl | hp
      · exact .tail _ (.head _)
      rcases List.mem_cons.mp hp with rfl | hp
      · exact .tail _ (.tail _ (.head _))
      · exact .tail _ (.tail _ (.tail _ (.tail _ hp)))
  · exact h0 (by assumption) _
theorem db0 {Q : Flow → Shared → Prop} {rest : List (Addr × Obj)}
   (KX : (hd.heap_39 w.params).In h₀) (T : Top hd.view_39 (looseW hd.view_39 []) mean mg mb h₀) (K0 : Below callerA h₀ [] h₀)
   (F : Fr h₀ L s.heap m) (N : News h₀ L s.heap rest)
   (h : ∀ h' tk' D ws m', Keep ["doubled"] m' m → m' "doubled" = some (.ref D) → Fr h₀ L h' m' → News h₀ L h' ((D, listOf ws.toArray 0) :: rest) → IntsAre ws [0] → (∀ p ∈ rest, p.1 < D) → Q .next { s with heap := h', toks := tk' }) :
   wpAny (model PySem.Challenge.rw_qu0006_01.row.prog w) (callerA.deeper (envOfC "law" (scopeAt 12) L fa cd)) (exec (nth lawB 10) (envOfC "law" (scopeAt 12) L fa cd)) Q NoE s := by
  w_top off; revert KX; k_fill; intro KX
  conv in (occs := *) (scopeAt 12) => all_goals whnf
  conv in (nth _ _) => whnf
  k_steps
  rename_i l1 h' F' N'
  refine h _ _ _ [_] _ ?_ rfl F' N' (.cons _ _ .nil) l1
  intro z hz
  simp only [List.contains_cons, List.contains_nil, Bool.or_false, beq_eq_false_iff_ne] at hz
  simp only [if_neg hz]
theorem hi0 {Q : Flow → Shared → Prop} {rest : List (Addr × Obj)}
   (KX : (hd.heap_39 w.params).In h₀) (T : Top hd.view_39 (looseW hd.view_39 []) mean mg mb h₀) (K0 : Below callerA h₀ [] h₀)
   (F : Fr h₀ L s.heap m) (N : News h₀ L s.heap rest)
   (h : ∀ h' tk' m', Keep ["highest"] m' m → (∃ t, m' "highest" = some (.int (-1) t)) → Fr h₀ L h' m' → News h₀ L h' rest → Q .next { s with heap := h', toks := tk' }) :
   wpAny (model PySem.Challenge.rw_qu0006_01.row.prog w) (callerA.deeper (envOfC "law" (scopeAt 12) L fa cd)) (exec (nth lawB 11) (envOfC "law" (scopeAt 12) L fa cd)) Q NoE s := by
  w_top off; revert KX; k_fill; intro KX
  conv in (occs := *) (scopeAt 12) => all_goals whnf
  conv in (nth _ _) => whnf
  k_steps
  refine h _ _ _ ?_ ⟨_, rfl⟩ (by assumption) (by assumption)
  intro z hz
  simp only [List.contains_cons, List.contains_nil, Bool.or_false, beq_eq_false_iff_ne] at hz
  simp only [if_neg hz]
theorem dbl_loop {Q : Flow → Shared → Prop} {ox oy : Obj} {ad at' ao : Addr} {vd vt vo : List Value} {ts os : List Int} {no nt nd : Nat} {th : Tok} {vx vy : Option Value}
   (KX : (hd.heap_39 w.params).In h₀) (T : Top hd.view_39 (looseW hd.view_39 []) mean mg mb h₀) (K0 : Below callerA h₀ [] h₀)
   (F : Fr h₀ L s.heap m) (H : Has m [("order", .ref ao), ("taken", .ref at'), ("doubled", .ref ad), ("highest", .int (-1) th)])
   (N : News h₀ L s.heap [(ad, listOf vd.toArray nd), (L+1+1, oy), (L+1, ox), (at', listOf vt.toArray nt), (ao, listOf vo.toArray no)])
   (hx : ox.data = .cell vx) (hy : oy.data = .cell vy) (hio : IntsAre vo os) (hit' : IntsAre vt ts) (hid : IntsAre vd [0]) (h16 : ∀ x ∈ os, 0 ≤ x ∧ x < 16) (hl : os.length ≤ 16) (htl : ts.length ≤ 16) (hsub : ∀ x ∈ ts, x ∈ os)
   (ao1 : @LT.lt Nat _ (L + 1 + 1) ao) (at1 : @LT.lt Nat _ ao at') (ad1 : @LT.lt Nat _ at' ad)
   (h : ∀ h' tk' m' D ws nd', Keep ["place", "doubled", "highest"] m' m → m' "doubled" = some (.ref D) → Fr h₀ L h' m' → News h₀ L h' [(D, listOf ws.toArray nd'), (at', listOf vt.toArray nt)] → IntsAre ws ((ts.drop 1).foldl (dstep os) ([0], -1)).1 → Q .next { s with heap := h', toks := tk' }) :
   wpAny (model PySem.Challenge.rw_qu0006_01.row.prog w) (callerA.deeper (envOfC "law" (scopeAt 12) L fa cd)) (exec (nth lawB 12) (envOfC "law" (scopeAt 12) L fa cd)) Q NoE s := by
  have Nt : News h₀ L s.heap ((at', listOf vt.toArray nt) :: [(ad, listOf vd.toArray nd), (L+1+1, oy), (L+1, ox), (ao, listOf vo.toArray no)]) := news_sub N (by simp +contextual)
  refine wpAny_For (tail1 KX T K0 F (has_cons (H _ (.tail _ (.head _))) has_nil) Nt hit' (by rw [hit'.length]; exact htl) ?_)
  intro h₁ tk₁ al vl F₁ N₁ hil la1 la2
  have la1 := ltN la1
  have la3 := fun p hp => ltN (la2 p hp)
  simp only [List.mem_cons, List.not_mem_nil, or_false, forall_eq_or_imp, forall_eq] at la3
  have N0 : News h₀ L h₁ [(ad, listOf vd.toArray nd), (L+1+1, oy), (L+1, ox), (al, listOf vl.toArray 0), (at', listOf vt.toArray nt), (ao, listOf vo.toArray no)] := news_sub N₁ (by simp +contextual)
  have hlen : ∀ i ≤ (ts.drop 1).length, (((ts.drop 1).take i).foldl (dstep os) ([0], -1)).1.length ≤ 2 ^ i := by
    intro i hi
    induction i with
    | zero => simp
    | succ i ih =>
      have hn : (ts.drop 1)[i]? = some ((ts.drop 1)[i]'(by omega)) := by simp
      rw [take_fold hn]
      have := ih (by omega)
      generalize ((ts.drop 1).take i).foldl (dstep os) ([0], -1) = st at this ⊢
      unfold dstep
      rw [Nat.pow_succ]
      split
      · simp only [List.length_append, List.length_map]; omega
      · omega
  refine for_ints (ns := ts.drop 1) (fun i m' nx => Keep ["place", "doubled", "highest"] m' m ∧ ∃ ad vd nd ox' oy' vx' vy', m' "doubled" = some (.ref ad) ∧ (∃ t, m' "highest" = some (.int (((ts.drop 1).take i).foldl (dstep os) ([0], -1)).2 t)) ∧
      nx = [(ad, listOf vd.toArray nd), (L+1+1, oy'), (L+1, ox'), (al, listOf vl.toArray 0), (at', listOf vt.toArray nt), (ao, listOf vo.toArray no)]
      ∧ ox'.data = .cell vx' ∧ oy'.data = .cell vy' ∧ IntsAre vd (((ts.drop 1).take i).foldl (dstep os) ([0], -1)).1 ∧ @LT.lt Nat _ (L + 1 + 1) ad)
    rfl (.tail _ (.tail _ (.tail _ (.head _)))) hil F₁ N0 ⟨.refl, ad, vd, nd, ox, oy, vx, vy, H _ (.tail _ (.tail _ (.head _))), ⟨th, H _ (.tail _ (.tail _ (.tail _ (.head _))))⟩, rfl, hx, hy, hid, by omega⟩ ?_ ?_ ?_
  · rintro i m' nx ⟨_, _, _, _, _, _, _, _, _, _, rfl, _⟩
    exact .tail _ (.tail _ (.tail _ (.head _)))
  · rintro i n t m₁ news₁ h₂ tk it io hn ⟨hk, ad, vd, nd, ox, oy, vx, vy, hmd, ⟨th, hmh⟩, rfl, hx, hy, hid, ad1'⟩ hit F N
    have hil' : i < (ts.drop 1).length := (List.getElem?_eq_some_iff.mp hn).1
    have hl1 := hlen i (by omega)
    have hmem : n ∈ os := hsub n (List.mem_of_mem_drop (List.mem_of_getElem? hn))
    have hvd : vd.length ≤ 65536 := by
      rw [hid.length]
      have h2 := Nat.pow_le_pow_right (n := 2) (by decide) (show i ≤ 16 by simp at hil'; omega)
      omega
    rw [take_fold hn]
    generalize ((ts.drop 1).take i).foldl (dstep os) ([0], -1) = st at hid hmh ⊢
    simp only [List.mem_cons, List.not_mem_nil, or_false, forall_eq_or_imp, forall_eq] at hit
    have i1 := neN hit.1
    have i2 := neN hit.2.1
    have i3 := neN hit.2.2.1
    have i4 := neN hit.2.2.2.1
    have i5 := neN hit.2.2.2.2.1
    have i6 := neN hit.2.2.2.2.2
    refine wpAny_assign_Name ?_
    have N1 : News h₀ L h₂ ((L+1, ox) :: [(L+1+1, oy), (ao, listOf vo.toArray no), (ad, listOf vd.toArray nd), (it, io), (al, listOf vl.toArray 0), (at', listOf vt.toArray nt)]) := news_sub N (by simp +contextual)
    refine storeX_C F N1 rfl (.head ?_) hx ?_ rfl rfl
    · simp only [List.mem_cons, List.not_mem_nil, or_false, forall_eq_or_imp, forall_eq]
      exact ⟨neN (by omega), neN (by omega), neN (by omega), neN (by omega), neN (by omega), neN (by omega)⟩
    intro h₃ o₃ F₃ N₃ hx₃
    have N2 : News h₀ L h₃ ((L+1+1, oy) :: (L+1, o₃) :: (ao, listOf vo.toArray no) :: [(ad, listOf vd.toArray nd), (it, io), (al, listOf vl.toArray 0), (at', listOf vt.toArray nt)]) := news_sub N₃ (by simp +contextual)
    refine wpAny_execs_cons (place_st KX T K0 F₃ (has_cons ((hk _ rfl).trans (H _ (.head _))) has_nil) N2 hio hl h16 hx₃ hmem ?_)
    intro h₄ tk₄ m₄ hk₄ ⟨tp, hp₄⟩ F₄ N₄
    have N3 : News h₀ L h₄ ((L+1+1, oy) :: (L+1, o₃) :: (ad, listOf vd.toArray nd) :: [(it, io), (al, listOf vl.toArray 0), (at', listOf vt.toArray nt), (ao, listOf vo.toArray no)]) := news_sub N₄ (by simp +contextual)
    refine wpAny_execs_cons (dbl_st KX T K0 F₄ (has_cons ((hk₄ _ rfl).trans hmd) (has_cons hp₄ (has_cons ((hk₄ _ rfl).trans hmh) has_nil))) N3 hid hvd hx₃ hy ?_ ?_)
    · intro hlt h₅ tk₅ m₅ D ws hk₅ hd₅ ⟨th₅, hh₅⟩ F₅ N₅ hi₅ lD lr
      have l1 := ltN (lr _ (.head _))
      refine wpAny_execs_nil (Turn.next F₅ (news_sub N₅ (by simp +contextual)) ?_ ⟨(hk₅.mono rfl).trans ((hk₄.mono rfl).trans hk), D, ws, 0, o₃, oy, _, _, hd₅, ⟨th₅, ?_⟩, rfl, hx₃, hy, ?_, lD⟩)
      · simp only [List.mem_cons, List.not_mem_nil, or_false, forall_eq_or_imp, forall_eq]
        exact ⟨neN (by dsimp only at l1; omega), hit.2⟩
      · rw [dstep, if_pos hlt]; exact hh₅
      · rw [dstep, if_pos hlt]; exact hi₅
    · intro hlt tk₅
      refine wpAny_execs_nil (Turn.next F₄ (news_sub N₄ (by simp +contextual)) ?_ ⟨(hk₄.mono rfl).trans hk, ad, vd, nd, o₃, oy, _, _, (hk₄ _ rfl).trans hmd, ⟨th, ?_⟩, rfl, hx₃, hy, ?_, ad1'⟩)
      · simp only [List.mem_cons, List.not_mem_nil, or_false, forall_eq_or_imp, forall_eq]; exact hit
      · rw [dstep, if_neg hlt]; exact (hk₄ _ rfl).trans hmh
      · rw [dstep, if_neg hlt]; exact hid
  · rintro m' news' h' tk' ⟨hk, ad, vd, nd, ox, oy, vx, vy, hmd, ⟨th, hmh⟩, rfl, hx, hy, hid, ad1'⟩ F N
    rw [List.take_length] at hid
    exact h h' tk' m' ad vd nd hk hmd F (news_sub N (by simp +contextual)) hid
end
end Mine
namespace Mine
section
variable {w : World} {h₀ : Heap} {mg mb : Str → Option Value} {mean : ExcName → Option Value} {fa L : Addr} {cd : Value} {s : Shared} {m : Str → Option Value}
theorem ret_st {Q : Flow → Shared → Prop} {ad at' : Addr} {vd vt : List Value} {ts : List Int} {nd nt : Nat}
   (KX : (hd.heap_39 w.params).In h₀) (T : Top hd.view_39 (looseW hd.view_39 []) mean mg mb h₀) (K0 : Below callerA h₀ [] h₀)
   (F : Fr h₀ L s.heap m) (H : Has m [("doubled", .ref ad), ("taken", .ref at')]) (N : News h₀ L s.heap [(ad, listOf vd.toArray nd), (at', listOf vt.toArray nt)])
   (hid : IntsAre vd ts) (hit : IntsAre vt ts) (htl : vt.length ≤ 16) (h0 : 1 ≤ vt.length) (hand : Builtin.bitAnd (vt.length : Int) ((vt.length : Int) - 1) = 0)
   (h : ∀ h' tk', Fr h₀ L h' m → Q (.ret (.bool true)) { s with heap := h', toks := tk' }) :
   wpAny (model PySem.Challenge.rw_qu0006_01.row.prog w) (callerA.deeper (envOfC "law" (scopeAt 12) L fa cd)) (exec (nth lawB 13) (envOfC "law" (scopeAt 12) L fa cd)) Q NoE s := by
  w_top off; revert KX; k_fill; intro KX
  conv in (occs := *) (scopeAt 12) => all_goals whnf
  conv in (nth _ _) => whnf
  have e : kstB m [("doubled", .ref ad), ("taken", .ref at')] = m := funext fun z => kstB_eq H fun _ => rfl
  replace F := has_fr F H
  iterate 20 walk1
  refine len_list (N.isList (.tail _ (.head _))) (by simp only [List.size_toArray]; omega) ?_
  simp only [List.size_toArray]
  k_steps
  · exfalso; omega
  · rw [hand]
    rw [← e] at h
    exact h _ _ (by assumption)
theorem sum_pick {prog : Program} {A : Around} {Q : Value → Shared → Prop} {E : Value → Shared → Prop} {l : Addr} {vs : List Value} {ns : List Int} {news : List (Addr × Obj)} {lo hi st : Option Int} {o : Obj} (hh : A.handled = none)
    (F : Fr h₀ L s.heap m) (N : News h₀ L s.heap news) (hm : (l, o) ∈ news) (ho : o = { cls := .type "list", dict := none, data := .seq (slicePick vs.toArray lo hi st), slots := #[] }) (hI : IntsAre vs ns)
    (h : ∀ z h' tk t', Fr h₀ L h' m → News h₀ L h' news → Q (.int z t') { s with heap := h', toks := tk }) : wpAny (model prog w) A (call (.builtin "sum") [.ref l]) Q E s := by
  subst ho
  have ha : AllInts (slicePick vs.toArray lo hi st) := by
    have := (hI.pick lo hi st).allInts
    rwa [Array.toArray_toList] at this
  have hl : s.heap.IsList l (slicePick vs.toArray lo hi st) := ⟨_, (N _ hm).1, rfl, _, rfl⟩
  obtain ⟨xs, e⟩ := ha.items
  rw [e] at hl
  exact sum_intListG hh hl fun h' tk t' hk => h _ h' tk t' (F.keeps hk) (News.keeps N hk)
local macro_rules | `(tactic| walk_at "call builtin:sum") => `(tactic| (refine sum_pick rfl (by k_asm) (by k_asm) (by k_mem) rfl (by assumption) ?_; intro z' h' tk' t' F' N'))
theorem drawn_st {Q : Flow → Shared → Prop} {l : Addr} {vs : List Value} {ns : List Int} {news : List (Addr × Obj)}
   (KX : (hd.heap_39 w.params).In h₀) (T : Top hd.view_39 (looseW hd.view_39 []) mean mg mb h₀) (K0 : Below callerA h₀ [] h₀)
   (F : Fr h₀ L s.heap m) (H : Has m [("script", .ref l)]) (N : News h₀ L s.heap news) (hl : h₀.IsList l vs.toArray) (hI : IntsAre vs ns) (hn : ns.length ≤ 63) (hlay : PyData.layable0 (.list (ns.map PyData.int)) = true)
   (h : ∀ h' tk' m' D d0 d1 d2 d3 t0 t1 t2 t3, Keep ["drawn"] m' m → m' "drawn" = some (.ref D) → Fr h₀ L h' m' → News h₀ L h' ((D, listOf #[.int d0 t0, .int d1 t1, .int d2 t2, .int d3 t3] 0) :: news) → (∀ p ∈ news, p.1 < D) → Q .next { s with heap := h', toks := tk' }) :
   wpAny (model PySem.Challenge.rw_qu0006_01.row.prog w) (callerA.deeper (envOfC "law" (scopeAt 12) L fa cd)) (exec (nth lawB 1) (envOfC "law" (scopeAt 12) L fa cd)) Q NoE s := by
  w_top off; revert KX; k_fill; intro KX
  conv in (occs := *) (scopeAt 12) => all_goals whnf
  conv in (nth _ _) => whnf
  have e : kstB m [("script", .ref l)] = m := funext fun z => kstB_eq H fun _ => rfl
  replace F := has_fr F H
  k_steps
  rename_i l1 h' F' N'
  refine h _ _ _ _ _ _ _ _ _ _ _ _ ?_ rfl F' (news_keep N' fun p hp => .tail _ (.tail _ (.tail _ (.tail _ hp)))) (all_lt l1.2.2.2.2)
  intro z hz
  simp only [List.contains_cons, List.contains_nil, Bool.or_false, beq_eq_false_iff_ne] at hz
  simp only [if_neg hz]
  rw [e]
end
end Mine
namespace Mine
def basisOf (d0 d1 d2 d3 : Int) : List Int := ([d0, d1, d2, d3, 1, 2, 4, 8].foldl elim1 ([], [])).1
def orderOf (d0 d1 d2 d3 : Int) : List Int := (basisOf d0 d1 d2 d3).foldl dbl [0]
/-- the plain law -/
structure PlainOk (os ts : List Int) : Prop where
  perm : os.Perm (rangeKs 0 16)
  dbl : ((ts.drop 1).foldl (dstep os) ([0], -1)).1 = ts
  one : 1 ≤ ts.length
  bit : Builtin.bitAnd (ts.length : Int) ((ts.length : Int) - 1) = 0
theorem basis_len (d0 d1 d2 d3 : Int) : (basisOf d0 d1 d2 d3).length ≤ 8 := by
  have := elim_ok [d0, d1, d2, d3, 1, 2, 4, 8] 8 (by simp)
  exact this.2.2.1
theorem taken_sub {sz : Int} (os : List Int) : ∀ ts : List Int, ∀ x ∈ os.foldl (take1 sz) ts, x ∈ os ∨ x ∈ ts := by
  induction os with
  | nil => intro ts x hx; exact .inr hx
  | cons o r ih =>
    intro ts x hx
    rcases ih _ x hx with h | h
    · exact .inl (.tail _ h)
    · unfold take1 at h
      split at h
      · exact .inr h
      · rcases List.mem_append.mp h with h | h
        · exact .inr h
        · rw [List.mem_singleton.mp h]; exact .inl (.head _)
section
variable {w : World} {h₀ : Heap} {mg mb : Str → Option Value} {mean : ExcName → Option Value} {fa L : Addr} {cd : Value} {s : Shared} {m : Str → Option Value}
theorem size_st {Q : Flow → Shared → Prop} {l : Addr} {vs : List Value} {ns : List Int} {news : List (Addr × Obj)}
   (KX : (hd.heap_39 w.params).In h₀) (T : Top hd.view_39 (looseW hd.view_39 []) mean mg mb h₀) (K0 : Below callerA h₀ [] h₀)
   (F : Fr h₀ L s.heap m) (H : Has m [("script", .ref l)]) (N : News h₀ L s.heap news) (hl : h₀.IsList l vs.toArray) (hI : IntsAre vs ns) (hn : ns.length ≤ 63) (hlay : PyData.layable0 (.list (ns.map PyData.int)) = true)
   (h : ∀ h' tk' m' z, 2 ≤ z → z ≤ 3 → Keep ["size"] m' m → (∃ t, m' "size" = some (.int z t)) → Fr h₀ L h' m' → News h₀ L h' news → Q .next { s with heap := h', toks := tk' }) :
   wpAny (model PySem.Challenge.rw_qu0006_01.row.prog w) (callerA.deeper (envOfC "law" (scopeAt 12) L fa cd)) (exec (nth lawB 0) (envOfC "law" (scopeAt 12) L fa cd)) Q NoE s := by
  w_top off; revert KX; k_fill; intro KX
  conv in (occs := *) (scopeAt 12) => all_goals whnf
  conv in (nth _ _) => whnf
  have e : kstB m [("script", .ref l)] = m := funext fun z => kstB_eq H fun _ => rfl
  replace F := has_fr F H
  k_steps
  have z0 := Int.fmod_nonneg_of_pos ns.sum (show (0 : Int) < 2 by decide)
  have z1 := Int.fmod_lt_of_pos ns.sum (show (0 : Int) < 2 by decide)
  refine h _ _ _ (3 - ns.sum.fmod 2) (by omega) (by omega) ?_ ⟨_, rfl⟩ (by assumption) (by assumption)
  intro z hz
  simp only [List.contains_cons, List.contains_nil, Bool.or_false, beq_eq_false_iff_ne] at hz
  simp only [if_neg hz]
  rw [e]
theorem bs0 {Q : Flow → Shared → Prop} {rest : List (Addr × Obj)}
   (KX : (hd.heap_39 w.params).In h₀) (T : Top hd.view_39 (looseW hd.view_39 []) mean mg mb h₀) (K0 : Below callerA h₀ [] h₀)
   (F : Fr h₀ L s.heap m) (N : News h₀ L s.heap rest)
   (h : ∀ h' tk' D m', Keep ["basis"] m' m → m' "basis" = some (.ref D) → Fr h₀ L h' m' → News h₀ L h' ((D, listOf #[] 0) :: rest) → (∀ p ∈ rest, p.1 < D) → Q .next { s with heap := h', toks := tk' }) :
   wpAny (model PySem.Challenge.rw_qu0006_01.row.prog w) (callerA.deeper (envOfC "law" (scopeAt 12) L fa cd)) (exec (nth lawB 2) (envOfC "law" (scopeAt 12) L fa cd)) Q NoE s := by
  w_top off; revert KX; k_fill; intro KX
  conv in (occs := *) (scopeAt 12) => all_goals whnf
  conv in (nth _ _) => whnf
  k_steps
  rename_i l1 h' F' N'
  refine h _ _ _ _ ?_ rfl F' N' l1
  intro z hz
  simp only [List.contains_cons, List.contains_nil, Bool.or_false, beq_eq_false_iff_ne] at hz
  simp only [if_neg hz]
theorem cl0 {Q : Flow → Shared → Prop} {rest : List (Addr × Obj)}
   (KX : (hd.heap_39 w.params).In h₀) (T : Top hd.view_39 (looseW hd.view_39 []) mean mg mb h₀) (K0 : Below callerA h₀ [] h₀)
   (F : Fr h₀ L s.heap m) (N : News h₀ L s.heap rest)
   (h : ∀ h' tk' D m', Keep ["cleared"] m' m → m' "cleared" = some (.ref D) → Fr h₀ L h' m' → News h₀ L h' ((D, listOf #[] 0) :: rest) → (∀ p ∈ rest, p.1 < D) → Q .next { s with heap := h', toks := tk' }) :
   wpAny (model PySem.Challenge.rw_qu0006_01.row.prog w) (callerA.deeper (envOfC "law" (scopeAt 12) L fa cd)) (exec (nth lawB 3) (envOfC "law" (scopeAt 12) L fa cd)) Q NoE s := by
  w_top off; revert KX; k_fill; intro KX
  conv in (occs := *) (scopeAt 12) => all_goals whnf
  conv in (nth _ _) => whnf
  k_steps
  rename_i l1 h' F' N'
  refine h _ _ _ _ ?_ rfl F' N' l1
  intro z hz
  simp only [List.contains_cons, List.contains_nil, Bool.or_false, beq_eq_false_iff_ne] at hz
  simp only [if_neg hz]
theorem law_body (plain : ∀ d0 d1 d2 d3 sz : Int, 2 ≤ sz → sz ≤ 3 → PlainOk (orderOf d0 d1 d2 d3) ((orderOf d0 d1 d2 d3).foldl (take1 sz) []))
   {Q : Flow → Shared → Prop} {ox oy : Obj} {l : Addr} {vs : List Value} {ns : List Int} {vx vy : Option Value}
   (KX : (hd.heap_39 w.params).In h₀) (T : Top hd.view_39 (looseW hd.view_39 []) mean mg mb h₀) (K0 : Below callerA h₀ [] h₀)
   (F : Fr h₀ L s.heap m) (H : Has m [("script", .ref l)]) (N : News h₀ L s.heap [(L+1+1, oy), (L+1, ox)]) (hx : ox.data = .cell vx) (hy : oy.data = .cell vy)
   (hl : h₀.IsList l vs.toArray) (hI : IntsAre vs ns) (hn : ns.length ≤ 63) (hlay : PyData.layable0 (.list (ns.map PyData.int)) = true)
   (h : ∀ h' tk' m', Fr h₀ L h' m' → Q (.ret (.bool true)) { s with heap := h', toks := tk' }) :
   wpAny (model PySem.Challenge.rw_qu0006_01.row.prog w) (callerA.deeper (envOfC "law" (scopeAt 12) L fa cd)) (execs lawB (envOfC "law" (scopeAt 12) L fa cd)) Q NoE s := by
  conv in lawB => whnf
  refine wpAny_execs_cons (size_st KX T K0 F H N hl hI hn hlay ?_)
  intro h₁ tk₁ m₁ sz sz2 sz3 hk₁ ⟨tz, hz₁⟩ F₁ N₁
  refine wpAny_execs_cons (drawn_st KX T K0 F₁ (Has.keep H hk₁ rfl) N₁ hl hI hn hlay ?_)
  intro h₂ tk₂ m₂ ad d0 d1 d2 d3 t0 t1 t2 t3 hk₂ hd₂ F₂ N₂ lt₂
  refine wpAny_execs_cons (bs0 KX T K0 F₂ N₂ ?_)
  intro h₃ tk₃ ab m₃ hk₃ hb₃ F₃ N₃ lt₃
  refine wpAny_execs_cons (cl0 KX T K0 F₃ N₃ ?_)
  intro h₄ tk₄ ac m₄ hk₄ hc₄ F₄ N₄ lt₄
  have lt₃' := fun p hp => ltN (lt₃ p hp)
  have lt₄' := fun p hp => ltN (lt₄ p hp)
  simp only [List.mem_cons, List.not_mem_nil, or_false, forall_eq_or_imp, forall_eq] at lt₃' lt₄'
  have N4 : News h₀ L h₄ ((ad, listOf #[.int d0 t0, .int d1 t1, .int d2 t2, .int d3 t3] 0) :: (L+1+1, oy) :: (L+1, ox) :: (ab, listOf #[] 0) :: (ac, listOf #[] 0) :: []) := news_sub N₄ (by simp +contextual)
  refine wpAny_execs_cons (basis_loop (rest := []) KX T K0 F₄ (has_cons ((hk₄ _ rfl).trans ((hk₃ _ rfl).trans hd₂)) (has_cons ((hk₄ _ rfl).trans hb₃) (has_cons hc₄ has_nil))) N4 hx hy (by omega) (by omega) ?_)
  intro h₅ tk₅ m₅ ox₅ oy₅ vx₅ vy₅ vb nb hk₅ F₅ N₅ hx₅ hy₅ ib
  have hz₄ : m₄ "size" = some (.int sz tz) := (hk₄ _ rfl).trans ((hk₃ _ rfl).trans ((hk₂ _ rfl).trans hz₁))
  refine wpAny_execs_cons (ord0 KX T K0 F₅ N₅ ?_)
  intro h₆ tk₆ ao vo m₆ hk₆ ho₆ F₆ N₆ io lt₆
  have lt₆' := fun p hp => ltN (lt₆ p hp)
  simp only [List.mem_cons, List.not_mem_nil, or_false, forall_eq_or_imp, forall_eq] at lt₆'
  have hb₆ : m₆ "basis" = some (.ref ab) := (hk₆ _ (by decide)).trans ((hk₅ _ (by decide)).trans ((hk₄ _ rfl).trans hb₃))
  have hz₆ : m₆ "size" = some (.int sz tz) := (hk₆ _ (by decide)).trans ((hk₅ _ (by decide)).trans hz₄)
  refine wpAny_execs_cons (order_loop KX T K0 F₆ (has_cons ho₆ (has_cons hb₆ has_nil)) N₆ hx₅ hy₅ io ib (basis_len d0 d1 d2 d3) (by omega) (by omega) ?_)
  intro h₇ tk₇ aq vq nq m₇ ox₇ oy₇ vx₇ vy₇ hk₇ ho₇ F₇ N₇ hx₇ hy₇ iq lq
  have hz₇ : m₇ "size" = some (.int sz tz) := (hk₇ _ (by decide)).trans hz₆
  have pl := plain d0 d1 d2 d3 sz sz2 sz3
  have iq : IntsAre vq (orderOf d0 d1 d2 d3) := iq
  generalize orderOf d0 d1 d2 d3 = os at iq pl
  have hlen : os.length = 16 := pl.perm.length_eq
  have h16 : ∀ x ∈ os, 0 ≤ x ∧ x < 16 := fun x hx => by
    have := mem_rangeKs (pl.perm.mem_iff.mp hx)
    omega
  refine wpAny_execs_cons (sorted_st KX T K0 F₇ (has_cons ho₇ has_nil) N₇ iq (by rw [iq.length, hlen]; decide) pl.perm ?_)
  intro h₈ tk₈ F₈ N₈
  refine wpAny_execs_cons (tk0 KX T K0 F₈ N₈ ?_)
  intro h₉ tk₉ at' m₉ hk₉ ht₉ F₉ N₉ lt₉
  have lt₉' := fun p hp => ltN (lt₉ p hp)
  simp only [List.mem_cons, List.not_mem_nil, or_false, forall_eq_or_imp, forall_eq] at lt₉'
  refine wpAny_execs_cons (taken_loop KX T K0 F₉ (has_cons ((hk₉ _ rfl).trans ho₇) (has_cons ht₉ (has_cons ((hk₉ _ rfl).trans hz₇) has_nil))) N₉ hx₇ hy₇ iq h16 (by omega) sz2 sz3 lq lt₉'.1 ?_)
  intro ha tka ma oxa oya vxa vya vt nt hka Fa Na hxa hya it
  have hsub : ∀ x ∈ os.foldl (take1 sz) [], x ∈ os := fun x hx => (taken_sub os [] x hx).elim id (fun h => nomatch h)
  have htl : (os.foldl (take1 sz) []).length ≤ 16 := by
    have := (take1_ok (sz := sz) h16 os.length (Nat.le_refl _)).2
    rw [List.take_length] at this
    omega
  generalize os.foldl (take1 sz) [] = ts at it pl hsub htl
  refine wpAny_execs_cons (db0 KX T K0 Fa Na ?_)
  intro hb tkb adb vdb mb' hkb hdb Fb Nb idb ltb
  have ltb' := fun p hp => ltN (ltb p hp)
  simp only [List.mem_cons, List.not_mem_nil, or_false, forall_eq_or_imp, forall_eq] at ltb'
  refine wpAny_execs_cons (hi0 KX T K0 Fb Nb ?_)
  intro hc tkc mc hkc ⟨th, hhc⟩ Fc Nc
  have hoc : mc "order" = some (.ref aq) := (hkc _ rfl).trans ((hkb _ rfl).trans ((hka _ rfl).trans ((hk₉ _ rfl).trans ho₇)))
  have htc : mc "taken" = some (.ref at') := (hkc _ rfl).trans ((hkb _ rfl).trans ((hka _ rfl).trans ht₉))
  have hdc : mc "doubled" = some (.ref adb) := (hkc _ rfl).trans hdb
  refine wpAny_execs_cons (dbl_loop KX T K0 Fc (has_cons hoc (has_cons htc (has_cons hdc (has_cons hhc has_nil)))) Nc hxa hya iq it idb h16 (by omega) htl hsub lq lt₉'.1 ltb'.2.2.1 ?_)
  intro hd tkd md D ws nd hkd hdd Fd Nd iws
  rw [pl.dbl] at iws
  have lvt := it.length
  refine wpAny_execs_cons (ret_st KX T K0 Fd (has_cons hdd (has_cons ((hkd _ rfl).trans htc) has_nil)) Nd iws it (by omega) (by rw [lvt]; exact pl.one) (by rw [lvt]; exact pl.bit) ?_)
  intro he tke Fe
  exact h _ _ _ Fe
end
end Mine
namespace Mine
theorem bx_fin : ∀ a b : Fin 16, Builtin.bitXor (a.val : Int) (b.val : Int) = ((a.val ^^^ b.val : Nat) : Int) := by decide +kernel
theorem bx {a b : Nat} (ha : a < 16) (hb : b < 16) : Builtin.bitXor (a : Int) (b : Int) = ((a ^^^ b : Nat) : Int) := bx_fin ⟨a, ha⟩ ⟨b, hb⟩
theorem x16 {a b : Nat} (ha : a < 16) (hb : b < 16) : a ^^^ b < 16 := Nat.xor_lt_two_pow (n := 4) ha hb
theorem xx (a b : Nat) : (a ^^^ b) ^^^ b = a := by rw [Nat.xor_assoc, Nat.xor_self, Nat.xor_zero]
/-- the clearing on naturals -/
def clrN (a c : Nat) : Nat := if a / 2 ^ c.log2 % 2 = 1 then a ^^^ c else a
theorem clrN_fin : ∀ a c : Fin 16, 1 ≤ c.val → clr1 (a.val : Int) (c.val : Int) = (clrN a.val c.val : Int) := by decide +kernel
theorem clrN_lt_fin : ∀ a c : Fin 16, clrN a.val c.val < 16 := by decide +kernel
theorem clrN_zero_fin : ∀ a c : Fin 16, 1 ≤ c.val → (clrN a.val c.val = 0 ↔ a.val = 0 ∨ a.val = c.val) := by decide +kernel
theorem clrN_lin_fin : ∀ c a b : Fin 16, clrN (a.val ^^^ b.val) c.val = clrN a.val c.val ^^^ clrN b.val c.val := by decide +kernel
def redN (cs : List Nat) (z : Nat) : Nat := cs.foldl clrN z
theorem redN_lt {cs : List Nat} (hc : ∀ c ∈ cs, 1 ≤ c ∧ c < 16) : ∀ {z : Nat}, z < 16 → redN cs z < 16 := by
  induction cs with
  | nil => intro z hz; exact hz
  | cons c r ih => intro z hz; exact ih (fun d hd => hc d (.tail _ hd)) (clrN_lt_fin ⟨z, hz⟩ ⟨c, (hc c (.head _)).2⟩)
theorem redN_lin {cs : List Nat} (hc : ∀ c ∈ cs, 1 ≤ c ∧ c < 16) : ∀ {a b : Nat}, a < 16 → b < 16 → redN cs (a ^^^ b) = redN cs a ^^^ redN cs b := by
  induction cs with
  | nil => intro a b _ _; rfl
  | cons c r ih =>
    intro a b ha hb
    have h16 := (hc c (.head _)).2
    show redN r (clrN (a ^^^ b) c) = _
    rw [show clrN (a ^^^ b) c = clrN a c ^^^ clrN b c from clrN_lin_fin ⟨c, h16⟩ ⟨a, ha⟩ ⟨b, hb⟩]
    exact ih (fun d hd => hc d (.tail _ hd)) (clrN_lt_fin ⟨a, ha⟩ ⟨c, h16⟩) (clrN_lt_fin ⟨b, hb⟩ ⟨c, h16⟩)
def dblN (os : List Nat) (y : Nat) : List Nat := os ++ os.map (fun x => x ^^^ y)
def spanN (bs : List Nat) : List Nat := bs.foldl dblN [0]
theorem spanN_snoc (bs : List Nat) (n : Nat) : spanN (bs ++ [n]) = spanN bs ++ (spanN bs).map (fun x => x ^^^ n) := by
  simp [spanN, List.foldl_append, dblN]
def elimN (st : List Nat × List Nat) (n : Nat) : List Nat × List Nat := if redN st.2 n = 0 then st else (st.1 ++ [n], st.2 ++ [redN st.2 n])
structure EInv (st : List Nat × List Nat) : Prop where
  c16 : ∀ c ∈ st.2, 1 ≤ c ∧ c < 16
  b16 : ∀ b ∈ st.1, b < 16
  s16 : ∀ z ∈ spanN st.1, z < 16
  nd : (spanN st.1).Nodup
  zero : 0 ∈ spanN st.1
  red : ∀ z < 16, redN st.2 z = 0 ↔ z ∈ spanN st.1
theorem einv0 : EInv ([], []) where
  c16 := by simp
  b16 := by simp
  s16 := by simp [spanN]
  nd := by simp [spanN]
  zero := by simp [spanN]
  red := by intro z hz; simp [spanN, redN]
theorem elim_step {st : List Nat × List Nat} (h : EInv st) {n : Nat} (hn : n < 16) : EInv (elimN st n) ∧ n ∈ spanN (elimN st n).1 ∧ (∀ z ∈ spanN st.1, z ∈ spanN (elimN st n).1) := by
  unfold elimN
  split
  · rename_i h0
    exact ⟨h, (h.red n hn).mp h0, fun z hz => hz⟩
  · rename_i h0
    have hr := redN_lt h.c16 hn
    have hsub : ∀ z ∈ spanN st.1, z ∈ spanN (st.1 ++ [n]) := fun z hz => by rw [spanN_snoc]; exact List.mem_append_left _ hz
    have hnm : n ∈ spanN (st.1 ++ [n]) := by
      rw [spanN_snoc]
      exact List.mem_append_right _ (List.mem_map.mpr ⟨0, h.zero, Nat.zero_xor n⟩)
    refine ⟨⟨?_, ?_, ?_, ?_, hsub 0 h.zero, ?_⟩, hnm, hsub⟩
    · intro c hc
      rcases List.mem_append.mp hc with hc | hc
      · exact h.c16 c hc
      · rw [List.mem_singleton.mp hc]; exact ⟨by omega, hr⟩
    · intro b hb
      rcases List.mem_append.mp hb with hb | hb
      · exact h.b16 b hb
      · rw [List.mem_singleton.mp hb]; exact hn
    · intro z hz
      dsimp only at hz
      rw [spanN_snoc] at hz
      rcases List.mem_append.mp hz with hz | hz
      · exact h.s16 z hz
      · obtain ⟨u, hu, rfl⟩ := List.mem_map.mp hz
        exact x16 (h.s16 u hu) hn
    · dsimp only
      rw [spanN_snoc, List.nodup_append]
      refine ⟨h.nd, ?_, ?_⟩
      · refine List.Pairwise.map _ ?_ h.nd
        intro a b hab e
        exact hab (by rw [← xx a n, ← xx b n, e])
      · intro u hu v hv e
        obtain ⟨t, ht, rfl⟩ := List.mem_map.mp hv
        have e1 : n = t ^^^ u := by rw [e, ← Nat.xor_assoc, Nat.xor_self, Nat.zero_xor]
        have hu0 := (h.red u (h.s16 u hu)).mpr hu
        have ht0 := (h.red t (h.s16 t ht)).mpr ht
        exact h0 (by rw [e1, redN_lin h.c16 (h.s16 t ht) (h.s16 u hu), hu0, ht0, Nat.xor_self])
    · intro z hz
      dsimp only
      have e1 : redN (st.2 ++ [redN st.2 n]) z = clrN (redN st.2 z) (redN st.2 n) := by simp [redN, List.foldl_append]
      have hrz := redN_lt h.c16 hz
      rw [e1, clrN_zero_fin ⟨_, hrz⟩ ⟨_, hr⟩ (by simp only; omega), spanN_snoc, List.mem_append]
      simp only
      refine or_congr (h.red z hz) ?_
      constructor
      · intro e
        have h2 : redN st.2 (z ^^^ n) = 0 := by rw [redN_lin h.c16 hz hn, e, Nat.xor_self]
        exact List.mem_map.mpr ⟨z ^^^ n, (h.red _ (x16 hz hn)).mp h2, xx z n⟩
      · intro hm
        obtain ⟨u, hu, rfl⟩ := List.mem_map.mp hm
        have hu0 := (h.red u (h.s16 u hu)).mpr hu
        rw [redN_lin h.c16 (h.s16 u hu) hn, hu0, Nat.zero_xor]
theorem elim_all : ∀ (ns : List Nat) (st : List Nat × List Nat), EInv st → (∀ n ∈ ns, n < 16) → EInv (ns.foldl elimN st) ∧ (∀ n ∈ ns, n ∈ spanN (ns.foldl elimN st).1) ∧ (∀ z ∈ spanN st.1, z ∈ spanN (ns.foldl elimN st).1) := by
  intro ns
  induction ns with
  | nil => intro st h _; exact ⟨h, by simp, fun z hz => hz⟩
  | cons n r ih =>
    intro st h hn
    obtain ⟨h1, h2, h3⟩ := elim_step h (hn n (.head _))
    obtain ⟨k1, k2, k3⟩ := ih _ h1 (fun k hk => hn k (.tail _ hk))
    refine ⟨k1, fun k hk => ?_, fun z hz => k3 z (h3 z hz)⟩
    rcases List.mem_cons.mp hk with rfl | hk
    · exact k3 _ h2
    · exact k2 k hk
theorem bits_all_fin : ∀ z : Fin 16, z.val = ((if z.val.testBit 0 then 1 else 0) ^^^ (if z.val.testBit 1 then 2 else 0)) ^^^ ((if z.val.testBit 2 then 4 else 0) ^^^ (if z.val.testBit 3 then 8 else 0)) := by decide +kernel
theorem spanN_len (bs : List Nat) : ∀ os : List Nat, (bs.foldl dblN os).length = os.length * 2 ^ bs.length := by
  induction bs with
  | nil => intro os; simp
  | cons b r ih => intro os; rw [List.foldl_cons, ih]; simp [dblN, Nat.pow_succ]; rw [← Nat.two_mul, Nat.mul_comm 2, Nat.mul_assoc, Nat.mul_comm 2]
/-- the basis is one -/
theorem elim_done {d0 d1 d2 d3 : Nat} (h0 : d0 < 16) (h1 : d1 < 16) (h2 : d2 < 16) (h3 : d3 < 16) :
    let bs := ([d0, d1, d2, d3, 1, 2, 4, 8].foldl elimN ([], [])).1
    bs.length = 4 ∧ (∀ b ∈ bs, b < 16) ∧ (spanN bs).Perm (List.range 16) := by
  obtain ⟨k1, k2, _⟩ := elim_all [d0, d1, d2, d3, 1, 2, 4, 8] ([], []) einv0 (by simp [h0, h1, h2, h3])
  generalize [d0, d1, d2, d3, 1, 2, 4, 8].foldl elimN ([], []) = st at k1 k2
  intro bs
  have r1 := (k1.red 1 (by decide)).mpr (k2 1 (by simp))
  have r2 := (k1.red 2 (by decide)).mpr (k2 2 (by simp))
  have r4 := (k1.red 4 (by decide)).mpr (k2 4 (by simp))
  have r8 := (k1.red 8 (by decide)).mpr (k2 8 (by simp))
  have rz := (k1.red 0 (by decide)).mpr k1.zero
  have all : ∀ z < 16, z ∈ spanN st.1 := fun z hz => (k1.red z hz).mp (by
    have e := bits_all_fin ⟨z, hz⟩
    simp only at e
    have f1 : ∀ (b : Bool) (k : Nat), k < 16 → redN st.2 k = 0 → (if b then k else 0) < 16 ∧ redN st.2 (if b then k else 0) = 0 := by
      intro b k hk hr
      cases b with
      | true => exact ⟨hk, hr⟩
      | false => exact ⟨by simp, rz⟩
    have a1 := f1 (z.testBit 0) 1 (by decide) r1
    have a2 := f1 (z.testBit 1) 2 (by decide) r2
    have a3 := f1 (z.testBit 2) 4 (by decide) r4
    have a4 := f1 (z.testBit 3) 8 (by decide) r8
    rw [e, redN_lin k1.c16 (x16 a1.1 a2.1) (x16 a3.1 a4.1), redN_lin k1.c16 a1.1 a2.1, redN_lin k1.c16 a3.1 a4.1, a1.2, a2.2, a3.2, a4.2]
    rfl)
  have hp : (spanN st.1).Perm (List.range 16) := (List.perm_ext_iff_of_nodup k1.nd List.nodup_range).mpr fun z => ⟨fun hz => List.mem_range.mpr (k1.s16 z hz), fun hz => all z (List.mem_range.mp hz)⟩
  refine ⟨?_, k1.b16, hp⟩
  have hl := hp.length_eq
  rw [spanN, spanN_len, List.length_range] at hl
  simp only [List.length_cons, List.length_nil, Nat.zero_add, Nat.one_mul] at hl
  have : (2 : Nat) ^ st.1.length = 2 ^ 4 := hl
  exact (Nat.pow_right_inj (by decide)).mp this
end Mine
namespace Mine
/-- the xor of four by the bits of a number -/
def gam (g0 g1 g2 g3 i : Nat) : Nat := ((if i.testBit 0 = true then g0 else 0) ^^^ (if i.testBit 1 = true then g1 else 0)) ^^^ ((if i.testBit 2 = true then g2 else 0) ^^^ (if i.testBit 3 = true then g3 else 0))
theorem ite_xor (a b : Bool) (g : Nat) : (if (a ^^ b) = true then g else 0) = (if a = true then g else 0) ^^^ (if b = true then g else 0) := by
  cases a <;> cases b <;> simp
theorem gam_lin (g0 g1 g2 g3 a b : Nat) : gam g0 g1 g2 g3 (a ^^^ b) = gam g0 g1 g2 g3 a ^^^ gam g0 g1 g2 g3 b := by
  simp only [gam, Nat.testBit_xor, ite_xor]
  ac_rfl
theorem gam_1 (g0 g1 g2 g3 : Nat) : gam g0 g1 g2 g3 1 = g0 := by
  have h0 : Nat.testBit 1 0 = true := by decide
  have h1 : Nat.testBit 1 1 = false := by decide
  have h2 : Nat.testBit 1 2 = false := by decide
  have h3 : Nat.testBit 1 3 = false := by decide
  simp [gam, h0, h1, h2, h3]
theorem gam_2 (g0 g1 g2 g3 : Nat) : gam g0 g1 g2 g3 2 = g1 := by
  have h0 : Nat.testBit 2 0 = false := by decide
  have h1 : Nat.testBit 2 1 = true := by decide
  have h2 : Nat.testBit 2 2 = false := by decide
  have h3 : Nat.testBit 2 3 = false := by decide
  simp [gam, h0, h1, h2, h3]
theorem gam_4 (g0 g1 g2 g3 : Nat) : gam g0 g1 g2 g3 4 = g2 := by
  have h0 : Nat.testBit 4 0 = false := by decide
  have h1 : Nat.testBit 4 1 = false := by decide
  have h2 : Nat.testBit 4 2 = true := by decide
  have h3 : Nat.testBit 4 3 = false := by decide
  simp [gam, h0, h1, h2, h3]
theorem gam_8 (g0 g1 g2 g3 : Nat) : gam g0 g1 g2 g3 8 = g3 := by
  have h0 : Nat.testBit 8 0 = false := by decide
  have h1 : Nat.testBit 8 1 = false := by decide
  have h2 : Nat.testBit 8 2 = false := by decide
  have h3 : Nat.testBit 8 3 = true := by decide
  simp [gam, h0, h1, h2, h3]
theorem low3 (g0 g1 g2 g3 : Nat) {r : Nat} (h : r < 8) : gam g0 g1 g2 g3 r = gam g0 g1 g2 0 r := by
  have h3 : r.testBit 3 = false := Nat.testBit_lt_two_pow (show r < 2 ^ 3 from h)
  simp [gam, h3]
theorem low2 (g0 g1 g2 g3 : Nat) {r : Nat} (h : r < 4) : gam g0 g1 g2 g3 r = gam g0 g1 0 0 r := by
  have h2 : r.testBit 2 = false := Nat.testBit_lt_two_pow (show r < 2 ^ 2 from h)
  have h3 : r.testBit 3 = false := Nat.testBit_lt_two_pow (Nat.lt_trans h (by decide))
  simp [gam, h2, h3]
theorem low1 (g0 g1 g2 g3 : Nat) {r : Nat} (h : r < 2) : gam g0 g1 g2 g3 r = gam g0 0 0 0 r := by
  have h1 : r.testBit 1 = false := Nat.testBit_lt_two_pow (show r < 2 ^ 1 from h)
  have h2 : r.testBit 2 = false := Nat.testBit_lt_two_pow (Nat.lt_trans h (by decide))
  have h3 : r.testBit 3 = false := Nat.testBit_lt_two_pow (Nat.lt_trans h (by decide))
  simp [gam, h1, h2, h3]
theorem gam_0 (g0 g1 g2 g3 : Nat) : gam g0 g1 g2 g3 0 = 0 := by simp [gam]
theorem add8 : ∀ r : Fin 8, 8 + r.val = 8 ^^^ r.val := by decide
theorem add4 : ∀ r : Fin 4, 4 + r.val = 4 ^^^ r.val := by decide
theorem add2 : ∀ r : Fin 2, 2 + r.val = 2 ^^^ r.val := by decide
/-- the least that is not there -/
theorem mex_ex (l : List Nat) : ∃ v, v ≤ l.length ∧ v ∉ l ∧ ∀ u < v, u ∈ l := by
  have key : ∀ n, (∃ v < n, v ∉ l ∧ ∀ u < v, u ∈ l) ∨ ∀ u < n, u ∈ l := by
    intro n
    induction n with
    | zero => exact .inr fun u hu => absurd hu (Nat.not_lt_zero u)
    | succ n ih =>
      rcases ih with ⟨v, hv, h⟩ | h
      · exact .inl ⟨v, by omega, h⟩
      · by_cases hn : n ∈ l
        · refine .inr fun u hu => ?_
          by_cases e : u = n
          · rw [e]; exact hn
          · exact h u (by omega)
        · exact .inl ⟨n, by omega, hn, h⟩
  rcases key (l.length + 1) with ⟨v, hv, h⟩ | h
  · exact ⟨v, by omega, h⟩
  · have := List.Nodup.length_le_of_subset (List.nodup_range (n := l.length + 1)) (l₂ := l) (fun u hu => h u (List.mem_range.mp hu))
    rw [List.length_range] at this
    omega
def lev (E : Nat → Bool) (k : Nat) (f : Nat → Nat) : List Nat := ((List.range k).filter fun r => E (k + r)).map f
theorem lev_len (E : Nat → Bool) (k : Nat) (f : Nat → Nat) : (lev E k f).length ≤ k := by
  unfold lev
  rw [List.length_map]
  exact Nat.le_trans (List.length_filter_le _ _) (by rw [List.length_range]; exact Nat.le_refl k)
theorem lev_mem {E : Nat → Bool} {k : Nat} {f : Nat → Nat} {v : Nat} : v ∈ lev E k f ↔ ∃ r, r < k ∧ E (k + r) = true ∧ f r = v := by
  unfold lev
  simp only [List.mem_map, List.mem_filter, List.mem_range]
  constructor
  · rintro ⟨r, ⟨h1, h2⟩, h3⟩; exact ⟨r, h1, h2, h3⟩
  · rintro ⟨r, h1, h2, h3⟩; exact ⟨r, ⟨h1, h2⟩, h3⟩
/-- a coin's number, four times -/
theorem grundy (E : Nat → Bool) : ∃ g0 g1 g2 g3 : Nat, g0 ≤ 1 ∧ g1 ≤ 2 ∧ g2 ≤ 4 ∧ g3 ≤ 8 ∧ (∀ d, 0 < d → d < 16 → E d = true → gam g0 g1 g2 g3 d ≠ 0) ∧
    (∀ v < g0, E 1 = true ∧ v = 0) ∧ (∀ v < g1, ∃ r < 2, E (2 + r) = true ∧ gam g0 g1 g2 g3 r = v) ∧ (∀ v < g2, ∃ r < 4, E (4 + r) = true ∧ gam g0 g1 g2 g3 r = v) ∧ (∀ v < g3, ∃ r < 8, E (8 + r) = true ∧ gam g0 g1 g2 g3 r = v) := by
  obtain ⟨g0, l0, n0, m0⟩ := mex_ex (lev E 1 fun _ => 0)
  obtain ⟨g1, l1, n1, m1⟩ := mex_ex (lev E 2 (gam g0 0 0 0))
  obtain ⟨g2, l2, n2, m2⟩ := mex_ex (lev E 4 (gam g0 g1 0 0))
  obtain ⟨g3, l3, n3, m3⟩ := mex_ex (lev E 8 (gam g0 g1 g2 0))
  refine ⟨g0, g1, g2, g3, Nat.le_trans l0 (lev_len _ _ _), Nat.le_trans l1 (lev_len _ _ _), Nat.le_trans l2 (lev_len _ _ _), Nat.le_trans l3 (lev_len _ _ _), ?_, ?_, ?_, ?_, ?_⟩
  · intro d d0 d16 hE h0
    have xeq : ∀ {a b : Nat}, a ^^^ b = 0 → b = a := fun {a b} e => by
      have := xx b a
      rw [Nat.xor_comm b a, e, Nat.zero_xor] at this
      exact this.symm
    by_cases h8 : 8 ≤ d
    · obtain ⟨r, rfl⟩ : ∃ r, d = 8 + r := ⟨d - 8, by omega⟩
      have hr : r < 8 := by omega
      rw [add8 ⟨r, hr⟩, gam_lin, gam_8, low3 _ _ _ _ hr] at h0
      exact n3 (lev_mem.mpr ⟨r, hr, hE, xeq h0⟩)
    by_cases h4 : 4 ≤ d
    · obtain ⟨r, rfl⟩ : ∃ r, d = 4 + r := ⟨d - 4, by omega⟩
      have hr : r < 4 := by omega
      rw [add4 ⟨r, hr⟩, gam_lin, gam_4, low2 _ _ _ _ hr] at h0
      exact n2 (lev_mem.mpr ⟨r, hr, hE, xeq h0⟩)
    by_cases h2 : 2 ≤ d
    · obtain ⟨r, rfl⟩ : ∃ r, d = 2 + r := ⟨d - 2, by omega⟩
      have hr : r < 2 := by omega
      rw [add2 ⟨r, hr⟩, gam_lin, gam_2, low1 _ _ _ _ hr] at h0
      exact n1 (lev_mem.mpr ⟨r, hr, hE, xeq h0⟩)
    · have : d = 1 := by omega
      subst this
      rw [gam_1] at h0
      exact n0 (lev_mem.mpr ⟨0, by decide, hE, h0.symm⟩)
  · intro v hv
    obtain ⟨r, hr, hE, hf⟩ := lev_mem.mp (m0 v hv)
    have : r = 0 := by omega
    subst this
    exact ⟨hE, hf.symm⟩
  · intro v hv
    obtain ⟨r, hr, hE, hf⟩ := lev_mem.mp (m1 v hv)
    exact ⟨r, hr, hE, (low1 _ _ _ _ hr).trans hf⟩
  · intro v hv
    obtain ⟨r, hr, hE, hf⟩ := lev_mem.mp (m2 v hv)
    exact ⟨r, hr, hE, (low2 _ _ _ _ hr).trans hf⟩
  · intro v hv
    obtain ⟨r, hr, hE, hf⟩ := lev_mem.mp (m3 v hv)
    exact ⟨r, hr, hE, (low3 _ _ _ _ hr).trans hf⟩
theorem bit_ex : ∀ (g0 : Fin 2) (g1 : Fin 3) (g2 : Fin 5) (g3 : Fin 9) (i : Fin 16), gam g0.val g1.val g2.val g3.val i.val ≠ 0 →
    (i.val.testBit 0 = true ∧ g0.val ^^^ gam g0.val g1.val g2.val g3.val i.val < g0.val) ∨ (i.val.testBit 1 = true ∧ g1.val ^^^ gam g0.val g1.val g2.val g3.val i.val < g1.val) ∨
    (i.val.testBit 2 = true ∧ g2.val ^^^ gam g0.val g1.val g2.val g3.val i.val < g2.val) ∨ (i.val.testBit 3 = true ∧ g3.val ^^^ gam g0.val g1.val g2.val g3.val i.val < g3.val) := by decide +kernel
theorem down8 : ∀ (i : Fin 16) (r : Fin 8), i.val.testBit 3 = true → i.val ^^^ (8 + r.val) < i.val := by decide +kernel
theorem down4 : ∀ (i : Fin 16) (r : Fin 4), i.val.testBit 2 = true → i.val ^^^ (4 + r.val) < i.val := by decide +kernel
theorem down2 : ∀ (i : Fin 16) (r : Fin 2), i.val.testBit 1 = true → i.val ^^^ (2 + r.val) < i.val := by decide +kernel
theorem down1 : ∀ (i : Fin 16), i.val.testBit 0 = true → i.val ^^^ 1 < i.val := by decide +kernel
/-- the greedy choice on places -/
def stepT (E : Nat → Bool) (ts : List Nat) (i : Nat) : List Nat := if (ts.any fun j => E (i ^^^ j)) = true then ts else ts ++ [i]
theorem greedy (E : Nat → Bool) : ∃ (g0 : Fin 2) (g1 : Fin 3) (g2 : Fin 5) (g3 : Fin 9), (List.range 16).foldl (stepT E) [] = (List.range 16).filter fun i => gam g0.val g1.val g2.val g3.val i == 0 := by
  obtain ⟨g0, g1, g2, g3, b0, b1, b2, b3, M, M0, M1, M2, M3⟩ := grundy E
  refine ⟨⟨g0, by omega⟩, ⟨g1, by omega⟩, ⟨g2, by omega⟩, ⟨g3, by omega⟩, ?_⟩
  simp only
  have back : ∀ {i d : Nat}, i < 16 → gam g0 g1 g2 g3 d = gam g0 g1 g2 g3 i → E d = true → i ^^^ d < i → ∃ j < i, gam g0 g1 g2 g3 j = 0 ∧ E (i ^^^ j) = true := by
    intro i d hi hg hE hlt
    refine ⟨i ^^^ d, hlt, by rw [gam_lin, hg, Nat.xor_self], ?_⟩
    rw [← Nat.xor_assoc, Nat.xor_self, Nat.zero_xor]; exact hE
  have xg : ∀ a b : Nat, a ^^^ (a ^^^ b) = b := fun a b => by rw [← Nat.xor_assoc, Nat.xor_self, Nat.zero_xor]
  have one : ∀ i < 16, (∃ j < i, gam g0 g1 g2 g3 j = 0 ∧ E (i ^^^ j) = true) ↔ gam g0 g1 g2 g3 i ≠ 0 := by
    intro i hi
    constructor
    · rintro ⟨j, hj, hg, hE⟩ h0
      have hd : i ^^^ j < 16 := x16 hi (by omega)
      have hd0 : 0 < i ^^^ j := by
        rcases Nat.eq_zero_or_pos (i ^^^ j) with e | e
        · have := xx i j
          rw [e, Nat.zero_xor] at this
          omega
        · exact e
      exact M _ hd0 hd hE (by rw [gam_lin, hg, h0, Nat.xor_self])
    · intro hne
      have := bit_ex ⟨g0, by omega⟩ ⟨g1, by omega⟩ ⟨g2, by omega⟩ ⟨g3, by omega⟩ ⟨i, hi⟩ hne
      simp only at this
      rcases this with ⟨hb, hv⟩ | ⟨hb, hv⟩ | ⟨hb, hv⟩ | ⟨hb, hv⟩
      · obtain ⟨hE, hv0⟩ := M0 _ hv
        refine back hi ?_ hE (down1 ⟨i, hi⟩ hb)
        rw [gam_1, ← xg g0 (gam g0 g1 g2 g3 i), hv0, Nat.xor_zero]
      · obtain ⟨r, hr, hE, hg⟩ := M1 _ hv
        refine back hi ?_ hE (down2 ⟨i, hi⟩ ⟨r, hr⟩ hb)
        rw [add2 ⟨r, hr⟩, gam_lin, gam_2, hg, xg]
      · obtain ⟨r, hr, hE, hg⟩ := M2 _ hv
        refine back hi ?_ hE (down4 ⟨i, hi⟩ ⟨r, hr⟩ hb)
        rw [add4 ⟨r, hr⟩, gam_lin, gam_4, hg, xg]
      · obtain ⟨r, hr, hE, hg⟩ := M3 _ hv
        refine back hi ?_ hE (down8 ⟨i, hi⟩ ⟨r, hr⟩ hb)
        rw [add8 ⟨r, hr⟩, gam_lin, gam_8, hg, xg]
  have all : ∀ n ≤ 16, (List.range n).foldl (stepT E) [] = (List.range n).filter fun i => gam g0 g1 g2 g3 i == 0 := by
    intro n hn
    induction n with
    | zero => rfl
    | succ n ih =>
      rw [List.range_succ, List.foldl_append, List.filter_append, ih (by omega)]
      simp only [List.foldl_cons, List.foldl_nil]
      have h1 := one n (by omega)
      have h2 : (((List.range n).filter fun i => gam g0 g1 g2 g3 i == 0).any fun j => E (n ^^^ j)) = true ↔ ∃ j < n, gam g0 g1 g2 g3 j = 0 ∧ E (n ^^^ j) = true := by
        simp only [List.any_eq_true, List.mem_filter, List.mem_range, beq_iff_eq]
        constructor
        · rintro ⟨j, ⟨a, b⟩, c⟩; exact ⟨j, a, b, c⟩
        · rintro ⟨j, a, b, c⟩; exact ⟨j, ⟨a, b⟩, c⟩
      unfold stepT
      by_cases h0 : gam g0 g1 g2 g3 n = 0
      · rw [if_neg (fun hh => h1.mp (h2.mp hh) h0)]
        simp [h0]
      · rw [if_pos (h2.mpr (h1.mpr h0))]
        simp [h0]
  exact all 16 (Nat.le_refl 16)
/-- the doubling on places -/
def stepD (st : List Nat × Int) (i : Nat) : List Nat × Int :=
  if st.2 < (Builtin.Int.intBits (i : Int) : Int) - 1 then (st.1 ++ st.1.map (fun y => i ^^^ y), (Builtin.Int.intBits (i : Int) : Int) - 1) else st
theorem doubling : ∀ (g0 : Fin 2) (g1 : Fin 3) (g2 : Fin 5) (g3 : Fin 9),
    ((((List.range 16).filter fun i => gam g0.val g1.val g2.val g3.val i == 0).drop 1).foldl stepD ([0], -1)).1 = ((List.range 16).filter fun i => gam g0.val g1.val g2.val g3.val i == 0) ∧
    1 ≤ ((List.range 16).filter fun i => gam g0.val g1.val g2.val g3.val i == 0).length ∧
    Builtin.bitAnd (((List.range 16).filter fun i => gam g0.val g1.val g2.val g3.val i == 0).length : Int) ((((List.range 16).filter fun i => gam g0.val g1.val g2.val g3.val i == 0).length : Int) - 1) = 0 := by decide +kernel
end Mine
namespace Mine
abbrev cast16 : Nat → Int := fun n => (n : Int)
theorem red_cast : ∀ (cs : List Nat), (∀ c ∈ cs, 1 ≤ c ∧ c < 16) → ∀ {a : Nat}, a < 16 → (cs.map cast16).foldl clr1 (a : Int) = (redN cs a : Int) := by
  intro cs
  induction cs with
  | nil => intro _ a _; rfl
  | cons c r ih =>
    intro hc a ha
    have h1 := hc c (.head _)
    show (r.map cast16).foldl clr1 (clr1 (a : Int) (c : Int)) = _
    rw [show clr1 (a : Int) (c : Int) = (clrN a c : Int) from clrN_fin ⟨a, ha⟩ ⟨c, h1.2⟩ h1.1]
    exact ih (fun d hd => hc d (.tail _ hd)) (clrN_lt_fin ⟨a, ha⟩ ⟨c, h1.2⟩)
def resN (n : Int) : Nat := (n.fmod 16).toNat
theorem resN_lt (n : Int) : resN n < 16 := by
  have h0 := Int.fmod_nonneg_of_pos n (show (0 : Int) < 16 by decide)
  have h1 := Int.fmod_lt_of_pos n (show (0 : Int) < 16 by decide)
  unfold resN; omega
theorem resN_cast (n : Int) : ((resN n : Nat) : Int) = n.fmod 16 := by
  have h0 := Int.fmod_nonneg_of_pos n (show (0 : Int) < 16 by decide)
  unfold resN; omega
theorem elim_cast : ∀ (ns : List Int) (st : List Nat × List Nat), EInv st → ns.foldl elim1 (st.1.map cast16, st.2.map cast16) = (((ns.map resN).foldl elimN st).1.map cast16, ((ns.map resN).foldl elimN st).2.map cast16) := by
  intro ns
  induction ns with
  | nil => intro st _; rfl
  | cons n r ih =>
    intro st h
    have hr := red_cast st.2 h.c16 (resN_lt n)
    rw [resN_cast] at hr
    have e1 : elim1 (st.1.map cast16, st.2.map cast16) n = ((elimN st (resN n)).1.map cast16, (elimN st (resN n)).2.map cast16) := by
      unfold elim1 elimN
      simp only [hr]
      by_cases h0 : redN st.2 (resN n) = 0
      · rw [if_pos h0, if_pos (by rw [h0]; rfl)]
      · rw [if_neg h0, if_neg (by omega)]
        simp only [List.map_append, List.map_cons, List.map_nil]
        rw [← resN_cast]
    simp only [List.foldl_cons, List.map_cons]
    rw [e1]
    exact ih _ (elim_step h (resN_lt n)).1
theorem dbl_cast : ∀ (bs : List Nat) (os : List Nat), (∀ b ∈ bs, b < 16) → (∀ o ∈ os, o < 16) → (bs.map cast16).foldl dbl (os.map cast16) = (bs.foldl dblN os).map cast16 := by
  intro bs
  induction bs with
  | nil => intro os _ _; rfl
  | cons b r ih =>
    intro os hb ho
    have hb0 := hb b (.head _)
    have e1 : dbl (os.map cast16) (b : Int) = (dblN os b).map cast16 := by
      unfold dbl dblN
      rw [List.map_append, List.map_map, List.map_map]
      congr 1
      refine List.map_congr_left fun x hx => ?_
      exact bx (ho x hx) hb0
    simp only [List.map_cons, List.foldl_cons]
    rw [show dbl (os.map cast16) (cast16 b) = (dblN os b).map cast16 from e1]
    refine ih _ (fun d hd => hb d (.tail _ hd)) fun o ho' => ?_
    unfold dblN at ho'
    rcases List.mem_append.mp ho' with h | h
    · exact ho o h
    · obtain ⟨u, hu, rfl⟩ := List.mem_map.mp h
      exact x16 (ho u hu) hb0
theorem span4 (b0 b1 b2 b3 : Nat) : spanN [b0, b1, b2, b3] = (List.range 16).map (gam b0 b1 b2 b3) := by
  simp only [spanN, dblN, List.foldl_cons, List.foldl_nil, List.map_cons, List.map_nil, List.map_append, List.cons_append, List.nil_append, Nat.zero_xor]
  show _ = [gam b0 b1 b2 b3 0, gam b0 b1 b2 b3 1, gam b0 b1 b2 b3 2, gam b0 b1 b2 b3 3, gam b0 b1 b2 b3 4, gam b0 b1 b2 b3 5, gam b0 b1 b2 b3 6, gam b0 b1 b2 b3 7, gam b0 b1 b2 b3 8, gam b0 b1 b2 b3 9, gam b0 b1 b2 b3 10, gam b0 b1 b2 b3 11, gam b0 b1 b2 b3 12, gam b0 b1 b2 b3 13, gam b0 b1 b2 b3 14, gam b0 b1 b2 b3 15]
  rw [gam_0, gam_1, gam_2, show (3 : Nat) = 1 ^^^ 2 from by decide, gam_lin, gam_1, gam_2, gam_4, show (5 : Nat) = 1 ^^^ 4 from by decide, show (6 : Nat) = 2 ^^^ 4 from by decide, show (7 : Nat) = (1 ^^^ 2) ^^^ 4 from by decide, gam_8,
    show (9 : Nat) = 1 ^^^ 8 from by decide, show (10 : Nat) = 2 ^^^ 8 from by decide, show (11 : Nat) = (1 ^^^ 2) ^^^ 8 from by decide, show (12 : Nat) = 4 ^^^ 8 from by decide, show (13 : Nat) = (1 ^^^ 4) ^^^ 8 from by decide, show (14 : Nat) = (2 ^^^ 4) ^^^ 8 from by decide, show (15 : Nat) = ((1 ^^^ 2) ^^^ 4) ^^^ 8 from by decide]
  simp only [gam_lin, gam_1, gam_2, gam_4, gam_8]

theorem away0_fin : ∀ x y : Fin 16, awayI (x.val : Int) (y.val : Int) = awayI ((x.val ^^^ y.val : Nat) : Int) ((0 : Nat) : Int) := by decide +kernel
theorem crowd_iff {x y sz : Int} (x0 : 0 ≤ x) (x1 : x < 16) (y0 : 0 ≤ y) (y1 : y < 16) (sz2 : 2 ≤ sz) (sz3 : sz ≤ 3) : levF (wordS x) (wordS y) sz = sz ↔ awayI x y = sz := by
  have h := told_eq x0 x1 y0 y1 sz2 sz3
  split at h <;> split at h <;> omega
section
variable {f : Nat → Nat} (f16 : ∀ i < 16, f i < 16) (flin : ∀ i j, f (i ^^^ j) = f i ^^^ f j) (finj : ∀ i < 16, ∀ j < 16, f i = f j → i = j)
abbrev fI (f : Nat → Nat) : Nat → Int := fun i => (f i : Int)
def EOf (f : Nat → Nat) (sz : Int) (k : Nat) : Bool := decide (awayI (f k : Int) ((0 : Nat) : Int) = sz)
include f16 flin
theorem crowd_cast {sz : Int} (sz2 : 2 ≤ sz) (sz3 : sz ≤ 3) {i : Nat} (hi : i < 16) {ts : List Nat} (ht : ∀ t ∈ ts, t < 16) : crowdB sz (f i : Int) (ts.map (fI f)) = ts.any fun j => EOf f sz (i ^^^ j) := by
  unfold crowdB
  rw [List.any_map]
  have : ∀ j ∈ ts, ((fun y => decide (levF (wordS (f i : Int)) (wordS y) sz = sz)) ∘ fI f) j = EOf f sz (i ^^^ j) := by
    intro j hj
    have hi' := f16 i hi
    have hj' := f16 j (ht j hj)
    have h := crowd_iff (x := (f i : Int)) (y := (f j : Int)) (by omega) (by omega) (by omega) (by omega) sz2 sz3
    have h2 := away0_fin ⟨f i, hi'⟩ ⟨f j, hj'⟩
    simp only at h2
    show decide (levF (wordS (f i : Int)) (wordS (f j : Int)) sz = sz) = decide (awayI (f (i ^^^ j) : Int) ((0 : Nat) : Int) = sz)
    rw [flin, ← h2]
    exact decide_eq_decide.mpr h
  clear hi
  induction ts with
  | nil => rfl
  | cons t r ih =>
    simp only [List.any_cons]
    rw [this t (.head _), ih (fun s hs => ht s (.tail _ hs)) (fun j hj => this j (.tail _ hj))]
theorem take_cast {sz : Int} (sz2 : 2 ≤ sz) (sz3 : sz ≤ 3) : ∀ (l ts : List Nat), (∀ i ∈ l, i < 16) → (∀ t ∈ ts, t < 16) → (l.map (fI f)).foldl (take1 sz) (ts.map (fI f)) = (l.foldl (stepT (EOf f sz)) ts).map (fI f) := by
  intro l
  induction l with
  | nil => intro ts _ _; rfl
  | cons i r ih =>
    intro ts hl ht
    have hi := hl i (.head _)
    have e1 : take1 sz (ts.map (fI f)) (f i : Int) = (stepT (EOf f sz) ts i).map (fI f) := by
      unfold take1 stepT
      rw [crowd_cast f16 flin sz2 sz3 hi ht]
      split
      · rfl
      · simp
    simp only [List.map_cons, List.foldl_cons]
    rw [show take1 sz (ts.map (fI f)) (fI f i) = _ from e1]
    refine ih _ (fun k hk => hl k (.tail _ hk)) fun t ht' => ?_
    unfold stepT at ht'
    split at ht'
    · exact ht t ht'
    · rcases List.mem_append.mp ht' with h | h
      · exact ht t h
      · rw [List.mem_singleton.mp h]; exact hi
include finj
theorem idx_cast {i : Nat} (hi : i < 16) : ((List.range 16).map (fI f)).idxOf (f i : Int) = i := by
  have hm : (f i : Int) ∈ (List.range 16).map (fI f) := List.mem_map.mpr ⟨i, List.mem_range.mpr hi, rfl⟩
  have hlt := List.idxOf_lt_length_iff.mpr hm
  have hg := List.getElem_idxOf hlt
  have hlt' : ((List.range 16).map (fI f)).idxOf (f i : Int) < 16 := by simpa using hlt
  rw [List.getElem_map, List.getElem_range] at hg
  have hg' : f (((List.range 16).map (fI f)).idxOf (f i : Int)) = f i := by
    have := hg
    simp only [fI] at this
    omega
  exact finj _ hlt' _ hi hg'
theorem dbl_cast2 : ∀ (l ds : List Nat) (h : Int), (∀ i ∈ l, i < 16) → (∀ t ∈ ds, t < 16) →
    (l.map (fI f)).foldl (dstep ((List.range 16).map (fI f))) (ds.map (fI f), h) = ((l.foldl stepD (ds, h)).1.map (fI f), (l.foldl stepD (ds, h)).2) := by
  intro l
  induction l with
  | nil => intro ds h _ _; rfl
  | cons i r ih =>
    intro ds h hl hd
    have hi := hl i (.head _)
    have e1 : dstep ((List.range 16).map (fI f)) (ds.map (fI f), h) (f i : Int) = ((stepD (ds, h) i).1.map (fI f), (stepD (ds, h) i).2) := by
      unfold dstep stepD placeI
      rw [idx_cast f16 flin finj hi]
      simp only
      split
      · simp only [List.map_append, List.map_map]
        congr 2
        refine List.map_congr_left fun y hy => ?_
        show Builtin.bitXor (f i : Int) (f y : Int) = ((f (i ^^^ y) : Nat) : Int)
        rw [flin]
        exact bx (f16 i hi) (f16 y (hd y hy))
      · rfl
    simp only [List.map_cons, List.foldl_cons]
    rw [show dstep ((List.range 16).map (fI f)) (ds.map (fI f), h) (fI f i) = _ from e1]
    refine ih _ _ (fun k hk => hl k (.tail _ hk)) fun t ht' => ?_
    unfold stepD at ht'
    split at ht'
    · rcases List.mem_append.mp ht' with h | h
      · exact hd t h
      · obtain ⟨u, hu, rfl⟩ := List.mem_map.mp h
        exact x16 hi (hd u hu)
    · exact hd t ht'
theorem plain_of (f0 : f 0 = 0) {sz : Int} (sz2 : 2 ≤ sz) (sz3 : sz ≤ 3) (hp : ((List.range 16).map (fI f)).Perm (rangeKs 0 16)) :
    PlainOk ((List.range 16).map (fI f)) (((List.range 16).map (fI f)).foldl (take1 sz) []) := by
  have ht := take_cast f16 flin sz2 sz3 (List.range 16) [] (fun i hi => List.mem_range.mp hi) (by simp)
  simp only [List.map_nil] at ht
  obtain ⟨g0, g1, g2, g3, hg⟩ := greedy (EOf f sz)
  rw [ht, hg]
  obtain ⟨k1, k2, k3⟩ := doubling g0 g1 g2 g3
  have hT : ∀ t ∈ (List.range 16).filter (fun i => gam g0.val g1.val g2.val g3.val i == 0), t < 16 := fun t h => List.mem_range.mp (List.mem_filter.mp h).1
  generalize (List.range 16).filter (fun i => gam g0.val g1.val g2.val g3.val i == 0) = T at k1 k2 k3 hT ⊢
  refine ⟨hp, ?_, by rw [List.length_map]; exact k2, by rw [List.length_map]; exact k3⟩
  have hd := dbl_cast2 f16 flin finj (T.drop 1) [0] (-1) (fun i hi => hT i (List.mem_of_mem_drop hi)) (by simp)
  rw [k1] at hd
  have e0 : ([0] : List Nat).map (fI f) = [0] := by simp [fI, f0]
  rw [e0] at hd
  rw [← List.map_drop, hd]
end
theorem plain (d0 d1 d2 d3 sz : Int) (sz2 : 2 ≤ sz) (sz3 : sz ≤ 3) : PlainOk (orderOf d0 d1 d2 d3) ((orderOf d0 d1 d2 d3).foldl (take1 sz) []) := by
  have hb : basisOf d0 d1 d2 d3 = (([resN d0, resN d1, resN d2, resN d3, 1, 2, 4, 8].foldl elimN ([], [])).1).map cast16 := by
    have := elim_cast [d0, d1, d2, d3, 1, 2, 4, 8] ([], []) einv0
    have e : [d0, d1, d2, d3, 1, 2, 4, 8].map resN = [resN d0, resN d1, resN d2, resN d3, 1, 2, 4, 8] := by
      simp only [List.map_cons, List.map_nil, show resN 1 = 1 from by decide, show resN 2 = 2 from by decide, show resN 4 = 4 from by decide, show resN 8 = 8 from by decide]
    rw [e] at this
    simp only [List.map_nil] at this
    unfold basisOf
    rw [this]
  obtain ⟨hl, hb16, hp⟩ := elim_done (resN_lt d0) (resN_lt d1) (resN_lt d2) (resN_lt d3)
  generalize ([resN d0, resN d1, resN d2, resN d3, 1, 2, 4, 8].foldl elimN ([], [])).1 = bs at hb hl hb16 hp
  have ho : orderOf d0 d1 d2 d3 = (spanN bs).map cast16 := by
    unfold orderOf
    rw [hb]
    exact dbl_cast bs [0] hb16 (by simp)
  match bs, hl with
  | [b0, b1, b2, b3], _ =>
    rw [span4] at hp ho
    have ho' : orderOf d0 d1 d2 d3 = (List.range 16).map (fI (gam b0 b1 b2 b3)) := by rw [ho, List.map_map]; rfl
    have f16 : ∀ i < 16, gam b0 b1 b2 b3 i < 16 := fun i hi => List.mem_range.mp (hp.mem_iff.mp (List.mem_map.mpr ⟨i, List.mem_range.mpr hi, rfl⟩))
    have nd : ((List.range 16).map (gam b0 b1 b2 b3)).Nodup := hp.nodup_iff.mpr List.nodup_range
    have finj : ∀ i < 16, ∀ j < 16, gam b0 b1 b2 b3 i = gam b0 b1 b2 b3 j → i = j := by
      have hp2 := List.pairwise_iff_getElem.mp (List.pairwise_map.mp nd)
      have lt : ∀ i j, i < j → j < 16 → gam b0 b1 b2 b3 i ≠ gam b0 b1 b2 b3 j := fun i j hij hj => by
        have := hp2 i j (by simp; omega) (by simp; omega) hij
        simpa [List.getElem_range] using this
      intro i hi j hj e
      rcases Nat.lt_trichotomy i j with h | h | h
      · exact absurd e (lt i j h hj)
      · exact h
      · exact absurd e.symm (lt j i h hi)
    have hpI : ((List.range 16).map (fI (gam b0 b1 b2 b3))).Perm (rangeKs 0 16) := by
      have := hp.map cast16
      rw [List.map_map] at this
      have e2 : (List.range 16).map cast16 = rangeKs 0 16 := by
        unfold rangeKs
        refine List.map_congr_left fun x _ => ?_
        show (x : Int) = 0 + (x : Int)
        omega
      rw [e2] at this
      exact this
    rw [ho']
    exact plain_of f16 (gam_lin b0 b1 b2 b3) finj (gam_0 b0 b1 b2 b3) sz2 sz3 hpI
end Mine
set_option maxRecDepth 100000 in
set_option maxHeartbeats 8000000 in
theorem PySem.Challenge.cw_qu0006_01_holds : PySem.Challenge.rw_qu0006_01.Holds := by
  exact Mine.hd (by
    k_go0
    refine wpAny_mono (Mine.law_body Mine.plain (by assumption) (by assumption) (by assumption) (by assumption) (Mine.has_cons rfl Mine.has_nil) (by assumption) (by assumption) (by assumption) (by assumption) (by assumption) (by omega) (by assumption) ?_) (fun _ _ x => x) (fun _ _ x => x.elim)
    intro h' tk' m' F'
    dsimp only
    k_steps)
