import PyProof.Rows.All
import Wide.All
import OpenK.AllK
import Wide.FinOn
import PySem.Challenge.RW_ti0013_01
set_option Elab.async false

section
open PySem PySem.W PyProof.Rows
namespace Mine
set_option maxRecDepth 100000
set_option maxHeartbeats 8000000
open_top hd for PySem.Challenge.rw_ti0013_01
end Mine
end

theorem Mine.top_Loop : True := by
  w_top off
  exact True.intro

section
open PySem PySem.W PyProof.Rows PySem.Spec PySem.Calls
namespace Mine
set_option maxRecDepth 100000
set_option maxHeartbeats 4000000

section
variable {prog : Program} {w : World} {A : Around} {E : Value → Shared → Prop} {s : Shared} {env : Env} {h₀ : Heap} {x : Str} {body : List Stmt} {Q : Flow → Shared → Prop}

/-- the walk stops here -/
structure Pause (P : Prop) : Prop where
  out : P

theorem For_pause {target iter : Expr} {orelse : List Stmt} {pos : Pos}
    (h : wpAny (model prog w) A (eval iter env) (fun x s₁ => Pause (wpAny (model prog w) A (pyIter x) (fun it s₂ =>
      codeAny (model prog w) A (.forLoop target it body orelse env) (fun r s' => match r with | .ok f => Q f s' | .error e => cameBackBy (model prog w) A env E e s') s₂) E s₁)) E s)
    (hs : ∀ x, foldedSetIterable iter env x = pure x := by intro _; rfl) :
    wpAny (model prog w) A (exec (.For target iter body orelse pos) env) Q E s := wpAny_For (wpAny_mono h (fun _ _ p => p.out) fun _ _ e => e) hs

theorem pause_here {α : Type} {M : Model} {tr : Sem α} {R : α → Shared → Prop} (h : Pause (wpAny M A tr R E s)) : wpAny M A tr R E s := h.out

/-- what a turn leaves behind -/
def StepM {σ : Type} (h₀ : Heap) (L : Addr) (Led : σ → List (Addr × Obj)) (ps : σ → List (Str × Value)) (Inv : σ → Array GenState → Prop) (own : List (Addr × Obj)) (adr : List Addr) (s₁ : Shared) (Q : Flow → Shared → Prop) (f : Flow) (s₂ : Shared) : Prop :=
  match f with
  | .ret v => Q (.ret v) s₂
  | .brk => Q .next s₂
  | _ => ∃ (c : σ) (h' : Heap) (tk : Nat) (m' : Str → Option Value) (gs : Array GenState), s₂ = { s₁ with heap := h', toks := tk, gens := gs } ∧ Fr h₀ L h' m' ∧ News h₀ L h' (Led c ++ own) ∧ (Led c).map (·.1) = adr ∧ (∀ p ∈ ps c, m' p.1 = some p.2) ∧ Inv c gs

theorem StepM.next {σ : Type} {L : Addr} {Led : σ → List (Addr × Obj)} {ps : σ → List (Str × Value)} {Inv : σ → Array GenState → Prop} {own news : List (Addr × Obj)} {adr : List Addr} {s₁ : Shared} {h' : Heap} {tk : Nat} {m' : Str → Option Value} {gs : Array GenState} (c : σ)
    (F : Fr h₀ L h' m') (N : News h₀ L h' news) (hn : ∀ p ∈ Led c ++ own, p ∈ news) (ha : (Led c).map (·.1) = adr) (hp : ∀ p ∈ ps c, m' p.1 = some p.2) (hi : Inv c gs) :
    StepM h₀ L Led ps Inv own adr s₁ Q .next { s₁ with heap := h', toks := tk, gens := gs } := ⟨c, h', tk, m', gs, rfl, F, fun p hp => N p (hn p hp), ha, hp, hi⟩

theorem newsOne {h₀ h : Heap} {L a : Addr} {o : Obj} {news : List (Addr × Obj)} (N : News h₀ L h news) (hm : (a, o) ∈ news) : News h₀ L h [(a, o)] := fun p hp => by rw [List.mem_singleton.mp hp]; exact N _ hm
theorem newsSub {h₀ h : Heap} {L : Addr} {news news' : List (Addr × Obj)} (N : News h₀ L h news) (hm : ∀ p ∈ news', p ∈ news) : News h₀ L h news' := fun p hp => N p (hm p hp)

theorem take_of {h₀ h : Heap} {L l' : Addr} {o : Obj} {r : List (Addr × Obj)} (_ : News h₀ L h ((l', o) :: r)) : ∃ l, l = l' := ⟨l', rfl⟩

theorem take_of3 {h₀ h : Heap} {L l' : Addr} {a b : Addr × Obj} {o : Obj} {r : List (Addr × Obj)} (_ : News h₀ L h (a :: b :: (l', o) :: r)) : ∃ l, l = l' := ⟨l', rfl⟩

theorem take_arr {h₀ h : Heap} {L l : Addr} {its : Array Value} {n : Nat} {r : List (Addr × Obj)} (_ : News h₀ L h ((l, listOf its n) :: r)) : ∃ a, a = its := ⟨its, rfl⟩

theorem kstB_id {m : Str → Option Value} {ps : List (Str × Value)} (h : ∀ p ∈ ps, m p.1 = some p.2) : kstB m ps = m := funext fun _ => kstB_eq h fun _ => rfl

/-- a loop over anything that walks, its state told by c : σ, generators may be made -/
theorem loop_walkM {σ : Type} {I : Addr} {fp wr : List Addr} {n : Nat} {P : Nat → Value → Prop} {St : Nat → Heap → Prop} {px : Pos} {m₀ : Str → Option Value}
    (Led : σ → List (Addr × Obj)) (ps : σ → List (Str × Value)) (Inv : Nat → σ → Array GenState → Prop) (c₀ : σ)
    (W : Walks prog w A I fp wr n P St) (hx : env.kindOf x = some .local)
    (hp : (env.scope.kind == .class || (env.scope.kind == .module && env.locals != env.globals)) = false)
    (hE : PassesOwn (model prog w) A env E)
    (hLf : env.locals ∉ fp) (hwr : ∀ b ∈ wr, h₀.get? b = none) (hnw : ∀ p ∈ Led c₀, p.1 ∉ fp ∨ (p.1 ∉ wr ∧ ∀ c, (Led c).map (·.1) = (Led c₀).map (·.1) → p ∈ Led c))
    (hst : St 0 s.heap) (F : Fr h₀ env.locals s.heap m₀) (N : News h₀ env.locals s.heap (Led c₀)) (hk : ∀ p ∈ ps c₀, m₀ p.1 = some p.2) (h0 : Inv 0 c₀ s.gens)
    (turn : ∀ i v c u gs h tk own, i < n → P i v → (∀ p ∈ own, ∀ q ∈ Led c₀, q.1 ∉ fp → p.1 ≠ q.1) → (∀ p ∈ own, p.1 ∈ fp) → (Led c).map (·.1) = (Led c₀).map (·.1) → Inv i c gs → Fr h₀ env.locals h (fun y => if y = x then some v else kstB u (ps c) y) → News h₀ env.locals h (Led c ++ own) →
      wpAny (model prog w) A (execs body env) (StepM h₀ env.locals Led ps (Inv (i + 1)) own ((Led c₀).map (·.1)) { s with heap := h, toks := tk, gens := gs } Q) E { s with heap := h, toks := tk, gens := gs })
    (done : ∀ c u h tk gs, (Led c).map (·.1) = (Led c₀).map (·.1) → Inv n c gs → Fr h₀ env.locals h (kstB u (ps c)) → News h₀ env.locals h (Led c) → Q .next { s with heap := h, toks := tk, gens := gs }) :
    codeAny (model prog w) A (.forLoop (.Name x px) (.ref I) body [] env) (fun r s' => match r with | .ok f => Q f s' | .error e => cameBackBy (model prog w) A env E e s') s := by
  have hLw : env.locals ∉ wr := fun h => hLf (W.sub _ h)
  have old : ∀ b o, h₀.get? b = some o → b ∉ wr := fun b o e hb => by rw [hwr b hb] at e; cases e
  have hoffW : ∀ c, (Led c).map (·.1) = (Led c₀).map (·.1) → ∀ p ∈ Led c, p.1 ∉ wr := by
    intro c hc p hpm
    have h1 : p.1 ∈ (Led c).map (·.1) := List.mem_map.mpr ⟨p, hpm, rfl⟩
    rw [hc] at h1
    obtain ⟨q, hq, hq2⟩ := List.mem_map.mp h1
    rcases hnw q hq with h | h
    · exact fun hb => h (W.sub _ (hq2 ▸ hb))
    · exact hq2 ▸ h.1
  refine codeAny_forLoop
    (fun k s' => ∃ h' tk m' gs c i, s' = { s with heap := h', toks := tk, gens := gs } ∧ St i h' ∧ Fr h₀ env.locals h' m' ∧ News h₀ env.locals h' (Led c) ∧ (Led c).map (·.1) = (Led c₀).map (·.1) ∧ (∀ p ∈ ps c, m' p.1 = some p.2) ∧ Inv i c gs ∧ i ≤ n ∧ k = n + 1 - i) ?_ (n + 1)
    ⟨s.heap, s.toks, m₀, s.gens, c₀, 0, rfl, hst, F, N, rfl, hk, h0, Nat.zero_le _, rfl⟩
  rintro k s' ⟨h', tk, m', gs, c, i, rfl, hst', F', N', hadr, hps, hI, hi, rfl⟩
  have next : ∀ h₁ : Heap, (∀ b o, b ∉ wr → h'.get? b = some o → h₁.get? b = some o) → Fr h₀ env.locals h₁ m' ∧ News h₀ env.locals h₁ (Led c) := fun h₁ hk₁ =>
    ⟨⟨F'.ns.at' fun o e => hk₁ _ o hLw e, fun b o e => hk₁ b o (old b o e) (F'.keep b o e), F'.above⟩, fun p hp => ⟨hk₁ _ _ (hoffW c hadr p hp) (N' p hp).1, (N' p hp).2⟩⟩
  by_cases hlt : i < n
  · refine W.item i _ _ _ hlt hst' fun v h₁ tk₁ hP hst₁ hk₁ => ?_
    obtain ⟨F₁, N₁⟩ := next h₁ hk₁
    refine wpAny_assign_Name (wpAny_storeName_local hx F₁.ns (fun h₂ hn₂ hs₂ => ?_) hp)
    have F₂ := F₁.set hn₂ hs₂
    have Nown : News h₀ env.locals h₂ (ownOf h₀ fp h₂) := news_ownOf hLf
    have em : (fun y => if y = x then some v else m' y) = fun y => if y = x then some v else kstB m' (ps c) y := by rw [kstB_id hps]
    rw [em] at F₂
    have Nall : News h₀ env.locals h₂ (Led c ++ ownOf h₀ fp h₂) := (N₁.set hs₂).append Nown
    refine wpAny_mono (wpAny_passesOwn hE (turn i v c m' gs h₂ _ (ownOf h₀ fp h₂) hlt hP (fun p hp q hq hqf e => hqf (e ▸ ownOf_sub p hp)) ownOf_sub hadr hI F₂ Nall)) (fun f s₃ h₃ => ?_) fun _ _ e => e
    have fin : ∀ s₃, StepM h₀ env.locals Led ps (Inv (i + 1)) (ownOf h₀ fp h₂) ((Led c₀).map (·.1)) { s with heap := h₂, toks := tk₁ + 1, gens := gs } Q .next s₃ → ∃ m, m < n + 1 - i ∧ ∃ h' tk m' gs c i, s₃ = { s with heap := h', toks := tk, gens := gs } ∧ St i h' ∧ Fr h₀ env.locals h' m' ∧ News h₀ env.locals h' (Led c) ∧ (Led c).map (·.1) = (Led c₀).map (·.1) ∧ (∀ p ∈ ps c, m' p.1 = some p.2) ∧ Inv i c gs ∧ i ≤ n ∧ m = n + 1 - i := by
      rintro s₃ ⟨c₃, h₃', tk₃, m₃, gs₃, rfl, F₃, N₃, ha₃, hp₃, hI₃⟩
      refine ⟨n + 1 - (i + 1), by omega, h₃', tk₃, m₃, gs₃, c₃, i + 1, rfl, ?_, F₃, fun p hp => N₃ p (List.mem_append_left _ hp), ha₃, hp₃, hI₃, hlt, rfl⟩
      refine W.frame _ _ _ hst₁ fun b hb o e => ?_
      have e₂ : h₂.get? b = some o := (hs₂.2 b fun q => hLf (q ▸ hb)).trans e
      cases hn : h₀.get? b with
      | some o₀ =>
        have : o₀ = o := by have := F₂.keep b o₀ hn; rw [e₂] at this; exact (Option.some.inj this).symm
        exact this ▸ F₃.keep b o₀ hn
      | none => exact (N₃ _ (List.mem_append_right _ (mem_ownOf hb hn e₂))).1
    cases f with
    | ret v => exact h₃
    | brk => exact h₃
    | cont => exact fin _ h₃
    | next => exact fin _ h₃
  · have hin : i = n := by omega
    subst hin
    refine W.done _ _ _ hst' fun h₁ tk₁ hk₁ => wpAny_execs_nil ?_
    obtain ⟨F₁, N₁⟩ := next h₁ hk₁
    rw [← kstB_id hps] at F₁
    exact done c m' h₁ tk₁ gs hadr hI F₁ N₁

/-- a for over a range by ones -/
theorem iter_rangeM {σ : Type} {r : Addr} {a₀ b₀ : Int} {t₀ u₀ v₀ : Tok} {n : Nat} {px : Pos} {m₀ : Str → Option Value}
    (Led : σ → List (Addr × Obj)) (ps : σ → List (Str × Value)) (Inv : Nat → σ → Array GenState → Prop) (c₀ : σ)
    (hh : A.handled = none) (hr : IsRange s.heap r a₀ b₀ 1 t₀ u₀ v₀) (hsmall : Builtin.Range.small a₀ b₀ 1 = true) (hn : Builtin.Range.rangeSize a₀ b₀ 1 = (n : Int)) (hx : env.kindOf x = some .local)
    (hp : (env.scope.kind == .class || (env.scope.kind == .module && env.locals != env.globals)) = false)
    (hE : PassesOwn (model prog w) A env E)
    (F : Fr h₀ env.locals s.heap m₀) (N : News h₀ env.locals s.heap (Led c₀)) (hk : ∀ p ∈ ps c₀, m₀ p.1 = some p.2) (h0 : Inv 0 c₀ s.gens)
    (turn : ∀ (i : Nat) (t : Tok) c u gs h tk own, i < n → OwnOff own ((Led c₀).map (·.1)) → (Led c).map (·.1) = (Led c₀).map (·.1) → Inv i c gs → Fr h₀ env.locals h (fun y => if y = x then some (.int (a₀ + (i : Int)) t) else kstB u (ps c) y) → News h₀ env.locals h (Led c ++ own) →
      wpAny (model prog w) A (execs body env) (StepM h₀ env.locals Led ps (Inv (i + 1)) own ((Led c₀).map (·.1)) { s with heap := h, toks := tk, gens := gs } Q) E { s with heap := h, toks := tk, gens := gs })
    (done : ∀ c u h tk gs, (Led c).map (·.1) = (Led c₀).map (·.1) → Inv n c gs → Fr h₀ env.locals h (kstB u (ps c)) → News h₀ env.locals h (Led c) → Q .next { s with heap := h, toks := tk, gens := gs }) :
    wpAny (model prog w) A (pyIter (.ref r)) (fun it s₂ => codeAny (model prog w) A (.forLoop (.Name x px) it body [] env) (fun r s' => match r with | .ok f => Q f s' | .error e => cameBackBy (model prog w) A env E e s') s₂) E s := by
  refine wpAny_pyIter_range hr hsmall ?_
  have W : Walks prog w A s.heap.objs.size [s.heap.objs.size] [s.heap.objs.size] n (fun i v => ∃ t, v = .int (a₀ + i * 1) t)
      (fun i h => IsRangeIter h s.heap.objs.size (a₀ + (i : Nat) * 1) ((n : Int) - (i : Nat)) 1) := Walks.range hh _ a₀ 1 n
  refine loop_walkM (m₀ := m₀) Led ps Inv c₀ W hx hp hE ?_ ?_ ?_ (by show IsRangeIter _ _ _ _ _; rw [hn]; simpa using Heap.get?_push_size _ rfl) (F.push _) (fun p hp => ⟨Heap.get?_push_of_some _ (N p hp).1, (N p hp).2⟩) hk h0 ?_ ?_
  · intro hm
    exact absurd F.ns.lt ((List.mem_singleton.mp hm) ▸ Nat.lt_irrefl _)
  · intro b hb
    rw [List.mem_singleton.mp hb]
    exact next_is_new F
  · intro p hp
    refine .inl fun hI => ?_
    exact absurd (Heap.lt_size (N p hp).1) ((List.mem_singleton.mp hI) ▸ Nat.lt_irrefl _)
  · rintro i v c u gs h tk own hi ⟨t, rfl⟩ hoff hsub hadr hI F₁ N₁
    have e1 : a₀ + (i : Int) * 1 = a₀ + (i : Int) := by omega
    rw [e1] at F₁
    refine turn i t c u gs h tk own hi ?_ hadr hI F₁ N₁
    intro p hp b hb
    obtain ⟨q, hq, rfl⟩ := List.mem_map.mp hb
    refine hoff p hp q hq fun hI => ?_
    exact absurd (Heap.lt_size (N q hq).1) ((List.mem_singleton.mp hI) ▸ Nat.lt_irrefl _)
  · intro c u h tk gs hadr hI F₁ N₁
    exact done c u h tk gs hadr hI F₁ N₁

/-- a for over a list of the ledger's own (it is left out of Led) -/
theorem iter_listM {σ : Type} {l : Addr} {its : Array Value} {px : Pos} {m₀ : Str → Option Value}
    (Led : σ → List (Addr × Obj)) (ps : σ → List (Str × Value)) (Inv : Nat → σ → Array GenState → Prop) (c₀ : σ)
    (hh : A.handled = none) (hl : s.heap.IsList l its) (hlL : env.locals ≠ l) (hoffl : ∀ p ∈ Led c₀, p.1 ≠ l) (hx : env.kindOf x = some .local)
    (hp : (env.scope.kind == .class || (env.scope.kind == .module && env.locals != env.globals)) = false)
    (hE : PassesOwn (model prog w) A env E)
    (F : Fr h₀ env.locals s.heap m₀) (N : News h₀ env.locals s.heap (Led c₀)) (hk : ∀ p ∈ ps c₀, m₀ p.1 = some p.2) (h0 : Inv 0 c₀ s.gens)
    (turn : ∀ (i : Nat) (v : Value) c u gs h tk own, i < its.size → its[i]? = some v → OwnOff own ((Led c₀).map (·.1)) → (Led c).map (·.1) = (Led c₀).map (·.1) → Inv i c gs → Fr h₀ env.locals h (fun y => if y = x then some v else kstB u (ps c) y) → News h₀ env.locals h (Led c ++ own) →
      wpAny (model prog w) A (execs body env) (StepM h₀ env.locals Led ps (Inv (i + 1)) own ((Led c₀).map (·.1)) { s with heap := h, toks := tk, gens := gs } Q) E { s with heap := h, toks := tk, gens := gs })
    (done : ∀ c u h tk gs, (Led c).map (·.1) = (Led c₀).map (·.1) → Inv its.size c gs → Fr h₀ env.locals h (kstB u (ps c)) → News h₀ env.locals h (Led c) → Q .next { s with heap := h, toks := tk, gens := gs }) :
    wpAny (model prog w) A (pyIter (.ref l)) (fun it s₂ => codeAny (model prog w) A (.forLoop (.Name x px) it body [] env) (fun r s' => match r with | .ok f => Q f s' | .error e => cameBackBy (model prog w) A env E e s') s₂) E s := by
  obtain ⟨ol, hol, _⟩ := id hl
  have hne : l ≠ s.heap.objs.size := Nat.ne_of_lt (Heap.lt_size hol)
  refine wpAny_pyIter_list hl ?_
  have W := Walks.list (prog := prog) (w := w) hh s.heap.objs.size l hne its
  refine loop_walkM (m₀ := m₀) Led ps Inv c₀ W hx hp hE ?_ ?_ ?_ ⟨⟨_, Heap.get?_push_size _ rfl, rfl, rfl⟩, hl.at fun o e => Heap.get?_push_of_some _ e⟩ (F.push _) (fun p hp => ⟨Heap.get?_push_of_some _ (N p hp).1, (N p hp).2⟩) hk h0 ?_ ?_
  · intro hm
    rcases List.mem_cons.mp hm with e | hm
    · exact absurd F.ns.lt (e ▸ Nat.lt_irrefl _)
    · exact hlL (List.mem_singleton.mp hm)
  · intro b hb
    rw [List.mem_singleton.mp hb]
    exact next_is_new F
  · intro p hp
    refine .inl fun hI => ?_
    rcases List.mem_cons.mp hI with e | hI
    · exact absurd (Heap.lt_size (N p hp).1) (e ▸ Nat.lt_irrefl _)
    · exact hoffl p hp (List.mem_singleton.mp hI)
  · rintro i v c u gs h tk own hi hv hoff hsub hadr hI F₁ N₁
    refine turn i v c u gs h tk own hi hv ?_ hadr hI F₁ N₁
    intro p hp b hb
    obtain ⟨q, hq, rfl⟩ := List.mem_map.mp hb
    refine hoff p hp q hq fun hI => ?_
    rcases List.mem_cons.mp hI with e | hI
    · exact absurd (Heap.lt_size (N q hq).1) (e ▸ Nat.lt_irrefl _)
    · exact hoffl q hq (List.mem_singleton.mp hI)
  · intro c u h tk gs hadr hI F₁ N₁
    exact done c u h tk gs hadr hI F₁ N₁

def WStepM {σ : Type} (h₀ : Heap) (L : Addr) (Led : σ → List (Addr × Obj)) (ps : σ → List (Str × Value)) (Inv : σ → Prop) (μ : σ → Nat) (c₁ : σ) (s₁ : Shared) (Q : Flow → Shared → Prop) (f : Flow) (s₂ : Shared) : Prop :=
  match f with
  | .ret v => Q (.ret v) s₂
  | .brk => Q .next s₂
  | _ => ∃ (c : σ) (h' : Heap) (tk : Nat) (m' : Str → Option Value), s₂ = { s₁ with heap := h', toks := tk } ∧ Fr h₀ L h' m' ∧ News h₀ L h' (Led c) ∧ (∀ p ∈ ps c, m' p.1 = some p.2) ∧ Inv c ∧ μ c < μ c₁
theorem WStepM.next {σ : Type} {L : Addr} {Led : σ → List (Addr × Obj)} {ps : σ → List (Str × Value)} {Inv : σ → Prop} {μ : σ → Nat} {c₁ : σ} {s₁ : Shared} {news : List (Addr × Obj)} {h' : Heap} {tk : Nat} {m' : Str → Option Value} (c : σ)
    (F : Fr h₀ L h' m') (N : News h₀ L h' news) (hn : ∀ p ∈ Led c, p ∈ news) (hp : ∀ p ∈ ps c, m' p.1 = some p.2) (hi : Inv c) (hm : μ c < μ c₁) :
    WStepM h₀ L Led ps Inv μ c₁ s₁ Q .next { s₁ with heap := h', toks := tk } := ⟨c, h', tk, m', rfl, F, fun p hp => N p (hn p hp), hp, hi, hm⟩

/-- a while by an invariant and a measure -/
theorem While_M {σ : Type} {L : Addr} {test : Expr} {body : List Stmt} {pos : Pos} {m₀ : Str → Option Value} (Led : σ → List (Addr × Obj)) (ps : σ → List (Str × Value)) (Inv : σ → Prop) (μ : σ → Nat) (c₀ : σ)
    (F : Fr h₀ L s.heap m₀) (N : News h₀ L s.heap (Led c₀)) (hk : ∀ p ∈ ps c₀, m₀ p.1 = some p.2) (h0 : Inv c₀)
    (turn : ∀ (c : σ) (u : Str → Option Value) h tk, Inv c → Fr h₀ L h (kstB u (ps c)) → News h₀ L h (Led c) →
      wpAny (model prog w) A (isTrue test env (eval test env)) (fun b s₂ =>
        if b = true then wpAny (model prog w) A (execs body env) (WStepM h₀ L Led ps Inv μ c { s with heap := h, toks := tk } Q) E s₂ else Q .next s₂) E { s with heap := h, toks := tk })
    (hE : PassesOwn (model prog w) A env E := by passes_own) :
    wpAny (model prog w) A (exec (.While test body [] pos) env) Q E s := by
  refine While_inv2 (fun n m nx => ∃ c : σ, nx = Led c ∧ μ c = n ∧ (∀ p ∈ ps c, m p.1 = some p.2) ∧ Inv c) F N ⟨c₀, rfl, rfl, hk, h0⟩ ?_ hE
  rintro n m₁ nx h tk F₁ N₁ ⟨c, rfl, rfl, h1, hI⟩
  rw [← kstB_id h1] at F₁
  refine wpAny_mono (turn c m₁ h tk hI F₁ N₁) (fun b s₂ p => ?_) fun _ _ x => x
  cases b with
  | false => simpa using p
  | true =>
    simp only [if_true] at p ⊢
    refine wpAny_mono p (fun f s₃ q => ?_) fun _ _ x => x
    cases f with
    | ret v => exact q
    | brk => exact q
    | next =>
      obtain ⟨c', h', tk', m', rfl, F', N', hk9, hI9, hm9⟩ := q
      exact ⟨h', tk', m', Led c', μ c', rfl, F', N', hm9, c', rfl, rfl, hk9, hI9⟩
    | cont =>
      obtain ⟨c', h', tk', m', rfl, F', N', hk9, hI9, hm9⟩ := q
      exact ⟨h', tk', m', Led c', μ c', rfl, F', N', hm9, c', rfl, rfl, hk9, hI9⟩

/-- the last item of a list of the ledger's -/
theorem item_last {value slice : Expr} {l : Addr} {its : Array Value} {nn : Nat} {u : Tok} {v : Value} {L : Addr} {news : List (Addr × Obj)} {R : Value → Shared → Prop} (N : News h₀ L s.heap news) (hm : (l, listOf its nn) ∈ news)
    (hx : its[its.size - 1]? = some v) (h : R v s)
    (hs : subscripted slice false (.ref l) (.int (-1) u) = operate [.ref l, .int (-1) u] (getItem (.ref l) (.int (-1) u)) := by with_unfolding_all rfl) :
    wpAny (model prog w) A (subscriptTail value slice (.ref l) (.int (-1) u)) R E s := by
  have hl : s.heap.IsList l its := News.isList N hm
  have hlt : its.size - 1 < its.size := (Array.getElem?_eq_some_iff.mp hx).1
  refine tail_any hl.typeIs slot_list_getitem.lookup (wpAny_getItem_list_neg hl (by decide) (by omega) (by decide) ?_ h) hs
  have e : ((-1 : Int) + (its.size : Int)).toNat = its.size - 1 := by omega
  rw [e]; exact hx
end
end Mine
end

theorem Mine.top_Base : True := by
  w_top off
  exact True.intro

section
open PySem PySem.W PyProof.Rows
namespace Mine
set_option maxRecDepth 100000
set_option maxHeartbeats 8000000


/-- what a call of the def at address f tells -/
def Tell (w : World) (mean : ExcName → Option Value) (mg mb : Str → Option Value) (d : Nat) (f : Addr) (vs : List Value) (need : List (Addr × Obj) → Prop) (Ret : Value → Prop) : Prop :=
  ∀ (dp un : Nat) (gd : Option (List Code)) (cn : Str) (cs : Scope) (a : Addr) (ccd : Value) (cl : List (Str × Addr)) (outer : List Env) (A₀ : Around) (base h₀ : Heap) (L : Addr) (m : Str → Option Value) (news : List (Addr × Obj)) (s : Shared) (Q E : Value → Shared → Prop),
    Below A₀ base outer h₀ → Fr h₀ L s.heap m → Frag.In (hd.heap_39 w.params) h₀ → News h₀ L s.heap news → Top hd.view_39 (looseW hd.view_39 [Str.ofString "EXACT_TOKEN_TYPES"]) mean mg mb h₀ → cs.kind = .function → need news → dp + d < recursionLimit → un + 8 * d < cLine →
    (∀ v h' tk', Ret v → Fr h₀ L h' m → News h₀ L h' news → Q v { s with heap := h', toks := tk' }) →
    wpAny (model PySem.Challenge.rw_ti0013_01.row.prog w) (ktrTop dp un gd cn cs L a ccd cl outer) (call (.ref f) vs) Q E s

theorem Tell.use {w : World} {mean : ExcName → Option Value} {mg mb : Str → Option Value} {d : Nat} {f : Addr} {vs : List Value} {need : List (Addr × Obj) → Prop} {Ret : Value → Prop}
    {dp un : Nat} {gd : Option (List Code)} {cn : Str} {cs : Scope} {a : Addr} {ccd : Value} {cl : List (Str × Addr)} {outer : List Env} {A₀ : Around} {base h₀ : Heap} {L : Addr} {m : Str → Option Value} {news : List (Addr × Obj)} {s : Shared} {Q E : Value → Shared → Prop}
    (C : Tell w mean mg mb d f vs need Ret)
    (B : Below A₀ base outer h₀) (F : Fr h₀ L s.heap m) (X : Frag.In (hd.heap_39 w.params) h₀) (N : News h₀ L s.heap news) (T : Top hd.view_39 (looseW hd.view_39 [Str.ofString "EXACT_TOKEN_TYPES"]) mean mg mb h₀) (hk : cs.kind = .function) (hn : need news)
    (hd : dp + d < recursionLimit) (hu : un + 8 * d < cLine)
    (ret : ∀ v h' tk', Ret v → Fr h₀ L h' m → News h₀ L h' news → Q v { s with heap := h', toks := tk' }) :
    wpAny (model PySem.Challenge.rw_ti0013_01.row.prog w) (ktrTop dp un gd cn cs L a ccd cl outer) (call (.ref f) vs) Q E s :=
  C _ _ _ _ _ _ _ _ _ _ _ _ _ _ _ _ _ _ B F X N T hk hn hd hu ret

/-- what a call that hands back a new list of ints tells -/
def TellL (w : World) (mean : ExcName → Option Value) (mg mb : Str → Option Value) (d : Nat) (f : Addr) (vs : List Value) (Ret : List Int → Prop) : Prop :=
  ∀ (dp un : Nat) (gd : Option (List Code)) (cn : Str) (cs : Scope) (a : Addr) (ccd : Value) (cl : List (Str × Addr)) (outer : List Env) (A₀ : Around) (base h₀ : Heap) (L : Addr) (m : Str → Option Value) (news : List (Addr × Obj)) (s : Shared) (Q E : Value → Shared → Prop),
    Below A₀ base outer h₀ → Fr h₀ L s.heap m → Frag.In (hd.heap_39 w.params) h₀ → News h₀ L s.heap news → Top hd.view_39 (looseW hd.view_39 [Str.ofString "EXACT_TOKEN_TYPES"]) mean mg mb h₀ → cs.kind = .function → dp + d < recursionLimit → un + 8 * d < cLine →
    (∀ l its ns nn h' tk', IntsAre its.toList ns → Ret ns → Fr h₀ L h' m → News h₀ L h' ((l, listOf its nn) :: news) → (∀ p ∈ news, p.1 < l) → Q (.ref l) { s with heap := h', toks := tk' }) →
    wpAny (model PySem.Challenge.rw_ti0013_01.row.prog w) (ktrTop dp un gd cn cs L a ccd cl outer) (call (.ref f) vs) Q E s

theorem TellL.use {w : World} {mean : ExcName → Option Value} {mg mb : Str → Option Value} {d : Nat} {f : Addr} {vs : List Value} {Ret : List Int → Prop}
    {dp un : Nat} {gd : Option (List Code)} {cn : Str} {cs : Scope} {a : Addr} {ccd : Value} {cl : List (Str × Addr)} {outer : List Env} {A₀ : Around} {base h₀ : Heap} {L : Addr} {m : Str → Option Value} {news : List (Addr × Obj)} {s : Shared} {Q E : Value → Shared → Prop}
    (C : TellL w mean mg mb d f vs Ret)
    (B : Below A₀ base outer h₀) (F : Fr h₀ L s.heap m) (X : Frag.In (hd.heap_39 w.params) h₀) (N : News h₀ L s.heap news) (T : Top hd.view_39 (looseW hd.view_39 [Str.ofString "EXACT_TOKEN_TYPES"]) mean mg mb h₀) (hk : cs.kind = .function)
    (hd : dp + d < recursionLimit) (hu : un + 8 * d < cLine)
    (ret : ∀ l its ns nn h' tk', IntsAre its.toList ns → Ret ns → Fr h₀ L h' m → News h₀ L h' ((l, listOf its nn) :: news) → (∀ p ∈ news, p.1 < l) → Q (.ref l) { s with heap := h', toks := tk' }) :
    wpAny (model PySem.Challenge.rw_ti0013_01.row.prog w) (ktrTop dp un gd cn cs L a ccd cl outer) (call (.ref f) vs) Q E s :=
  C _ _ _ _ _ _ _ _ _ _ _ _ _ _ _ _ _ _ B F X N T hk hd hu ret

/-- what a call that makes generators tells -/
def TellG (w : World) (mean : ExcName → Option Value) (mg mb : Str → Option Value) (d : Nat) (f : Addr) (vs : List Value) (Ret : Value → Prop) : Prop :=
  ∀ (dp un : Nat) (gd : Option (List Code)) (cn : Str) (cs : Scope) (a : Addr) (ccd : Value) (cl : List (Str × Addr)) (outer : List Env) (A₀ : Around) (base h₀ : Heap) (L : Addr) (m : Str → Option Value) (news : List (Addr × Obj)) (s : Shared) (Q E : Value → Shared → Prop),
    Below A₀ base outer h₀ → Fr h₀ L s.heap m → Frag.In (hd.heap_39 w.params) h₀ → News h₀ L s.heap news → Top hd.view_39 (looseW hd.view_39 [Str.ofString "EXACT_TOKEN_TYPES"]) mean mg mb h₀ → cs.kind = .function → AllBare s.gens → dp + d < recursionLimit → un + 8 * d < cLine →
    (∀ v h' tk' gens', Ret v → AllBare gens' → Fr h₀ L h' m → News h₀ L h' news → Q v { s with heap := h', toks := tk', gens := gens' }) →
    wpAny (model PySem.Challenge.rw_ti0013_01.row.prog w) (ktrTop dp un gd cn cs L a ccd cl outer) (call (.ref f) vs) Q E s

theorem TellG.use {w : World} {mean : ExcName → Option Value} {mg mb : Str → Option Value} {d : Nat} {f : Addr} {vs : List Value} {Ret : Value → Prop}
    {dp un : Nat} {gd : Option (List Code)} {cn : Str} {cs : Scope} {a : Addr} {ccd : Value} {cl : List (Str × Addr)} {outer : List Env} {A₀ : Around} {base h₀ : Heap} {L : Addr} {m : Str → Option Value} {news : List (Addr × Obj)} {s : Shared} {Q E : Value → Shared → Prop}
    (C : TellG w mean mg mb d f vs Ret)
    (B : Below A₀ base outer h₀) (F : Fr h₀ L s.heap m) (X : Frag.In (hd.heap_39 w.params) h₀) (N : News h₀ L s.heap news) (T : Top hd.view_39 (looseW hd.view_39 [Str.ofString "EXACT_TOKEN_TYPES"]) mean mg mb h₀) (hk : cs.kind = .function) (hb : AllBare s.gens)
    (hd : dp + d < recursionLimit) (hu : un + 8 * d < cLine)
    (ret : ∀ v h' tk' gens', Ret v → AllBare gens' → Fr h₀ L h' m → News h₀ L h' news → Q v { s with heap := h', toks := tk', gens := gens' }) :
    wpAny (model PySem.Challenge.rw_ti0013_01.row.prog w) (ktrTop dp un gd cn cs L a ccd cl outer) (call (.ref f) vs) Q E s :=
  C _ _ _ _ _ _ _ _ _ _ _ _ _ _ _ _ _ _ B F X N T hk hb hd hu ret

end Mine
end

theorem Mine.top_Strs : True := by
  w_top off
  exact True.intro

section
open PySem PySem.W PyProof.Rows PySem.Builtin PySem.Builtin.Str PySem.StrLaws
namespace Mine
set_option maxRecDepth 100000

theorem occ_nil_of_one {x y : Str} (h : (occurrences x y 0 x.length 1).isEmpty = true) (hw : 1 ≤ y.length) : occurrences x y 0 x.length (x.length + 1) = [] := by
  have hn : ∀ i, ¬ At x y x.length i := by
    intro i hA
    have := (found_iff x y).mpr ⟨i, hA.1, hA.2⟩
    rw [h] at this; cases this
  obtain ⟨f, hc, _⟩ := occ_tight x y hw
  match e : occurrences x y 0 x.length (x.length + 1), hc with
  | [], _ => rfl
  | c :: r, hc => exact absurd hc.2.1 (hn c)

theorem split_none {x y : Str} (h : (occurrences x y 0 x.length 1).isEmpty = true) (hw : 1 ≤ y.length) : Txt.split x y = [x] := by
  unfold Txt.split
  rw [occ_nil_of_one h hw]
  simp

theorem split_eq {x y : Str} (hk : ¬ (decide (x.length < y.length) || decide (strKind x < strKind y)) = true) : Txt.split x y = partsFrom x y.length 0 (occurrences x y 0 x.length (x.length + 1)) := by
  unfold Txt.split
  rw [if_neg hk]
  split
  · rename_i he
    rw [List.isEmpty_iff.mp he]
    show [x] = [strSub x 0 x.length]
    rw [sub_whole]
  · exact partsBetween_eq _ _ _

def dots : Str := Str.ofString "..."
theorem dots_list : dots.cps.toList = [46, 46, 46] := by decide +kernel
theorem dots_len : dots.length = 3 := by decide +kernel

theorem at_dots {x : Str} {n k : Nat} (h : At x dots n k) : x.cps.toList[k]? = some 46 := by
  have h2 := h.2
  rw [subAt_eq, dots_len, dots_list] at h2
  have h3 := eq_of_beq h2
  have : ((x.cps.toList.drop k).take 3)[0]? = some 46 := by rw [h3]; rfl
  rw [List.getElem?_take_of_lt (by omega), List.getElem?_drop] at this
  simpa using this

theorem at_dots_mk {x : Str} {pre post : List Nat} (h : x.cps.toList = pre ++ [46, 46, 46] ++ post) : At x dots x.length pre.length := by
  refine ⟨?_, ?_⟩
  · rw [dots_len]
    have : x.length = x.cps.toList.length := by simp [Str.length]
    rw [this, h]; simp
  · rw [subAt_eq, dots_len, dots_list, h, List.append_assoc, List.drop_left' rfl]
    simp

theorem len_list (x : Str) : x.length = x.cps.toList.length := by simp [Str.length]

theorem sub_mid {x p : Str} {pre post : List Nat} (h : x.cps.toList = pre ++ (p.cps.toList ++ post)) : strSub x pre.length (pre.length + p.length) = p := by
  apply Str.ext'
  apply Array.toList_inj.mp
  rw [strSub_toList, h, List.drop_left' rfl, Nat.add_sub_cancel_left, len_list, List.take_left' rfl]

theorem join_list_cons (p q : Str) (r : List Str) : (Str.join dots (p :: q :: r)).cps.toList = p.cps.toList ++ ([46, 46, 46] ++ (Str.join dots (q :: r)).cps.toList) := by
  show (p ++ dots ++ Str.join dots (q :: r)).cps.toList = _
  rw [Str.cps_append, Str.cps_append, Array.toList_append, Array.toList_append, dots_list, List.append_assoc]

theorem chain_parts {x : Str} : ∀ (parts : List Str) (pre : List Nat) (cuts : List Nat) (f : Nat), parts ≠ [] → (∀ p ∈ parts, 46 ∉ p.cps.toList) → x.cps.toList = pre ++ (Str.join dots parts).cps.toList →
    ChainG x dots x.length pre.length cuts f → (∀ k, f ≤ k → ¬ At x dots x.length k) → partsFrom x 3 pre.length cuts = parts
  | [], _, _, _, h, _, _, _, _ => absurd rfl h
  | [p], pre, cuts, f, _, hd, hx, hc, hn => by
    have hx' : x.cps.toList = pre ++ (p.cps.toList ++ []) := by rw [hx, List.append_nil]; rfl
    have hno : ∀ k, pre.length ≤ k → ¬ At x dots x.length k := by
      intro k hk hA
      have h1 := at_dots hA
      rw [hx', List.append_nil, List.getElem?_append_right hk] at h1
      exact hd p (.head _) (List.mem_of_getElem? h1)
    match cuts, hc with
    | [], _ =>
      show [strSub x pre.length x.length] = [p]
      have e := sub_mid hx'
      have hl : x.length = pre.length + p.length := by rw [len_list x, hx', len_list p]; simp
      rw [hl, e]
    | c :: r, hc => exact absurd hc.2.1 (hno c hc.1)
  | p :: q :: r, pre, cuts, f, _, hd, hx, hc, hn => by
    rw [join_list_cons] at hx
    have hA : At x dots x.length (pre.length + p.length) := by
      have e : x.cps.toList = (pre ++ p.cps.toList) ++ [46, 46, 46] ++ (Str.join dots (q :: r)).cps.toList := by rw [hx]; simp only [List.append_assoc]
      have := at_dots_mk e
      rwa [List.length_append, ← len_list] at this
    have hlow : ∀ k, pre.length ≤ k → k < pre.length + p.length → ¬ At x dots x.length k := by
      intro k h1 h2 hA
      have h3 := at_dots hA
      rw [hx, List.getElem?_append_right h1, List.getElem?_append_left (by rw [← len_list]; omega)] at h3
      exact hd p (.head _) (List.mem_of_getElem? h3)
    match cuts, hc with
    | [], hc =>
      have e : f = pre.length := hc
      exact absurd hA (hn _ (by omega))
    | c :: r', hc =>
      have hcc : c = pre.length + p.length := by
        rcases Nat.lt_trichotomy c (pre.length + p.length) with h | h | h
        · exact absurd hc.2.1 (hlow c hc.1 h)
        · exact h
        · exact absurd hA (hc.2.2.1 _ (Nat.le_add_right _ _) h)
      subst hcc
      show strSub x pre.length (pre.length + p.length) :: partsFrom x 3 (pre.length + p.length + 3) r' = p :: q :: r
      rw [sub_mid hx]
      have hx2 : x.cps.toList = (pre ++ p.cps.toList ++ [46, 46, 46]) ++ (Str.join dots (q :: r)).cps.toList := by rw [hx]; simp only [List.append_assoc]
      have hl : (pre ++ p.cps.toList ++ [46, 46, 46]).length = pre.length + p.length + 3 := by simp [len_list p]; omega
      have := chain_parts (q :: r) (pre ++ p.cps.toList ++ [46, 46, 46]) r' f (by simp) (fun y hy => hd y (.tail _ hy)) hx2 (by rw [hl]; have h4 := hc.2.2.2; rwa [dots_len] at h4) hn
      rw [hl] at this
      rw [this]

theorem split_join {parts : List Str} (hne : 2 ≤ parts.length) (hd : ∀ p ∈ parts, 46 ∉ p.cps.toList) : Txt.split (Str.join dots parts) dots = parts := by
  match parts, hne with
  | p :: q :: r, _ =>
  have hx := join_list_cons p q r
  have hlen : 3 ≤ (Str.join dots (p :: q :: r)).length := by rw [len_list, hx]; simp; omega
  have hk : ¬ (decide ((Str.join dots (p :: q :: r)).length < dots.length) || decide (strKind (Str.join dots (p :: q :: r)) < strKind dots)) = true := by
    intro h
    rcases Bool.or_eq_true_iff.mp h with h | h
    · have := of_decide_eq_true h
      rw [dots_len] at this; omega
    · have h1 := of_decide_eq_true h
      have h2 : strKind dots = 1 := by decide +kernel
      rw [h2] at h1
      unfold Builtin.Str.strKind at h1
      split at h1
      · omega
      · split at h1 <;> omega
  rw [split_eq hk]
  obtain ⟨f, hc, hn⟩ := occ_tight (Str.join dots (p :: q :: r)) dots (by rw [dots_len]; omega)
  have := chain_parts (p :: q :: r) [] _ f (by simp) hd (by simp) hc hn
  rw [dots_len]
  exact this

/-- the first i signs; the signs from a up to b -/
def preS (x : Str) (i : Nat) : Str := ⟨(x.cps.toList.take i).toArray⟩
def midS (x : Str) (a b : Nat) : Str := ⟨((x.cps.toList.drop a).take (b - a)).toArray⟩
theorem preS_list (x : Str) (i : Nat) : (preS x i).cps.toList = x.cps.toList.take i := rfl
theorem midS_list (x : Str) (a b : Nat) : (midS x a b).cps.toList = (x.cps.toList.drop a).take (b - a) := rfl
theorem preS_len (x : Str) {i : Nat} (h : i ≤ x.length) : (preS x i).length = i := by rw [len_list, preS_list, List.length_take, ← len_list]; omega
theorem midS_len (x : Str) {a b : Nat} (h : b ≤ x.length) : (midS x a b).length = b - a := by rw [len_list, midS_list, List.length_take, List.length_drop, ← len_list]; omega
theorem slice_mid (x : Str) {a b : Nat} (hab : a ≤ b) (hb : b ≤ x.length) : Txt.slice x (some (a : Int)) (some (b : Int)) = midS x a b := sliceText_nat x hab hb
theorem slice_pre (x : Str) {b : Nat} (hb : b ≤ x.length) : Txt.slice x none (some (b : Int)) = preS x b := by
  have h := slice_mid x (Nat.zero_le b) hb
  have e : midS x 0 b = preS x b := rfl
  rw [← e, ← h]
  unfold Txt.slice
  rw [sliceIdx_none_lo]; rfl
theorem slice_pre' (x : Str) {b : Nat} {j : Int} (e : j = (b : Int)) (hb : b ≤ x.length) : Txt.slice x none (some j) = preS x b := by subst e; exact slice_pre x hb
theorem slice_mid' (x : Str) {a b : Nat} {i j : Int} (e1 : i = (a : Int)) (e2 : j = (b : Int)) (hab : a ≤ b) (hb : b ≤ x.length) : Txt.slice x (some i) (some j) = midS x a b := by subst e1 e2; exact slice_mid x hab hb
theorem preS_free {x : Str} {c i : Nat} (h : c ∉ x.cps.toList) : c ∉ (preS x i).cps.toList := fun hm => h (List.mem_of_mem_take hm)
theorem midS_free {x : Str} {c a b : Nat} (h : c ∉ x.cps.toList) : c ∉ (midS x a b).cps.toList := fun hm => h (List.mem_of_mem_drop (List.mem_of_mem_take hm))
theorem split_twice {x : Str} (h : 46 ∉ x.cps.toList) : Txt.split (x ++ Str.ofString "..." ++ x) (Str.ofString "...") = [x, x] :=
  split_join (parts := [x, x]) (Nat.le_refl 2) (by simpa using h)

/-- the text begins as it ends, i signs long -/
def bord (x : Str) (i : Nat) : Bool := Txt.startswith x (preS x i) && Txt.endswith x (preS x i)
def plainTo (x : Str) (k : Nat) : Bool := (List.range k).all fun i => !bord x (i + 1)
theorem plainTo_succ {x : Str} {i : Nat} (h : plainTo x i = true) (h' : bord x (i + 1) = false) : plainTo x (i + 1) = true := by
  unfold plainTo at *
  rw [List.range_succ, List.all_append, h]
  simp [h']
theorem plainTo_false {x : Str} {i k : Nat} (hi : i < k) (h' : bord x (i + 1) = true) : plainTo x k = false := by
  unfold plainTo
  rw [List.all_eq_false]
  exact ⟨i, List.mem_range.mpr hi, by simpa using h'⟩
theorem half_int (n : Nat) : ((n : Int).fdiv 2) = ((n / 2 : Nat) : Int) := by
  rw [Int.fdiv_eq_ediv_of_nonneg _ (by omega)]; rfl

theorem midS_beyond (x : Str) {a b : Nat} (hb : x.length ≤ b) : midS x a b = midS x a x.length := by
  apply Str.ext'
  apply Array.toList_inj.mp
  rw [midS_list, midS_list]
  have h : (x.cps.toList.drop a).length = x.length - a := by rw [List.length_drop, ← len_list]
  rw [List.take_of_length_le (by rw [h]; omega), List.take_of_length_le (by rw [h]; omega)]
theorem slice_any (x : Str) {a b : Nat} {i j : Int} (e1 : i = (a : Int)) (e2 : j = (b : Int)) (hab : a ≤ b) (ha : a ≤ x.length) : Txt.slice x (some i) (some j) = midS x a b := by
  subst e1 e2
  by_cases hb : b ≤ x.length
  · exact slice_mid x hab hb
  · rw [midS_beyond x (by omega), ← slice_mid x ha (Nat.le_refl _)]
    have e : strSliceIndices (some (a : Int)) (some (b : Int)) 1 x.length = strSliceIndices (some (a : Int)) (some (x.length : Int)) 1 x.length := by
      unfold strSliceIndices
      have h2 : ¬ ((b : Int) < 0) := by omega
      have h3 : ¬ ((x.length : Int) < 0) := by omega
      have e2 : max (0 : Int) (min (b : Int) (x.length : Int)) = max (0 : Int) (min (x.length : Int) (x.length : Int)) := by omega
      simp only [h2, h3, if_false, e2, show ((1 : Int) > 0) = True from by simp, if_true]
    unfold Txt.slice
    rw [e]

/-- the pieces of a front, each with its ~ -/
def tilde : Str := Str.ofString "~"
def pieceS (x : Str) (size i : Nat) : Str := tilde ++ midS x (i * size) (i * size + size)
def piecesTo (x : Str) (size k : Nat) : List Str := (List.range k).map (pieceS x size)
theorem piecesTo_succ (x : Str) (size k : Nat) : piecesTo x size (k + 1) = piecesTo x size k ++ [pieceS x size k] := by
  unfold piecesTo
  rw [List.range_succ, List.map_append]; rfl
theorem push_strs {its : Array Value} {rl : List (Str × Tok)} {y : Str} {t : Tok} (h : its = (strValues rl).toArray) : its.push (.str y t) = (strValues (rl ++ [(y, t)])).toArray := by
  subst h
  simp [strValues]

/-- no border: what _law_plain says -/
def plainS (y : Str) : Bool := plainTo y (y.length / 2)
def firstPlain (x : Str) (e n : Nat) : Nat := ((List.range n).find? fun b => plainS (midS x b e)).getD n
def longTo (x : Str) : Nat → List Nat
  | 0 => [0]
  | i + 1 => longTo x i ++ [(i + 1) - firstPlain x (i + 1) ((i + 1) - (longTo x i).getLastD 0)]
theorem longTo_len (x : Str) : ∀ i, (longTo x i).length = i + 1
  | 0 => rfl
  | i + 1 => by rw [longTo, List.length_append, longTo_len x i]; rfl
theorem longTo_last (x : Str) (i : Nat) : (longTo x i)[i]? = some ((longTo x i).getLastD 0) := by
  have h := longTo_len x i
  have h2 : longTo x i ≠ [] := by intro e; rw [e] at h; simp at h
  rw [List.getLastD_eq_getLast?, List.getLast?_eq_getElem?, h]
  simp only [Nat.add_sub_cancel]
  cases e : (longTo x i)[i]? with
  | none => rw [List.getElem?_eq_none_iff] at e; omega
  | some v => rfl
theorem longTo_last_le (x : Str) : ∀ i, (longTo x i).getLastD 0 ≤ i
  | 0 => Nat.le_refl _
  | i + 1 => by
    have := longTo_last x (i + 1)
    rw [longTo, List.getElem?_append_right (by rw [longTo_len]; omega), longTo_len] at this
    simp only [Nat.sub_self, List.getElem?_cons_zero, Option.some.injEq] at this
    rw [longTo, ← this]
    omega
theorem firstPlain_eq {x : Str} {e n b : Nat} (hb : b ≤ n) (hno : ∀ k, k < b → plainS (midS x k e) = false) (hend : b < n → plainS (midS x b e) = true) : firstPlain x e n = b := by
  unfold firstPlain
  by_cases h : b < n
  · have : (List.range n).find? (fun b => plainS (midS x b e)) = some b := by
      rw [List.find?_range_eq_some]
      exact ⟨hend h, by simpa using h, fun j hj => by simpa using hno j hj⟩
    rw [this]; rfl
  · have hbn : b = n := by omega
    subst hbn
    have : (List.range b).find? (fun k => plainS (midS x k e)) = none := by
      rw [List.find?_eq_none]
      intro k hk
      simpa using hno k (List.mem_range.mp hk)
    rw [this]; rfl
theorem ints_push {its : Array Value} {ns : List Int} {n : Int} {t : Tok} (h : IntsAre its.toList ns) : IntsAre (its.push (.int n t)).toList (ns ++ [n]) := by
  rw [Array.toList_push]
  exact h.append (IntsAre.cons _ _ IntsAre.nil)
theorem longTo_ints {x : Str} {its : Array Value} {i p b : Nat} {v : Int} {t : Tok} (h : IntsAre its.toList ((longTo x i).map Int.ofNat)) (hp : (longTo x i).getLastD 0 = p) (hpi : p ≤ i) (hb : b ≤ i + 1 - p)
    (hno : ∀ k, k < b → plainS (midS x k (i + 1)) = false) (hend : b < i + 1 - p → plainS (midS x b (i + 1)) = true) (hv : v = 1 + (i : Int) - (b : Int)) :
    IntsAre (its.push (.int v t)).toList ((longTo x (i + 1)).map Int.ofNat) := by
  have e : (longTo x (i + 1)).map Int.ofNat = (longTo x i).map Int.ofNat ++ [v] := by
    rw [longTo, hp, firstPlain_eq hb hno hend, List.map_append]
    congr 1
    show [((i + 1 - b : Nat) : Int)] = [v]
    congr 1; omega
  rw [e]
  exact ints_push h
end Mine
end

theorem Mine.top_T2 : True := by
  w_top off
  exact True.intro

section
open PySem PySem.W PyProof.Rows
namespace Mine
set_option maxRecDepth 100000
set_option maxHeartbeats 8000000

section
variable {prog : Program} {w : World} {A : Around} {E : Value → Shared → Prop} {s : Shared} {x y : Str} {t u : Tok} {h₀ : Heap} {L : Addr} {m : Str → Option Value} {news : List (Addr × Obj)} {Q : Value → Shared → Prop}
theorem split_two {a b : Str} (hF : Fr h₀ L s.heap m) (hN : News h₀ L s.heap news) (hy : (y.length == 0) = false) (hsp : Txt.split x y = [a, b])
    (h : ∀ t1 t2 h' k, Fr h₀ L h' m → News h₀ L h' ((s.heap.objs.size, listOf [.str a t1, .str b t2].toArray 0) :: news) → (∀ p ∈ news, p.1 < s.heap.objs.size) → Q (.ref s.heap.objs.size) { s with heap := h', toks := k }) (hsz : x.length + 2 ≤ sizeLine) :
    wpAny (model prog w) A (call (.builtin "str.split") [.str x t, .str y u]) Q E s := by
  refine splitN1 hF hN hy (fun l h' k e F N => ?_) hsz
  rw [hsp] at e
  match l, e with
  | [(a', t1), (b', t2)], e =>
    simp only [List.map_cons, List.map_nil, List.cons.injEq, and_true] at e
    obtain ⟨rfl, rfl⟩ := e
    exact h t1 t2 h' k F N (fun p hp => Heap.lt_size (hN p hp).1)
end

local macro_rules | `(tactic| walk_at "call builtin:str.split") => `(tactic| (k_here; k_dflt (refine split_two (by k_asm) (by k_asm) (by rfl) (by assumption) ?_ (by rw [sizeLine_eq]; omega)); intro t1 t2 h' k F' N' l1; (try dsimp only at F' N' l1 ⊢); (try k_lt l1)))
local macro_rules | `(tactic| walk_at "truthy str") => `(tactic| (k_here; refine SBL.truthy (by omega) ?_))

local macro_rules | `(tactic| walk_at "exec For Name Name cons nil") => `(tactic| (k_here; k_dflt (refine For_pause ?_)))
theorem matchA_tell (w : World) (mean mg mb) (want got x : Str) (t u : Tok) (h1 : want.length ≤ 200) (h2 : got.length ≤ 200) (hx : 1 ≤ x.length) (hx2 : x.length ≤ 100) (hsp : Txt.split want (Str.ofString "...") = [x, x]) (hle : 2 * x.length ≤ got.length) :
    Tell w mean mg mb 2 21 [.str want t, .str got u] (fun news => True) (fun v => v = .bool (Txt.startswith got x && Txt.endswith got x)) := by
  (unfold Tell; k_fill; intro dp un gd cn cs a ccd cl outer A₀ base h₀ L m news s Q E B F X N T hk hneed hd hu hret; (try dsimp only at hneed hret); refine wpAny_call ?_; k_dflt cell_enter)
  k_steps
  · rename ((Builtin.Str.occurrences _ _ _ _ _).isEmpty = true) => hocc
    rw [split_none hocc (by decide +kernel)] at hsp
    cases hsp
  · refine Pause.mk ?_
    rename Fr _ _ _ _ => lF
    rename News _ _ _ _ => lN
    rename (Txt.startswith got x = true) => hs1
    rename (Txt.endswith got x = true) => hs2
    rename (∀ p ∈ news, _) => hlt
    refine iter_listM (σ := Unit) (fun _ => news) (fun _ => []) (fun _ _ gs => gs = s.gens) () (by rfl) (News.isList lN (by k_mem)) (fun e => (lN _ (.tail _ (.head _))).2.1 e.symm) (fun p hp e => absurd (hlt p hp) (by rw [e]; exact Nat.lt_irrefl _)) (by rfl) (by rfl) (by passes_own) lF (newsSub lN fun p hp => .tail _ (.tail _ hp)) (by nofun) rfl ?_ ?_
    · intro i v c u gs h tk own hi
      exact absurd hi (Nat.not_lt_zero _)
    · rintro ⟨⟩ u h tk gs - rfl F₁ N₁
      k_steps
      (rename Fr _ _ _ _ => kF; rename News _ _ _ _ => kN; refine hret _ _ _ ?_ kF (newsSub kN (fun _ hp => hp)))
      rw [hs1, hs2]; rfl
  all_goals (rename Fr _ _ _ _ => kF; rename News _ _ _ _ => kN; refine hret _ _ _ ?_ kF (newsSub kN (fun p hp => .tail _ (.tail _ hp))))
  all_goals first
    | (exfalso; omega)
    | (rename (Txt.endswith got x = false) => he; rw [he, Bool.and_false])
    | (rename (Txt.startswith got x = false) => he; rw [he, Bool.false_and])
end Mine
end

theorem Mine.top_T2b : True := by
  w_top off
  exact True.intro

section
open PySem PySem.W PyProof.Rows
namespace Mine
set_option maxRecDepth 100000
set_option maxHeartbeats 8000000

section
open PySem.Builtin PySem.Builtin.Str
def find4 (x y : Str) (i j : Int) : Int := match occurrences x y (fromIndex x.length i) (min (fromIndex x.length j) x.length) 1 with | k :: _ => (k : Int) | [] => -1
theorem gives_find4 (x y : Str) (i j : Int) (t u v q : Tok) : Gives («str.find» ⟨[.str x t, .str y u, .int i v, .int j q], []⟩) (.int (find4 x y i j)) := by
  show Gives (match occurrences x y (fromIndex x.length i) (min (fromIndex x.length j) x.length) 1 with | k :: _ => retInt k | [] => (do rule "str.find.not-found"; retInt (-1))) _
  unfold find4
  cases occurrences x y (fromIndex x.length i) (min (fromIndex x.length j) x.length) 1 with
  | nil => exact .rule (.of_eq rfl)
  | cons k _ => exact .of_eq rfl
end

section
variable {prog : Program} {w : World} {A : Around} {E : Value → Shared → Prop} {s : Shared} {x y : Str} {t u : Tok} {h₀ : Heap} {L : Addr} {m : Str → Option Value} {news : List (Addr × Obj)} {Q : Value → Shared → Prop}
theorem call_find4 {v q : Tok} {i j : Int} (hq : Q (.int (find4 x y i j) s.toks) { s with toks := s.toks + 1 }) : wpAny (model prog w) A (call (.builtin "str.find") [.str x t, .str y u, .int i v, .int j q]) Q E s :=
  call_gives F.slot_str_find (typeIs_str _ _ _) F.entry_str_find (F.args_str_find_4 _ _ _ _) (gives_find4 x y i j t u v q) hq
end
def findAll (g : Str) : List Str → Int → Bool
  | [], _ => true
  | y :: r, st => if find4 g y st g.length < 0 then false else findAll g r (find4 g y st g.length + y.length)

theorem strs_at {rl : List (Str × Tok)} {e : Str} {te : Tok} {i : Nat} {v : Value} (h : (strValues rl ++ [Value.str e te])[i]? = some v) : ∃ y ty, v = .str y ty ∧ (rl.map (·.1) ++ [e])[i]? = some y := by
  have h' : (strValues (rl ++ [(e, te)]))[i]? = some v := by simpa [strValues] using h
  rw [strValues, List.getElem?_map] at h'
  have e2 : rl.map (·.1) ++ [e] = (rl ++ [(e, te)]).map (·.1) := by simp
  rw [e2, List.getElem?_map]
  cases hp : (rl ++ [(e, te)])[i]? with
  | none => rw [hp] at h'; cases h'
  | some p =>
    rw [hp] at h'
    exact ⟨p.1, p.2, (Option.some.inj h').symm, rfl⟩

section
variable {prog : Program} {w : World} {A : Around} {E : Value → Shared → Prop} {s : Shared} {x y : Str} {t u : Tok} {h₀ : Heap} {L : Addr} {m : Str → Option Value} {news : List (Addr × Obj)} {Q : Value → Shared → Prop}
theorem split_head {a e : Str} {rest : List Str} (hF : Fr h₀ L s.heap m) (hN : News h₀ L s.heap news) (hy : (y.length == 0) = false) (hsp : Txt.split x y = a :: (rest ++ [e]))
    (h : ∀ t1 (R : List Value) te h' k, R.length = rest.length + 1 → (∀ (i : Nat) (v : Value), R[i]? = some v → ∃ y ty, v = .str y ty ∧ (rest ++ [e])[i]? = some y) → R.toArray[R.toArray.size - 1]? = some (.str e te) → (Value.str a t1 :: R).toArray.size = rest.length + 2 →
      Fr h₀ L h' m → News h₀ L h' ((s.heap.objs.size, listOf (.str a t1 :: R).toArray 0) :: news) → (∀ p ∈ news, p.1 < s.heap.objs.size) → Q (.ref s.heap.objs.size) { s with heap := h', toks := k }) (hsz : x.length + 2 ≤ sizeLine) :
    wpAny (model prog w) A (call (.builtin "str.split") [.str x t, .str y u]) Q E s := by
  refine splitN1 hF hN hy (fun l h' k e' F N => ?_) hsz
  rw [hsp] at e'
  match l, e' with
  | (a', t1) :: r, e2 =>
    simp only [List.map_cons, List.cons.injEq] at e2
    obtain ⟨e3, e4⟩ := e2
    subst e3
    obtain ⟨rl, l2, rfl, h1, h2⟩ := List.map_eq_append_iff.mp e4
    match l2, h2 with
    | [(e1, te)], h2 =>
      simp only [List.map_cons, List.map_nil, List.cons.injEq, and_true] at h2
      subst h2
      have es : strValues ((a', t1) :: (rl ++ [(e1, te)])) = .str a' t1 :: (strValues rl ++ [.str e1 te]) := by simp [strValues]
      rw [es] at N
      exact h t1 (strValues rl ++ [.str e1 te]) te h' k (by simp [strValues, ← h1]) (fun i v hv => h1 ▸ strs_at hv) (by simp) (by simp [strValues, ← h1]) F N (fun p hp => Heap.lt_size (hN p hp).1)
end

theorem findAll_step {g y : Str} {ws : List Str} {i : Nat} {st : Int} (h : ws[i]? = some y) : findAll g (ws.drop i) st = if find4 g y st g.length < 0 then false else findAll g (ws.drop (i + 1)) (find4 g y st g.length + y.length) := by
  obtain ⟨hlt, e⟩ := List.getElem?_eq_some_iff.mp h
  rw [List.drop_eq_getElem_cons hlt, e]
  rfl

local macro_rules | `(tactic| walk_at "exec For Name Name cons nil") => `(tactic| (k_here; k_dflt (refine For_pause ?_)))
local macro_rules | `(tactic| walk_at "call builtin:str.split") => `(tactic| (k_here; k_dflt (refine split_head (by k_asm) (by k_asm) (by rfl) (by assumption) ?_ (by rw [sizeLine_eq]; omega)); refine fun t1 R te h' k hlen hat hlast hsz F' N' l1 => Pause.out ?_))
theorem truthy_pos {prog : Program} {w : World} {A : Around} {E : Value → Shared → Prop} {s : Shared} {x : Str} {t : Tok} {R : Bool → Shared → Prop} (h1 : 1 ≤ x.length) (h2 : x.length ≤ 1000) (h : R true { s with toks := s.toks + 1 + 1 }) : wpAny (model prog w) A (PySem.truthy (.str x t)) R E s := by
  refine SBL.truthy (by omega) ?_
  have e : ((x.length : Int) != 0) = true := by rw [bne_iff_ne]; omega
  rw [e]; exact h
theorem truthy_zero {prog : Program} {w : World} {A : Around} {E : Value → Shared → Prop} {s : Shared} {x : Str} {t : Tok} {R : Bool → Shared → Prop} (h1 : x.length = 0) (h : R false { s with toks := s.toks + 1 + 1 }) : wpAny (model prog w) A (PySem.truthy (.str x t)) R E s := by
  refine SBL.truthy (by omega) ?_
  rw [h1]; exact h
theorem starts_true {prog : Program} {w : World} {A : Around} {E : Value → Shared → Prop} {s : Shared} {x y : Str} {t u : Tok} {R : Value → Shared → Prop} (h : Txt.startswith x y = true) (hq : R (.bool true) s) : wpAny (model prog w) A (call (.builtin "str.startswith") [.str x t, .str y u]) R E s := SC.startswith (h ▸ hq)
theorem seq_zero (v : Value) (R : List Value) : seqIndex? 0 (List.toArray (v :: R)).size = some 0 := by
  unfold seqIndex?
  simp
local macro_rules | `(tactic| walk_at "truthy str") => `(tactic| (k_here; first | refine truthy_pos (by omega) (by omega) ?_ | refine truthy_zero (by omega) ?_))
local macro_rules | `(tactic| walk_at "call builtin:str.startswith") => `(tactic| (k_here; k_dflt (refine starts_true (by assumption) ?_)))
local macro_rules | `(tactic| walk_at "subscriptTail Name UnaryOp ref int") => `(tactic| (k_here; k_dflt (refine item_last (by k_asm) (by k_mem) (by assumption) ?_)))
local macro_rules | `(tactic| walk_at "delItem ref int") => `(tactic| (k_here; k_dflt (refine' ki_del ?F ?N ?f ?k ?e ?U ?z ?_; (case F => k_asm); (case N => k_asm); (case U => k_upd); (case f => rfl); (case k => exact seq_zero _ _); (case e => rfl); (case z => (simp only [List.length_cons]; rw [sizeLine_eq]; omega)); intro h' F' N'; (try dsimp only [List.nil_append, List.cons_append] at N'))))
local macro_rules | `(tactic| walk_at "call builtin:str.find") => `(tactic| (k_here; (with_reducible show wpAny _ _ (call _ [_, _, _, _]) _ _ _); refine call_find4 ?_))

theorem matchB_tell (w : World) (mean mg mb) (want got w0 e : Str) (rest : List Str) (t u : Tok) (h1 : want.length ≤ 100000) (h2 : got.length ≤ 100000) (hx : 1 ≤ w0.length) (hx2 : w0.length ≤ 100) (hsp : Txt.split want (Str.ofString "...") = w0 :: (rest ++ [e])) (he : e.length = 0)
    (hst : Txt.startswith got w0 = true) (hle : w0.length ≤ got.length) :
    Tell w mean mg mb 2 21 [.str want t, .str got u] (fun news => True) (fun v => v = .bool (findAll got (rest ++ [e]) w0.length)) := by
  (unfold Tell; k_fill; intro dp un gd cn cs a ccd cl outer A₀ base h₀ L m news s Q E B F X N T hk hneed hd hu hret; (try dsimp only at hneed hret); refine wpAny_call ?_; k_dflt cell_enter)
  k_steps
  · rename ((Builtin.Str.occurrences _ _ _ _ _).isEmpty = true) => hocc
    rw [split_none hocc (by decide +kernel)] at hsp
    simp at hsp
  · refine Pause.mk ?_
    rename (∀ p ∈ news, _) => hlt
    rename (_ = rest.length + 1) => hlen
    rename (∀ (i : Nat) (v : Value), _) => hat
    rename List Value => R
    rename (R.toArray[R.toArray.size - 1]? = _) => hlast
    rename Fr _ _ _ _ => lF
    rename News _ _ _ _ => lN
    rename (_ = rest.length + 2) => hsz
    have hr9 : rest.length ≤ 100000 := by have := PyProof.Rows.split_le want (Str.ofString "..."); rw [hsp] at this; simp at this; omega
    dsimp only at lF lN hlt ⊢
    k_steps
    refine Pause.mk ?_
    rename Fr _ _ _ _ => lF
    rename News _ _ _ _ => lN
    dsimp only at lF lN ⊢
    refine iter_listM (σ := Int × Tok) (fun _ => news) (fun c => [(Str.ofString "got", .str got u), (Str.ofString "startpos", .int c.1 c.2), (Str.ofString "endpos", .int (got.length : Int) ?tok0)])
      (fun i c gs => gs = s.gens ∧ findAll got (rest ++ [e]) w0.length = findAll got ((rest ++ [e]).drop i) c.1) (w0.length, ?tok1) (by rfl) (News.isList lN (.tail _ (.head _))) (fun e => (lN _ (.tail _ (.head _))).2.1 e.symm) (fun p hp e => absurd (hlt p hp) (by rw [e]; exact Nat.lt_irrefl _)) (by rfl) (by rfl) (by passes_own) lF (newsSub lN fun p hp => .tail _ (.tail _ hp)) ?g1 ?g2 ?g3 ?g4
    case g1 => (repeat (first | exact List.forall_mem_nil _ | refine List.forall_mem_cons.mpr ⟨by rfl, ?_⟩))
    case g2 => exact ⟨rfl, rfl⟩
    case g3 =>
      rintro i v ⟨st, ts⟩ uu gs h tk own hi hv hoff - ⟨rfl, hI⟩ F₁ N₁
      clear lF lN
      obtain ⟨y, ty, rfl, hy⟩ := hat i v (by simpa using hv)
      have hyl : y.length ≤ 100000 := by
        have hm : y ∈ Txt.split want (Str.ofString "...") := by rw [hsp]; exact .tail _ (List.mem_of_getElem? hy)
        have := part_short hm
        omega
      dsimp only at hI F₁ N₁ ⊢
      have hstep := findAll_step (g := got) (st := st) hy
      k_steps
      · rename (find4 _ _ _ _ < 0) => hcase
        dsimp only [StepM]
        k_steps
        (rename Fr _ _ _ _ => kF; rename News _ _ _ _ => kN; refine hret _ _ _ ?_ kF (newsSub kN (fun p hp => List.mem_append_left _ hp)))
        rw [hI, hstep, if_pos hcase]
      · rename (¬ find4 _ _ _ _ < 0) => hcase
        rename Fr _ _ _ _ => lF
        rename News _ _ _ _ => lN
        exact StepM.next (_, _) lF lN (fun _ x => x) rfl (by (repeat (first | exact List.forall_mem_nil _ | refine List.forall_mem_cons.mpr ⟨by rfl, ?_⟩))) ⟨rfl, by rw [hI, hstep, if_neg hcase]⟩
    case g4 =>
      rintro ⟨st, ts⟩ uu h tk gs - ⟨rfl, hI⟩ F₁ N₁
      clear lF lN
      k_steps
      (rename Fr _ _ _ _ => kF; rename News _ _ _ _ => kN; refine hret _ _ _ ?_ kF (newsSub kN (fun _ hp => hp)))
      rw [hI, List.drop_of_length_le (by simp [hlen])]
      rfl
end Mine
end

theorem Mine.top_T3 : True := by
  w_top off
  exact True.intro

section
open PySem PySem.W PyProof.Rows
namespace Mine
set_option maxRecDepth 100000
set_option maxHeartbeats 8000000
local macro_rules | `(tactic| walk_at "exec For Name Call cons nil") => `(tactic| (k_here; k_dflt (refine For_pause ?_)))
local macro_rules | `(tactic| walk_at "call ref") => `(tactic| ((with_reducible show wpAny _ _ (call (Value.ref 21) _) _ _ _); refine pause_here ?_))

theorem plain_tell (w : World) (mean mg mb) (x : Str) (t : Tok) (h1 : x.length ≤ 50) (hd0 : 46 ∉ x.cps.toList) :
    Tell w mean mg mb 3 50 [.str x t] (fun _ => True) (fun v => v = .bool (plainTo x (x.length / 2))) := by
  (unfold Tell; k_fill; intro dp un gd cn cs a ccd cl outer A₀ base h₀ L m news s Q E B F X N T hk hneed hd hu hret; (try dsimp only at hneed hret); refine wpAny_call ?_; k_dflt cell_enter)
  k_steps
  refine Pause.mk ?_
  rename Fr _ _ _ _ => lF
  rename IsRange _ _ _ _ _ _ _ _ => rgX
  rename News _ _ _ _ => lN
  have eh := half_int x.length
  have en : ((x.length : Int).fdiv 2 + 1 - 1).toNat = x.length / 2 := by omega
  refine iter_rangeM (σ := Unit) (fun _ => news) (fun _ => [(Str.ofString "stretch", .str x t)]) (fun i _ gs => gs = s.gens ∧ plainTo x i = true) () (by rfl) rgX (small_one (by omega) (by omega) (by omega) (by omega)) (rangeSize_nat _ _) (by rfl) (by rfl) (by passes_own) lF lN ?_ ?_ ?_ ?_
  · (repeat (first | exact List.forall_mem_nil _ | refine List.forall_mem_cons.mpr ⟨by rfl, ?_⟩))
  · exact ⟨rfl, rfl⟩
  · rintro i tt ⟨⟩ u gs h tk own hlt hoff - ⟨rfl, hal⟩ F₁ N₁
    clear lF lN rgX
    have hi : i + 1 ≤ x.length / 2 := by omega
    have hi2 : i + 1 ≤ x.length := by omega
    k_steps
    refine Pause.mk ?_
    have es := slice_pre' x (b := i + 1) (j := 1 + (i : Int)) (by omega) hi2
    rw [es]
    have hp := preS_len x hi2
    have hw : (preS x (i + 1) ++ Str.ofString "..." ++ preS x (i + 1)).length = 2 * (i + 1) + 3 := by
      rw [Str.length_append, Str.length_append, hp, show (Str.ofString "...").length = 3 from dots_len]; omega
    (k_here; k_dflt (refine' Tell.use (matchA_tell w mean mg mb _ _ (preS x (i + 1)) _ _ (by rw [hw]; omega) (by omega) (by omega) (by omega) (split_twice (preS_free hd0)) (by omega)) ?k1 ?k2 ?k3 ?k4 ?k5 ?kK ?kn ?kd ?ku ?kR; (case k1 => first | k_asm | fail "m_call: below"); (case k2 => first | k_asm | fail "m_call: frame"); (case k3 => first | k_asm | fail "m_call: written part"); (case k4 => first | k_asm | fail "m_call: ledger"); (case k5 => first | k_asm | fail "m_call: top"); (case kK => first | exact rfl | assumption | fail "m_call: kind"); (case kn => first | exact True.intro | assumption | k_mem | (dsimp only; first | assumption | k_mem) | fail "m_call: need"); (case kd => first | ktr_room | fail "m_call: room"); (case ku => first | ktr_units | fail "m_call: units"); intro v9 h9 tk9 hv9 F9 N9; (try dsimp only at hv9); subst hv9; (try dsimp only); (try k_fold)))
    have hb : (Txt.startswith x (preS x (i + 1)) && Txt.endswith x (preS x (i + 1))) = bord x (i + 1) := rfl
    rw [hb]
    k_steps
    · rename (bord x (i + 1) = true) => hcase
      dsimp only [StepM]
      k_steps
      (rename Fr _ _ _ _ => kF; rename News _ _ _ _ => kN; refine hret _ _ _ ?_ kF (newsSub kN (fun p hp => List.mem_append_left _ hp)))
      rw [plainTo_false (by omega) hcase]
    · rename (bord x (i + 1) = false) => hcase
      rename Fr _ _ _ _ => F₂
      rename News _ _ _ _ => N₂
      exact StepM.next () F₂ N₂ (fun _ x => x) rfl (by (repeat (first | exact List.forall_mem_nil _ | refine List.forall_mem_cons.mpr ⟨by rfl, ?_⟩))) ⟨rfl, plainTo_succ hal hcase⟩
  · rintro ⟨⟩ u h tk gs - ⟨rfl, hal⟩ F₁ N₁
    clear lF lN rgX
    k_steps
    (rename Fr _ _ _ _ => kF; rename News _ _ _ _ => kN; refine hret _ _ _ ?_ kF (newsSub kN (fun _ hp => hp)))
    rw [en] at hal
    rw [hal]
end Mine
end

theorem Mine.top_T4 : True := by
  w_top off
  exact True.intro

section
open PySem PySem.W PyProof.Rows
namespace Mine
set_option maxRecDepth 100000
set_option maxHeartbeats 8000000
local macro_rules | `(tactic| walk_at "exec For Name Call cons nil") => `(tactic| (k_here; k_dflt (refine For_pause ?_)))
local macro_rules | `(tactic| walk_at "exec While BoolOp cons nil") => `(tactic| (k_here; refine pause_here ?_))
local macro_rules | `(tactic| walk_at "call ref") => `(tactic| ((with_reducible show wpAny _ _ (call (Value.ref 50) _) _ _ _); refine pause_here ?_))
local macro_rules | `(tactic| walk_at "subscriptTail Name UnaryOp ref int") => `(tactic| (k_here; k_dflt (refine item_last (by k_asm) (by k_mem) (by assumption) ?_)))

local macro_rules | `(tactic| walk_at "call builtin:list.append") => `(tactic| (k_here; k_dflt (refine append_K (by k_asm) (by k_asm) (Upd.head (by assumption)) ?_ (by assumption)); intro h' F' N'; (try dsimp only at F' N' ⊢)))

theorem longest_tell (w : World) (mean mg mb) (x : Str) (t : Tok) (h1 : x.length ≤ 50) (hd0 : 46 ∉ x.cps.toList) :
    TellL w mean mg mb 4 57 [.str x t] (fun ns => ns = (longTo x x.length).map Int.ofNat) := by
  unfold TellL
  k_fill
  intro dp un gd cn cs a ccd cl outer A₀ base h₀ L m news s Q E B F X N T hk hd hu hret
  refine wpAny_call ?_
  k_dflt cell_enter
  k_steps
  refine Pause.mk ?_
  rename Fr _ _ _ _ => lF
  rename IsRange _ _ _ _ _ _ _ _ => rgX
  rename News _ _ _ _ => lN
  rename (∀ p ∈ news, _ < _) => hlt
  obtain ⟨l, rfl⟩ := take_of lN
  refine iter_rangeM (σ := Array Value × Nat) (fun c => (l, listOf c.1 c.2) :: news) (fun _ => [(Str.ofString "text", .str x t), (Str.ofString "most", .ref l)])
    (fun i c gs => gs = s.gens ∧ IntsAre c.1.toList ((longTo x i).map Int.ofNat)) (#[_], 0) (by rfl) rgX (small_one (by omega) (by omega) (by omega) (by omega)) (rangeSize_nat _ _) (by rfl) (by rfl) (by passes_own) lF lN ?_ ?_ ?_ ?_
  · (repeat (first | exact List.forall_mem_nil _ | refine List.forall_mem_cons.mpr ⟨by rfl, ?_⟩))
  · exact ⟨rfl, IntsAre.cons _ _ IntsAre.nil⟩
  · rintro i tt ⟨its, nn⟩ u gs h tk own hlt2 hoff - ⟨rfl, hI⟩ F₁ N₁
    clear lF lN rgX
    dsimp only at hI F₁ N₁ ⊢
    simp only [List.cons_append] at N₁
    have hi : i + 1 ≤ x.length := by omega
    have hsz : its.size = i + 1 := by
      have := hI.length
      simpa [longTo_len] using this
    have hpi := longTo_last_le x i
    obtain ⟨pt, hx⟩ : ∃ pt, its[its.size - 1]? = some (.int ((longTo x i).getLastD 0 : Nat) pt) := by
      obtain ⟨pt, h⟩ := hI.get i ((longTo x i).getLastD 0 : Nat) (by rw [List.getElem?_map, longTo_last]; rfl)
      exact ⟨pt, by rw [hsz]; simpa using h⟩
    generalize hp : (longTo x i).getLastD 0 = p at hx hpi
    k_steps
    refine Pause.mk ?_
    rename Fr _ _ _ _ => lF
    rename News _ _ _ _ => lN
    refine While_M (σ := Nat × Tok) (fun _ => (l, listOf its nn) :: (news ++ own)) (fun c => [(Str.ofString "text", .str x t), (Str.ofString "most", .ref l), (Str.ofString "end", .int (1 + (i : Int)) tt), (Str.ofString "begin", .int (c.1 : Int) c.2)])
      (fun c => c.1 ≤ i + 1 - p ∧ ∀ k, k < c.1 → plainS (midS x k (i + 1)) = false) (fun c => i + 1 - p - c.1) (0, ?tok0) lF lN ?g1 ?g2 ?g3 (by passes_own)
    case g1 => (repeat (first | exact List.forall_mem_nil _ | refine List.forall_mem_cons.mpr ⟨by rfl, ?_⟩))
    case g2 => exact ⟨Nat.zero_le _, fun k hk => absurd hk (Nat.not_lt_zero _)⟩
    case g3 =>
      rintro ⟨b, tb⟩ u h tk ⟨hb, hno⟩ F₂ N₂
      dsimp only at hb hno F₂ N₂ ⊢
      clear lF lN
      have hall : ∀ p ∈ news ++ own, p.1 ≠ l := by
        intro p hp
        rcases List.mem_append.mp hp with hp | hp
        · exact Nat.ne_of_lt (hlt p hp)
        · exact hoff p hp l (.head _)
      have hroom : its.size ≤ sizeLine := by rw [sizeLine_eq]; omega
      k_steps
      · refine Pause.mk ?_
        rename ((b : Int) < _) => hbl
        have es := slice_mid' x (a := b) (b := i + 1) (i := (b : Int)) (j := 1 + (i : Int)) rfl (by omega) (by omega) hi
        rw [es]
        (k_here; k_dflt (refine' Tell.use (plain_tell w mean mg mb _ _ (by rw [midS_len x hi]; omega) (midS_free hd0)) ?k1 ?k2 ?k3 ?k4 ?k5 ?kK ?kn ?kd ?ku ?kR; (case k1 => first | k_asm | fail "m_call: below"); (case k2 => first | k_asm | fail "m_call: frame"); (case k3 => first | k_asm | fail "m_call: written part"); (case k4 => first | k_asm | fail "m_call: ledger"); (case k5 => first | k_asm | fail "m_call: top"); (case kK => first | exact rfl | assumption | fail "m_call: kind"); (case kn => first | exact True.intro | assumption | k_mem | (dsimp only; first | assumption | k_mem) | fail "m_call: need"); (case kd => first | ktr_room | fail "m_call: room"); (case ku => first | ktr_units | fail "m_call: units"); intro v9 h9 tk9 hv9 F9 N9; (try dsimp only at hv9); subst hv9; (try dsimp only); (try k_fold)))
        have hpl : plainTo (midS x b (i + 1)) ((midS x b (i + 1)).length / 2) = plainS (midS x b (i + 1)) := rfl
        rw [hpl]
        k_steps
        · rename (plainS _ = true) => hcase
          rename Fr _ _ _ _ => lF
          rename News _ _ _ _ => lN
          exact StepM.next (_, nn + 1) lF lN (fun _ x => x) rfl (by (repeat (first | exact List.forall_mem_nil _ | refine List.forall_mem_cons.mpr ⟨by rfl, ?_⟩))) ⟨rfl, longTo_ints hI hp hpi hb hno (fun _ => hcase) rfl⟩
        · rename (plainS _ = false) => hcase
          rename Fr _ _ _ _ => lF
          rename News _ _ _ _ => lN
          refine WStepM.next (b + 1, _) lF lN (fun _ x => x) (by (repeat (first | exact List.forall_mem_nil _ | refine List.forall_mem_cons.mpr ⟨by rfl, ?_⟩))) ⟨by dsimp only; omega, fun k hk => ?_⟩ (by dsimp only; omega)
          dsimp only at hk
          by_cases hkb : k < b
          · exact hno k hkb
          · have : k = b := by omega
            rw [this]; exact hcase
      · rename (¬ _) => hcase
        rename Fr _ _ _ _ => lF
        rename News _ _ _ _ => lN
        exact StepM.next (_, nn + 1) lF lN (fun _ x => x) rfl (by (repeat (first | exact List.forall_mem_nil _ | refine List.forall_mem_cons.mpr ⟨by rfl, ?_⟩))) ⟨rfl, longTo_ints hI hp hpi hb hno (fun h => absurd h (by omega)) rfl⟩
  · rintro ⟨its, nn⟩ u h tk gs - ⟨rfl, hI⟩ F₁ N₁
    clear lF lN rgX
    dsimp only at hI F₁ N₁ ⊢
    k_steps
    rename Fr _ _ _ _ => kF
    rename News _ _ _ _ => kN
    have en : (((x.length : Int) + 1 - 1).toNat) = x.length := by omega
    rw [en] at hI
    exact hret _ _ _ _ _ _ hI rfl kF kN hlt
end Mine
end

theorem Mine.top_T5 : True := by
  w_top off
  exact True.intro

section
open PySem PySem.W PyProof.Rows
namespace Mine
set_option maxRecDepth 100000
set_option maxHeartbeats 8000000

local macro_rules | `(tactic| walk_at "exec For Name Call cons nil") => `(tactic| (k_here; k_dflt (refine For_pause ?_)))

theorem iseof_tell (w : World) (mean mg mb) (x : Int) (t : Tok) : Tell w mean mg mb 1 38 [.int x t] (fun _ => True) (fun v => v = .bool (decide (x = 0))) := by
  (unfold Tell; k_fill; intro dp un gd cn cs a ccd cl outer A₀ base h₀ L m news s Q E B F X N T hk hneed hd hu hret; (try dsimp only at hneed hret); refine wpAny_call ?_; k_dflt cell_enter)
  k_steps
  (rename Fr _ _ _ _ => kF; rename News _ _ _ _ => kN; refine hret _ _ _ ?_ kF (newsSub kN (fun _ hp => hp)))
  rfl

local macro_rules | `(tactic| walk_at "call ref") => `(tactic| ((with_reducible show wpAny _ _ (call (Value.ref 38) _) _ _ _); (k_here; k_dflt (refine' Tell.use (iseof_tell _ _ _ _ _ _) ?k1 ?k2 ?k3 ?k4 ?k5 ?kK ?kn ?kd ?ku ?kR; (case k1 => first | k_asm | fail "m_call: below"); (case k2 => first | k_asm | fail "m_call: frame"); (case k3 => first | k_asm | fail "m_call: written part"); (case k4 => first | k_asm | fail "m_call: ledger"); (case k5 => first | k_asm | fail "m_call: top"); (case kK => first | exact rfl | assumption | fail "m_call: kind"); (case kn => first | exact True.intro | assumption | k_mem | (dsimp only; first | assumption | k_mem) | fail "m_call: need"); (case kd => first | ktr_room | fail "m_call: room"); (case ku => first | ktr_units | fail "m_call: units"); intro v9 h9 tk9 hv9 F9 N9; (try dsimp only at hv9); subst hv9; (try dsimp only); (try k_fold)))))

def alikeFrom (ns : List Int) (size : Nat) (k : Nat) : Bool := (List.range k).all fun i => decide (ns.getD (size + i) 0 - ns.getD i 0 = 0)

theorem alikeFrom_succ {ns : List Int} {size i : Nat} (h : alikeFrom ns size i = true) (h' : ns.getD (size + i) 0 - ns.getD i 0 = 0) : alikeFrom ns size (i + 1) = true := by
  unfold alikeFrom at *
  rw [List.range_succ, List.all_append, h]
  simp only [List.all_cons, List.all_nil, Bool.and_true, Bool.true_and, decide_eq_true_eq]
  exact h'
theorem alikeFrom_false {ns : List Int} {size i k : Nat} (hi : i < k) (h' : ¬ ns.getD (size + i) 0 - ns.getD i 0 = 0) : alikeFrom ns size k = false := by
  unfold alikeFrom
  rw [List.all_eq_false]
  exact ⟨i, List.mem_range.mpr hi, by simpa using h'⟩

theorem alike_tell (w : World) (mean mg mb) (l : Addr) (vs : List Value) (ns : List Int) (nn : Nat) (size : Nat) (t : Tok) (hi : IntsAre vs ns) (hs : size ≤ 100) (hl : ns.length ≤ 100) :
    Tell w mean mg mb 2 71 [.ref l, .int (size : Int) t] (fun news => (l, listOf vs.toArray nn) ∈ news) (fun v => v = .bool (alikeFrom ns size (ns.length - size))) := by
  have hz : vs.toArray.size = ns.length := by simp [hi.length]
  (unfold Tell; k_fill; intro dp un gd cn cs a ccd cl outer A₀ base h₀ L m news s Q E B F X N T hk hneed hd hu hret; (try dsimp only at hneed hret); refine wpAny_call ?_; k_dflt cell_enter)
  k_steps
  refine Pause.mk ?_
  rename Fr _ _ _ _ => lF
  rename IsRange _ _ _ _ _ _ _ _ => rgX
  rename News _ _ _ _ => lN
  have e : ((ns.length : Int) - (size : Int)).toNat = ns.length - size := by omega
  refine iter_rangeM (σ := Unit) (fun _ => news) (fun _ => [(Str.ofString "numbers", .ref l), (Str.ofString "size", .int (size : Int) t)]) (fun i _ gs => gs = s.gens ∧ alikeFrom ns size i = true) () (by rfl) rgX (small_one (by omega) (by omega) (by omega) (by omega)) (rangeSize_nat _ _) (by rfl) (by rfl) (by passes_own) lF lN ?_ ?_ ?_ ?_
  · intro p hp
    simp only [List.mem_cons, List.not_mem_nil, or_false] at hp
    rcases hp with rfl | rfl <;> rfl
  · exact ⟨rfl, rfl⟩
  · rintro i tt ⟨⟩ u gs h tk own hlt hoff - ⟨rfl, hal⟩ F₁ N₁
    clear lF lN rgX
    have e1 : ((size : Int) + (i : Int)).toNat = size + i := by omega
    have e2 : ((size : Int) + (i : Int) - (size : Int)).toNat = i := by omega
    k_steps
    · rename_i hcase
      rename Fr _ _ _ _ => F₂
      rename News _ _ _ _ => N₂
      rw [e1, e2] at hcase
      refine StepM.next () F₂ N₂ (fun _ x => x) rfl ?_ ⟨rfl, alikeFrom_succ hal hcase⟩
      intro p hp
      simp only [List.mem_cons, List.not_mem_nil, or_false] at hp
      rcases hp with rfl | rfl <;> rfl
    · rename_i hcase
      rw [e1, e2] at hcase
      dsimp only [StepM]
      k_steps
      (rename Fr _ _ _ _ => kF; rename News _ _ _ _ => kN; refine hret _ _ _ ?_ kF (newsSub kN (fun p hp => List.mem_append_left _ hp)))
      rw [alikeFrom_false (by omega) hcase]
  · rintro ⟨⟩ u h tk gs - ⟨rfl, hal⟩ F₁ N₁
    clear lF lN rgX
    k_steps
    (rename Fr _ _ _ _ => kF; rename News _ _ _ _ => kN; refine hret _ _ _ ?_ kF (newsSub kN (fun _ hp => hp)))
    rw [e] at hal
    rw [hal]
end Mine
end

theorem Mine.top_GenSegs : True := by
  w_top off
  exact True.intro

section
open PySem PySem.W PyProof.Rows PySem.Spec PySem.Calls
namespace Mine
set_option maxRecDepth 100000
set_option maxHeartbeats 4000000

section
variable {M : Model} {A : Around} {R : GenEnd} {Y : Protocol} {n : Nat} {s₀ : Shared} {c : Code} {fs : List Frame} {s : Shared} {env : Env}
  {K : Flow → Sem Fin} {H : Value → Sem Fin} {gd : Bool → Bool} {lv : List Value → List Value}

/-- a plain statement in a generator -/
theorem seg_plain {st : Stmt} (h : wpAny M (A.over c fs) (exec st env) (fun f s' => Seg M A R Y n s₀ c (K f) fs s') (fun _ _ => False) s) : Seg M A R Y n s₀ c ((exec st env).wrap K H gd lv) fs s :=
  seg_wrap (wpAny_mono h (fun _ _ x => x) fun _ _ x => x.elim)

theorem seg_If {test : Expr} {body orelse : List Stmt} {pos : Pos}
    (h : wpAny M (A.over c fs) (isTrue test env (eval test env)) (fun b s' => if b = true then Seg M A R Y n s₀ c ((execs body env).wrap K H gd lv) fs s' else Seg M A R Y n s₀ c ((execs orelse env).wrap K H gd lv) fs s') (fun _ _ => False) s) :
    Seg M A R Y n s₀ c ((exec (.If test body orelse pos) env).wrap K H gd lv) fs s := by
  show Seg M A R Y n s₀ c (.at pos fun _ => (isTrue test env (eval test env) >>= fun b => if b = true then execs body env else execs orelse env).wrap K H gd lv) fs s
  refine seg_at (seg_bind_wrap (wpAny_mono h (fun b s' x => ?_) fun _ _ x => x.elim))
  cases b with
  | true => exact x
  | false => exact x

theorem seg_For {target iter : Expr} {body orelse : List Stmt} {pos : Pos} (hs : ∀ x, foldedSetIterable iter env x = pure x)
    (h : wpAny M (A.over c fs) (eval iter env) (fun x s₁ => Pause (wpAny M (A.over c fs) (pyIter x) (fun it s₂ => ∀ p, Seg M A R Y n s₀ (.forLoop target it body orelse env) (M.den (.forLoop target it body orelse env))
      (.ret (fun r => ((match r with | .ok f => (.pure f : Sem Flow) | .error e => .raise e).onRaise fun (x : Value) => do
        if (← field x 1) == Value.none then unsupported "frame.own-activation:exception-without-traceback"
        setFlight x env.frame).wrap K H gd lv) none (gd false) (lv []) c p [] :: fs) s₂) (fun _ _ => False) s₁)) (fun _ _ => False) s) :
    Seg M A R Y n s₀ c ((exec (.For target iter body orelse pos) env).wrap K H gd lv) fs s := by
  rw [exec_For]
  refine seg_bind_wrap (wpAny_standAt ?_)
  refine seg_bind_wrap (wpAny_mono h (fun x s₁ h₁ => ?_) fun _ _ x => x.elim)
  refine seg_bind_wrap (wpAny_of_eq (hs x) ?_)
  refine seg_bind_wrap (wpAny_standAt ?_)
  refine seg_bind_wrap (wpAny_holding (wpAny_mono h₁.out (fun it s₂ h₂ => ?_) fun _ _ x => x.elim))
  exact seg_call h₂
end

section
variable {prog : Program} {w : World} {A : Around} {R : GenEnd} {Y : Protocol} {n : Nat} {s₀ : Shared} {fs : List Frame} {s : Shared} {env : Env}
theorem seg_forLoop {x : Str} {px : Pos} {it : Value} {body : List Stmt}
    (h : wpAny (model prog w) (A.over (.forLoop (.Name x px) it body [] env) fs) (pyNext it) (fun r s₁ => match r with
      | none => False
      | some v => wpAny (model prog w) (A.over (.forLoop (.Name x px) it body [] env) fs) (storeName env x v) (fun _ s₂ => Seg (model prog w) A R Y n s₀ (.forLoop (.Name x px) it body [] env) ((execs body env).wrap (fun f => match f with
            | .next | .cont => .pure (.again (.forLoop (.Name x px) it body [] env))
            | .brk => .pure (.done .next)
            | .ret v => .pure (.done (.ret v))) (fun e => (do noteFrame e env; theTreesLotGoes e : Sem Unit).wrap (fun _ => .raise e) .raise id id) id id) fs s₂) (fun _ _ => False) s₁) (fun _ _ => False) s) :
    Seg (model prog w) A R Y n s₀ (.forLoop (.Name x px) it body [] env) ((model prog w).den (.forLoop (.Name x px) it body [] env)) fs s := by
  show Seg _ A R Y n s₀ _ ((forTurn (.Name x px) it body [] env).onRaise (fun x => do noteFrame x env; theTreesLotGoes x)) fs s
  unfold forTurn
  rw [Sem.onRaise_eq_wrap]
  refine seg_bind_wrap (wpAny_standAt ?_)
  refine seg_bind_wrap (wpAny_onRaise (wpAny_mono h (fun r s₁ h₁ => ?_) fun _ _ x => x.elim))
  cases r with
  | none => exact h₁.elim
  | some v =>
    dsimp only at h₁ ⊢
    refine seg_bind_wrap (wpAny_of_eq (rfl : letOwnedTupleGo (.Name x px) it v = pure ()) ?_)
    refine seg_bind_wrap (wpAny_assign_Name (wpAny_mono h₁ (fun _ s₂ h₂ => ?_) fun _ _ x => x.elim))
    rw [Sem.bind_eq_wrap', Sem.wrap_wrap]
    rw [Sem.wrap_congr (execs body env) _ _ (K' := fun f => match f with
            | .next | .cont => .pure (.again (.forLoop (.Name x px) it body [] env))
            | .brk => .pure (.done .next)
            | .ret v => .pure (.done (.ret v))) (H' := (fun e => (do noteFrame e env; theTreesLotGoes e : Sem Unit).wrap (fun _ => .raise e) .raise id id))
        (fun f => by cases f <;> rfl)
        (fun e => by first | exact Sem.bind_eq_wrap _ _ | (show (do noteFrame e env; theTreesLotGoes e : Sem Unit).bind (fun _ => .raise e) = _; rw [Sem.bind_eq_wrap]))]
    exact h₂
end

section
variable {prog : Program} {w : World} {A : Around} {E : Value → Shared → Prop} {s : Shared} {K : Frag} {h₀ : Heap} {L : Addr} {m : Str → Option Value} {news : List (Addr × Obj)} {Q : Value → Shared → Prop}
/-- a call of a generator function: a new frame's dict, a new generator, nothing run -/
theorem call_gen {name qual : Str} {params : Arguments} {body : List Stmt} {scope : Scope} {dV kV doc pm cdv ct oc : Value} {an od : Option Addr} {osl : Array (Option Value)} {f : Addr} {vs : List Value} {binds : List (Str × Value)}
    (F : Fr h₀ L s.heap m) (X₀ : K.In h₀) (N : News h₀ L s.heap news) (hlim : h₀.NoLimit)
    (ho : K.lookup f = some ⟨oc, od, .func (fnOf name qual params body scope dV kV doc pm an cdv ct), osl⟩) (hcd : codeIn K cdv qual = true) (hroom : A.depth < recursionLimit)
    (hbind : bindArgs (fnOf name qual params body scope dV kV doc pm an cdv ct) ⟨vs, []⟩ = pure binds) (hloc : ∀ y ∈ binds, scope.names.lookup y.1 = some .local)
    (hcell : ∀ x ∈ scope.names, x.2 ≠ .cell) (hco : scope.isCoroutine = false) (hgen : scope.isGenerator = true) (hk : scope.kind = .function)
    (h : ∀ h' tk, h'.objs.size = s.heap.objs.size + 1 + 1 → Fr h₀ L h' m → Fr h₀ s.heap.objs.size h' (fun y => binds.reverse.lookup y) → News h₀ L h' news → h'.IsGen (s.heap.objs.size + 1) s.gens.size → (∀ b o, s.heap.get? b = some o → h'.get? b = some o) →
      Q (.ref (s.heap.objs.size + 1)) { s with heap := h', toks := tk, gens := s.gens.push (.fresh (.func body (envOf qual scope s.heap.objs.size f cdv))) }) :
    wpAny (model prog w) A (call (.ref f) vs) Q E s := by
  have X := X₀.keeps F.keep
  refine wpAny_call (codeAny_call_generator hroom (X _ _ ho) rfl hco hgen rfl (codeRec_of X hcd) ?_)
  rw [hbind]
  refine wpAny_pure (wpAny_newFunctionEnv hcell hloc (fun h₁ hns hsb => ?_) hk)
  have keep₁ : ∀ b o, s.heap.get? b = some o → h₁.get? b = some o := fun b o e => hsb.extBut b o (Nat.ne_of_lt (Heap.lt_size e)) (Heap.get?_push_of_some _ e)
  have hsz : h₁.objs.size = s.heap.objs.size + 1 := by rw [hsb.1, Heap.size_push]
  refine ⟨(hlim.keeps F.keep).keeps keep₁, ?_⟩
  have F₁ : Fr h₀ L h₁ m := ⟨F.ns.at' fun o e => keep₁ _ o e, fun b o e => keep₁ b o (F.keep b o e), F.above⟩
  have FG : Fr h₀ s.heap.objs.size h₁ (fun y => binds.reverse.lookup y) := ⟨hns, fun b o e => keep₁ b o (F.keep b o e), Nat.le_of_lt (Nat.lt_of_le_of_lt F.above F.ns.lt)⟩
  dsimp only
  rw [hsz]
  refine h _ _ (by rw [Heap.size_push, hsz]) (F₁.push _) (FG.push _) (fun p hp => ⟨Heap.get?_push_of_some _ (keep₁ _ _ (N p hp).1), (N p hp).2⟩) ?_ (fun b o e => Heap.get?_push_of_some _ (keep₁ b o e))
  exact ⟨_, _, _, by rw [← hsz]; exact Heap.get?_push_size _ rfl, rfl, rfl, rfl⟩
end
end Mine
end

theorem Mine.top_Gen : True := by
  w_top off
  exact True.intro

section
open PySem PySem.W PyProof.Rows PySem.Spec PySem.Calls
namespace Mine
set_option maxRecDepth 100000
set_option maxHeartbeats 4000000

/-- what a step of the generator leaves: the int, the caller's objects as they were, its own objects; and that it goes on wherever these stand -/
def YG (h₀ : Heap) (L Lg : Addr) (ex : List Addr) (S₀ : Addr) (size : Int) : Protocol := fun n s₀ v s₁ kap =>
  (∃ tk, v = .int size tk) ∧ (∃ h' tk, s₁ = { s₀ with heap := h', toks := tk } ∧ ∀ b o, b < S₀ → b ≠ Lg → s₀.heap.get? b = some o → h'.get? b = some o) ∧
  ∃ led : List (Addr × Obj), News h₀ L s₁.heap led ∧ (∀ p ∈ led, p.1 = Lg ∨ p.1 ∈ ex ∨ S₀ ≤ p.1) ∧
    (n ≠ 0 → ∀ s'' : Shared, (∀ b o, h₀.get? b = some o → s''.heap.get? b = some o) → (∀ p ∈ led, s''.heap.get? p.1 = some p.2) → kap (.send .none) s'')
def RG : GenEnd := fun _ _ r _ => r = .ok .next ∧ False

def GenAtM (prog : Program) (w : World) (A : Around) (h₀ : Heap) (L Lg : Addr) (ex : List Addr) (S₀ : Addr) (size : Int) (g n : Nat) (s : Shared) : Prop :=
  ∃ gs led, s.gens[g]? = some gs ∧ News h₀ L s.heap led ∧ (∀ p ∈ led, p.1 = Lg ∨ p.1 ∈ ex ∨ S₀ ≤ p.1) ∧
    (n ≠ 0 → ∀ s'' : Shared, (∀ b o, h₀.get? b = some o → s''.heap.get? b = some o) → (∀ p ∈ led, s''.heap.get? p.1 = some p.2) → gs.Goes (model prog w) A.in1 RG (YG h₀ L Lg ex S₀ size) n (.send .none) s'')

section
variable {prog : Program} {w : World} {A : Around} {E : Value → Shared → Prop} {s : Shared} {h₀ : Heap} {L Lg S₀ ag : Addr} {ex : List Addr} {size : Int} {g m : Nat}

theorem GenAtM.next {Q : Option Value → Shared → Prop} (G : GenAtM prog w A h₀ L Lg ex S₀ size g (m + 1) s) (hh : A.handled = none) (hl : s.heap.NoLimit) (hroom : A.depth < recursionLimit) (hg : s.heap.IsGen ag g)
    (hb : ∀ b o, h₀.get? b = some o → s.heap.get? b = some o)
    (hQ : ∀ h' tk gens' tkv, (∀ b o, b < S₀ → b ≠ Lg → s.heap.get? b = some o → h'.get? b = some o) → (AllBare s.gens → AllBare gens') → GenAtM prog w A h₀ L Lg ex S₀ size g m { s with heap := h', toks := tk, gens := gens' } →
      Q (some (.int size tkv)) { s with heap := h', toks := tk, gens := gens' }) : wpAny (model prog w) A (pyNext (.ref ag)) Q E s := by
  obtain ⟨gs, led, hgs, N, hled, hgo⟩ := G
  refine wpAny_pyNext_genexpQ (P := fun _ _ _ => False) (Y := YG h₀ L Lg ex S₀ size) (n := m + 1) hh hl hroom hg hgs (hgo (Nat.succ_ne_zero m) _ hb fun p hp => (N p hp).1) (fun v s₁ gs' hbare hv => ?_) (fun s₁ hp => hp.elim)
  obtain ⟨⟨tkv, rfl⟩, ⟨h', tk, rfl, hk⟩, led', N', hled', hkap⟩ := hv
  have hset := setGen_self (g := g) (x := gs') (setGen_self (x := .running) hgs)
  refine hQ h' tk _ tkv hk (fun ha => ?_) ⟨gs', led', hset, N', hled', fun hm s'' h1 h2 => hkap hm s'' h1 h2⟩
  exact (GenOnlyQ.of ((GenOnly.setGen s g .running).trans (GenOnly.setGen _ g gs')) hset hbare).bare ha

theorem GenAtM.moves {h' : Heap} {tk : Nat} (G : GenAtM prog w A h₀ L Lg ex S₀ size g m s) (h : ∀ b o, s.heap.get? b = some o → (b = Lg ∨ b ∈ ex ∨ S₀ ≤ b) → h'.get? b = some o) : GenAtM prog w A h₀ L Lg ex S₀ size g m { s with heap := h', toks := tk } := by
  obtain ⟨gs, led, hgs, N, hled, hgo⟩ := G
  exact ⟨gs, led, hgs, fun p hp => ⟨h _ _ (N p hp).1 (hled p hp), (N p hp).2⟩, hled, hgo⟩
end

section
variable {prog : Program} {w : World} {A : Around} {E : Value → Shared → Prop} {s : Shared} {env : Env} {h₀ : Heap} {x : Str} {body : List Stmt} {Q : Flow → Shared → Prop}

/-- a for over such a generator, left by a return in at most n turns -/
theorem loop_genM {σ : Type} {ag Lg S₀ : Addr} {ex : List Addr} {g n : Nat} {size : Int} {px : Pos} {m₀ : Str → Option Value}
    (Led : σ → List (Addr × Obj)) (ps : σ → List (Str × Value)) (Inv : Nat → σ → Prop) (c₀ : σ)
    (hh : A.handled = none) (hlim : h₀.NoLimit) (hroom : A.depth < recursionLimit)
    (hx : env.kindOf x = some .local) (hp : (env.scope.kind == .class || (env.scope.kind == .module && env.locals != env.globals)) = false) (hE : PassesOwn (model prog w) A env E)
    (G : GenAtM prog w A h₀ env.locals Lg ex S₀ size g n s) (hg : s.heap.IsGen ag g) (hag : h₀.get? ag = none) (hag2 : ag < S₀) (hag3 : ag ≠ Lg) (hagL : ag ≠ env.locals) (hLS : env.locals < S₀) (hLLg : env.locals ≠ Lg) (hS : h₀.objs.size ≤ Lg)
    (hoff : ∀ p ∈ Led c₀, p.1 < S₀ ∧ p.1 ≠ Lg ∧ p.1 ∉ ex ∧ p.1 ≠ ag) (hbare : AllBare s.gens) (hS2 : h₀.objs.size ≤ S₀)
    (F : Fr h₀ env.locals s.heap m₀) (N : News h₀ env.locals s.heap (Led c₀)) (hk : ∀ p ∈ ps c₀, m₀ p.1 = some p.2) (h0 : Inv 0 c₀) (hn : ∀ c, Inv n c → False)
    (turn : ∀ (i : Nat) (t : Tok) c u gs h tk own, i < n → AllBare gs → OwnOff own ((Led c₀).map (·.1)) → (Led c).map (·.1) = (Led c₀).map (·.1) → Inv i c → Fr h₀ env.locals h (fun y => if y = x then some (.int size t) else kstB u (ps c) y) → News h₀ env.locals h (Led c ++ own) →
      wpAny (model prog w) A (execs body env) (StepM h₀ env.locals Led ps (fun c gs' => gs' = gs ∧ Inv (i + 1) c) own ((Led c₀).map (·.1)) { s with heap := h, toks := tk, gens := gs } Q) E { s with heap := h, toks := tk, gens := gs }) :
    codeAny (model prog w) A (.forLoop (.Name x px) (.ref ag) body [] env) (fun r s' => match r with | .ok f => Q f s' | .error e => cameBackBy (model prog w) A env E e s') s := by
  obtain ⟨og, hog⟩ : ∃ og, s.heap.get? ag = some og := let ⟨o, _, _, ho, _⟩ := hg; ⟨o, ho⟩
  have hgen : ∀ h : Heap, h.get? ag = some og → h.IsGen ag g := fun h e => by
    obtain ⟨o, nm, qn, ho, r⟩ := hg
    rw [hog] at ho; cases ho
    exact ⟨og, nm, qn, e, r⟩
  refine codeAny_forLoop
    (fun k s' => ∃ h' tk m' gs c i, s' = { s with heap := h', toks := tk, gens := gs } ∧ AllBare gs ∧ GenAtM prog w A h₀ env.locals Lg ex S₀ size g (n - i) s' ∧ h'.get? ag = some og ∧ Fr h₀ env.locals h' m' ∧ News h₀ env.locals h' (Led c) ∧ (Led c).map (·.1) = (Led c₀).map (·.1) ∧ (∀ p ∈ ps c, m' p.1 = some p.2) ∧ Inv i c ∧ i ≤ n ∧ k = n + 1 - i) ?_ (n + 1)
    ⟨s.heap, s.toks, m₀, s.gens, c₀, 0, rfl, hbare, G, hog, F, N, rfl, hk, h0, Nat.zero_le _, rfl⟩
  rintro k s' ⟨h', tk, m', gs, c, i, rfl, hbare', G', hog', F', N', hadr, hps, hI, hi, rfl⟩
  by_cases hlt : i < n
  · obtain ⟨d, hd⟩ : ∃ d, n - i = d + 1 := ⟨n - i - 1, by omega⟩
    rw [hd] at G'
    refine G'.next hh (hlim.keeps F'.keep) hroom (hgen _ hog') F'.keep fun h₁ tk₁ gens₁ tkv hk₁ hb₁ G₁ => ?_
    have offc : ∀ p ∈ Led c, p.1 < S₀ ∧ p.1 ≠ Lg ∧ p.1 ∉ ex ∧ p.1 ≠ ag := by
      intro p hpm
      have h1 : p.1 ∈ (Led c).map (·.1) := List.mem_map.mpr ⟨p, hpm, rfl⟩
      rw [hadr] at h1
      obtain ⟨q, hq, hq2⟩ := List.mem_map.mp h1
      exact hq2 ▸ hoff q hq
    have F₁ : Fr h₀ env.locals h₁ m' := ⟨F'.ns.at' fun o e => hk₁ _ o hLS hLLg e, fun b o e => hk₁ b o (Nat.lt_of_lt_of_le (Heap.lt_size e) hS2) (Nat.ne_of_lt (Nat.lt_of_lt_of_le (Heap.lt_size e) hS)) (F'.keep b o e), F'.above⟩
    have N₁ : News h₀ env.locals h₁ (Led c) := fun p hp => ⟨hk₁ _ _ (offc p hp).1 (offc p hp).2.1 (N' p hp).1, (N' p hp).2⟩
    have hog₁ : h₁.get? ag = some og := hk₁ _ _ hag2 hag3 hog'
    refine wpAny_assign_Name (wpAny_storeName_local hx F₁.ns (fun h₂ hn₂ hs₂ => ?_) hp)
    have F₂ := F₁.set hn₂ hs₂
    have em : (fun y => if y = x then some (Value.int size tkv) else m' y) = fun y => if y = x then some (Value.int size tkv) else kstB m' (ps c) y := by rw [kstB_id hps]
    rw [em] at F₂
    obtain ⟨gs', led, hgs', NG, hled, hgo⟩ := G₁
    have Nown : News h₀ env.locals h₂ ((ag, og) :: led) := by
      refine News.set (h := h₁) (fun p hp => ?_) hs₂
      rcases List.mem_cons.mp hp with rfl | hp
      · exact ⟨hog₁, hagL, hag⟩
      · exact NG p hp
    have hoffw : OwnOff ((ag, og) :: led) ((Led c₀).map (·.1)) := by
      intro p hp b hb e
      obtain ⟨q, hq, rfl⟩ := List.mem_map.mp hb
      have ho := hoff q hq
      rcases List.mem_cons.mp hp with rfl | hp
      · exact ho.2.2.2 e.symm
      · rcases hled p hp with h | h | h
        · exact ho.2.1 (e ▸ h)
        · exact ho.2.2.1 (e ▸ h)
        · exact absurd ho.1 (by rw [← e]; exact Nat.not_lt.mpr h)
    refine wpAny_mono (wpAny_passesOwn hE (turn i tkv c m' gens₁ h₂ _ ((ag, og) :: led) hlt (hb₁ hbare') hoffw hadr hI F₂ ((N₁.set hs₂).append Nown))) (fun f s₃ h₃ => ?_) fun _ _ e => e
    have fin : ∀ s₃, StepM h₀ env.locals Led ps (fun c gs' => gs' = gens₁ ∧ Inv (i + 1) c) ((ag, og) :: led) ((Led c₀).map (·.1)) { s with heap := h₂, toks := tk₁ + 1, gens := gens₁ } Q .next s₃ → ∃ m, m < n + 1 - i ∧ ∃ h' tk m' gs c i, s₃ = { s with heap := h', toks := tk, gens := gs } ∧ AllBare gs ∧ GenAtM prog w A h₀ env.locals Lg ex S₀ size g (n - i) s₃ ∧ h'.get? ag = some og ∧ Fr h₀ env.locals h' m' ∧ News h₀ env.locals h' (Led c) ∧ (Led c).map (·.1) = (Led c₀).map (·.1) ∧ (∀ p ∈ ps c, m' p.1 = some p.2) ∧ Inv i c ∧ i ≤ n ∧ m = n + 1 - i := by
      rintro s₃ ⟨c₃, h₃', tk₃, m₃, gs₃, rfl, F₃, N₃, ha₃, hp₃, rfl, hI₃⟩
      have e : n - (i + 1) = d := by omega
      refine ⟨n + 1 - (i + 1), by omega, h₃', tk₃, m₃, gs₃, c₃, i + 1, rfl, hb₁ hbare', ?_, (N₃ _ (List.mem_append_right _ (List.mem_cons_self ..))).1, F₃, fun p hp => N₃ p (List.mem_append_left _ hp), ha₃, hp₃, hI₃, hlt, rfl⟩
      rw [e]
      exact ⟨gs', led, hgs', fun p hp => N₃ p (List.mem_append_right _ (List.mem_cons_of_mem _ hp)), hled, hgo⟩
    cases f with
    | ret v => exact h₃
    | brk => exact h₃
    | cont => exact fin _ h₃
    | next => exact fin _ h₃
  · have hin : i = n := by omega
    subst hin
    exact (hn c hI).elim
end

/-- all that stands below S₀ and is not the base's: the caller's objects -/
def restOf (h₀ : Heap) (Lg S₀ : Addr) (h : Heap) : List (Addr × Obj) := (List.range S₀).filterMap fun b => if b = Lg ∨ (h₀.get? b).isSome = true then none else (h.get? b).map fun o => (b, o)
theorem mem_restOf {h₀ h : Heap} {Lg S₀ b : Addr} {o : Obj} : (b, o) ∈ restOf h₀ Lg S₀ h ↔ b < S₀ ∧ b ≠ Lg ∧ h₀.get? b = none ∧ h.get? b = some o := by
  unfold restOf
  rw [List.mem_filterMap]
  constructor
  · rintro ⟨c, hc, e⟩
    split at e
    · cases e
    · rename_i hn
      rw [not_or] at hn
      cases ho : h.get? c with
      | none => rw [ho] at e; cases e
      | some o' =>
        rw [ho] at e
        cases e
        exact ⟨List.mem_range.mp hc, hn.1, by simpa using hn.2, ho⟩
  · rintro ⟨h1, h2, h3, h4⟩
    refine ⟨b, List.mem_range.mpr h1, ?_⟩
    rw [if_neg (by rw [not_or]; exact ⟨h2, by simp [h3]⟩), h4]
    rfl
theorem rest_news {h₀ h : Heap} {Lg S₀ : Addr} : News h₀ Lg h (restOf h₀ Lg S₀ h) := fun p hp => by
  obtain ⟨_, h2, h3, h4⟩ := mem_restOf.mp hp
  exact ⟨h4, h2, h3⟩
theorem rest_keep {h₀ h h' : Heap} {Lg S₀ : Addr} {m : Str → Option Value} {news : List (Addr × Obj)} (F : Fr h₀ Lg h' m) (N : News h₀ Lg h' news) (hsub : ∀ p ∈ restOf h₀ Lg S₀ h, p ∈ news) (hb : ∀ b o, h₀.get? b = some o → h.get? b = some o) :
    ∀ b o, b < S₀ → b ≠ Lg → h.get? b = some o → h'.get? b = some o := by
  intro b o h1 h2 e
  cases hn : h₀.get? b with
  | some o' =>
    have := hb b o' hn
    rw [e] at this
    cases this
    exact F.keep b o hn
  | none => exact (N _ (hsub _ (mem_restOf.mpr ⟨h1, h2, hn, e⟩))).1

section
variable {prog : Program} {w : World} {A : Around} {h₀ : Heap} {L Lg S₀ : Addr} {ex : List Addr} {size : Int} {env : Env}

theorem gen_while {x : Str} {px yp pos : Pos} {test : Expr} {fs : List Frame} (hloc : env.locals = Lg) (hkf : env.scope.kind = .function) (hx : env.kindOf x = some .local) (hd : (x == ("__debug__" : Str)) = false) (hco : env.scope.isCoroutine = false) (hint : interactive env = false)
    (hfs : splitAtGen fs = none) (hfg : fs.any Frame.guarded = false) (hS : h₀.objs.size ≤ Lg) (hLLg : Lg ≠ L) (hLg0 : h₀.get? Lg = none)
    (htest : ∀ (A' : Around) (s' : Shared) (Q' : Bool → Shared → Prop) (E' : Value → Shared → Prop), Q' true s' → wpAny (model prog w) A' (isTrue test env (eval test env)) Q' E' s') :
    ∀ (k : Nat) (s₀ s : Shared) (m : Str → Option Value) (tk : Tok), Fr h₀ Lg s.heap m → m x = some (.int size tk) → (∃ h' tk, s = { s₀ with heap := h', toks := tk } ∧ ∀ b o, b < S₀ → b ≠ Lg → s₀.heap.get? b = some o → h'.get? b = some o) →
      Seg (model prog w) A RG (YG h₀ L Lg ex S₀ size) (k + 1) s₀ (.whileLoop test [.Expr (.Yield (some (.Name x px)) yp) pos] [] env) ((model prog w).den (.whileLoop test [.Expr (.Yield (some (.Name x px)) yp) pos] [] env)) fs s := by
  intro k
  induction k with
  | zero =>
    intro s₀ s m tk F hm hs
    refine seg_whileLoop (htest _ _ _ _ ?_)
    rw [if_pos rfl]
    refine seg_execs_cons (seg_Expr_Yield hfs rfl hfg (wpAny_Name (wpAny_loadName_local hkf hx (hloc ▸ F.ns) hm ?_) hd) hco hint)
    intro kap _
    obtain ⟨o, es, ep, ho, hrest⟩ := F.ns
    refine ⟨⟨tk, rfl⟩, hs, [(Lg, o)], fun p hp => ?_, fun p hp => ?_, fun h => absurd rfl h⟩
    · rw [List.mem_singleton.mp hp]; exact ⟨ho, hLLg, hLg0⟩
    · rw [List.mem_singleton.mp hp]; exact .inl rfl
  | succ k ih =>
    intro s₀ s m tk F hm hs
    refine seg_whileLoop (htest _ _ _ _ ?_)
    rw [if_pos rfl]
    refine seg_execs_cons (seg_Expr_Yield hfs rfl hfg (wpAny_Name (wpAny_loadName_local hkf hx (hloc ▸ F.ns) hm ?_) hd) hco hint)
    intro kap hkap
    obtain ⟨o, es, ep, ho, hrest⟩ := F.ns
    refine ⟨⟨tk, rfl⟩, hs, [(Lg, o)], fun p hp => ?_, fun p hp => ?_, fun _ s'' hb hled => hkap .none s'' ?_⟩
    · rw [List.mem_singleton.mp hp]; exact ⟨ho, hLLg, hLg0⟩
    · rw [List.mem_singleton.mp hp]; exact .inl rfl
    · dsimp only
      refine seg_execs_nil (K := fun f => match f with | .next | .cont => .pure (.again (.whileLoop test [.Expr (.Yield (some (.Name x px)) yp) pos] [] env)) | .brk => .pure (.done .next) | .ret v => .pure (.done (.ret v))) ?_
      refine seg_again rfl (ih s'' s'' m tk ⟨⟨o, es, ep, hled _ (.head _), hrest⟩, hb, hS⟩ hm ⟨s''.heap, s''.toks, rfl, fun _ _ _ _ e => e⟩)
end

theorem listIter_new {h : Heap} {l : Addr} : (h.push { cls := .type "list_iterator", data := .fields #[.ref l, .int 0 0] }).IsListIter h.objs.size l 0 := ⟨_, Heap.get?_push_size _ rfl, rfl, rfl⟩
theorem gen_after {h₀ h h' : Heap} {Lg I : Addr} {m : Str → Option Value} {news : List (Addr × Obj)} (F : Fr h₀ Lg h m) (N : News h₀ Lg h news) (hs : Heap.SameBut I h h') (hI : I ≠ Lg) (hI0 : h₀.get? I = none) (hoff : ∀ p ∈ news, p.1 ≠ I) :
    Fr h₀ Lg h' m ∧ News h₀ Lg h' news := ⟨F.change hs hI hI0, fun p hp => ⟨(hs.2 p.1 (hoff p hp)).trans (N p hp).1, (N p hp).2⟩⟩
end Mine
end

theorem Mine.top_T6 : True := by
  w_top off
  exact True.intro

section
open PySem PySem.W PyProof.Rows
namespace Mine
set_option maxRecDepth 100000
set_option maxHeartbeats 8000000

theorem gen_tell (w : World) (mean : ExcName → Option Value) (mg mb : Str → Option Value) (size : Int) (t0 t1 : Tok) (hs1 : size ≠ 127) (hs0 : size ≠ 0) : ∀
    (dp un : Nat) (gd : Option (List Code)) (cn : Str) (cs : Scope) (a : Addr) (ccd : Value) (cl : List (Str × Addr)) (outer : List Env) (A₀ : Around) (base h₀ : Heap) (L : Addr) (m : Str → Option Value) (news : List (Addr × Obj)) (s : Shared) (Q E : Value → Shared → Prop) (al : Addr) (nn n : Nat)
    (B : Below A₀ base outer h₀) (F : Fr h₀ L s.heap m) (X : Frag.In (hd.heap_39 w.params) h₀) (N : News h₀ L s.heap news) (T : Top hd.view_39 (looseW hd.view_39 [Str.ofString "EXACT_TOKEN_TYPES"]) mean mg mb h₀)
    (hal : (al, listOf [.int size t0, .int 0 t1].toArray nn) ∈ news) (hdp : dp + 2 < recursionLimit)
    (hret : ∀ ag Lg S₀ h' tk gens' g, Fr h₀ L h' m → News h₀ L h' news → h'.IsGen ag g → h₀.get? ag = none → ag < S₀ → ag ≠ Lg → ag ≠ L → L < S₀ → L ≠ Lg → h₀.objs.size ≤ Lg → h₀.objs.size ≤ S₀ → (∀ p ∈ news, p.1 < S₀ ∧ p.1 ≠ Lg ∧ p.1 ≠ ag) → (AllBare s.gens → AllBare gens') →
      GenAtM (PySem.Challenge.rw_ti0013_01.row.prog) w (ktrTop dp un gd cn cs L a ccd cl outer) h₀ L Lg [al, ag] S₀ size g n { s with heap := h', toks := tk, gens := gens' } → Q (.ref ag) { s with heap := h', toks := tk, gens := gens' }),
    wpAny (model PySem.Challenge.rw_ti0013_01.row.prog w) (ktrTop dp un gd cn cs L a ccd cl outer) (call (.ref 28) [.ref al]) Q E s := by
  k_fill
  intro dp un gd cn cs a ccd cl outer A₀ base h₀ L m news s Q E al nn n B F X N T hal hdp hret
  k_dflt (refine' call_gen F X N (T.nolimit) ?ho ?hcd ?hroom ?hbind ?hloc ?hcell ?hco ?hgen ?hk ?_; (case ho => k_is); (case hcd => k_is); (case hroom => ktr_room); (case hbind => exact rfl); (case hloc => exact locs rfl); (case hcell => decide); (case hco => exact rfl); (case hgen => exact rfl); (case hk => exact rfl); k_whole)
  intro h' tk hsz F' FG N' hgen hk
  have hlt : ∀ p ∈ news, @LT.lt Nat _ p.1 s.heap.objs.size := fun p hp => Heap.lt_size (N p hp).1
  have hL : @LT.lt Nat _ L s.heap.objs.size := F.ns.lt
  have hh₀ : h₀.objs.size ≤ s.heap.objs.size := Nat.le_trans F.above (Nat.le_of_lt hL)
  have hnone : ∀ b, s.heap.objs.size ≤ b → h₀.get? b = none := fun b hb => by
    cases e : h₀.get? b with
    | none => rfl
    | some o => exact absurd (Heap.lt_size e) (Nat.not_lt.mpr (Nat.le_trans hh₀ hb))
  refine hret (s.heap.objs.size + 1) s.heap.objs.size (s.heap.objs.size + 2) h' tk _ s.gens.size F' N' hgen (hnone _ (Nat.le_succ _)) (Nat.lt_succ_self _) (Nat.succ_ne_self _) (by refine neN ?_; omega) (by refine ltN ?_; omega) (by refine neN ?_; omega) hh₀ (Nat.le_trans hh₀ (Nat.le_add_right _ 2))
    (fun p hp => by have := hlt p hp; exact ⟨by refine ltN ?_; omega, by refine neN ?_; omega, by refine neN ?_; omega⟩) (fun ha => ha.push rfl) ?_
  generalize s.heap.objs.size = Lg at *
  obtain ⟨od, es, ep, hod, hrest⟩ := FG.ns
  obtain ⟨og, nm, qn, hog, hogr⟩ := hgen
  refine ⟨_, [(Lg, od), (al, listOf [.int size t0, .int 0 t1].toArray nn), (Lg + 1, og)], Array.getElem?_push_size .., ?_, ?_, ?_⟩
  · intro p hp
    simp only [List.mem_cons, List.not_mem_nil, or_false] at hp
    rcases hp with rfl | rfl | rfl
    · exact ⟨hod, by refine neN ?_; omega, hnone _ (Nat.le_refl _)⟩
    · exact N' _ hal
    · exact ⟨hog, by refine neN ?_; omega, hnone _ (Nat.le_succ _)⟩
  · intro p hp
    simp only [List.mem_cons, List.not_mem_nil, or_false] at hp
    rcases hp with rfl | rfl | rfl
    · exact .inl rfl
    · exact .inr (.inl (.head _))
    · exact .inr (.inl (.tail _ (.head _)))
  intro hn s'' hb hled
  refine ⟨rfl, ?_⟩
  obtain ⟨k, rfl⟩ : ∃ k, n = k + 1 := ⟨n - 1, by omega⟩
  have hs9 : @LT.lt Nat _ (Lg + 1) s''.heap.objs.size := Heap.lt_size (hled _ (.tail _ (.tail _ (.head _))))
  have FG2 : Fr h₀ Lg s''.heap _ := ⟨⟨od, es, ep, hled _ (.head _), hrest⟩, hb, hh₀⟩
  have hall : Lg ≠ al := by have := hlt _ hal; dsimp only at this; refine neN ?_; omega
  have Nal : News h₀ Lg s''.heap ((al, listOf [.int size t0, .int 0 t1].toArray nn) :: (Lg + 1, og) :: restOf h₀ Lg (Lg + 2) s''.heap) := by
    intro p hp
    rcases List.mem_cons.mp hp with rfl | hp
    · exact ⟨hled _ (.tail _ (.head _)), hall.symm, (N' _ hal).2.2⟩
    rcases List.mem_cons.mp hp with rfl | hp
    · exact ⟨hled _ (.tail _ (.tail _ (.head _))), Nat.succ_ne_self _, hnone _ (Nat.le_succ _)⟩
    · exact rest_news p hp
  have hal0 := (N' _ hal).2
  have hLLg : Lg ≠ L := by refine neN ?_; omega
  clear FG F' N' hret hk F N hogr
  refine seg_func ?_
  refine seg_execs_cons (seg_plain ?_)
  k_steps
  dsimp only
  refine seg_execs_cons (seg_For (fun _ => rfl) ?_)
  k_steps
  refine Pause.mk ?_
  rename Fr _ _ _ _ => lF
  rename News _ _ _ _ => lN
  rename Heap => h1
  refine wpAny_pyIter_list (News.isList lN (.head _)) ?_
  intro p
  dsimp only
  refine seg_forLoop ?_
  have hIlt : ∀ q ∈ (al, listOf [.int size t0, .int 0 t1].toArray nn) :: (Lg + 1, og) :: restOf h₀ Lg (Lg + 2) s''.heap, @LT.lt Nat _ q.1 h1.objs.size := fun q hq => Heap.lt_size (lN q hq).1
  have hIge : @LE.le Nat _ (Lg + 2) h1.objs.size := hIlt _ (.tail _ (.head _))
  have hIne : h1.objs.size ≠ Lg := Nat.ne_of_gt (Nat.lt_of_lt_of_le (Nat.lt_add_right 1 (Nat.lt_succ_self Lg)) hIge)
  have hI0 := hnone h1.objs.size (Nat.le_trans (Nat.le_add_right _ 2) hIge)
  have hIL : h1.objs.size ≠ L := by refine neN ?_; omega
  refine wpAny_pyNext_list_item listIter_new (News.isList (fun q hq => ⟨Heap.get?_push_of_some _ (lN q hq).1, (lN q hq).2⟩ : News h₀ Lg _ _) (.head _)) (x := .int size t0) rfl ?_
  intro h2 hit2 hs2
  obtain ⟨F2, N2⟩ := gen_after (lF.push _) (fun q hq => ⟨Heap.get?_push_of_some _ (lN q hq).1, (lN q hq).2⟩) hs2 hIne hI0 (fun q hq => Nat.ne_of_lt (hIlt q hq))
  have hkeep2 := rest_keep (S₀ := Lg + 2) F2 N2 (fun q hq => .tail _ (.tail _ hq)) hb
  generalize hI : h1.objs.size = I at hit2 hs2 hIge hIlt hIne hI0 hIL
  obtain ⟨oi, hoi, hitr⟩ := hit2
  have N3 : News h₀ Lg h2 ((I, oi) :: (al, listOf [.int size t0, .int 0 t1].toArray nn) :: (Lg + 1, og) :: restOf h₀ Lg (Lg + 2) s''.heap) := fun q hq => by
    rcases List.mem_cons.mp hq with rfl | hq
    · exact ⟨hoi, hIne, hI0⟩
    · exact N2 q hq
  clear N2 lF lN
  dsimp only
  k_steps
  refine seg_execs_cons (seg_If ?_)
  k_steps
  · exact absurd (by assumption) hs1
  refine seg_execs_nil (K := fun f => match f with | .next => _ | f => _) ?_
  dsimp only
  refine seg_execs_cons (seg_If ?_)
  k_steps
  · exact absurd (by assumption) hs0
  refine seg_execs_nil (K := fun f => match f with | .next => _ | f => _) ?_
  dsimp only
  refine seg_execs_cons (seg_Expr_Yield rfl rfl rfl ?_)
  k_steps
  rename_i kap hkap
  rename Fr _ _ _ _ => F4
  rename News _ _ _ _ => N4
  obtain ⟨o4, es4, ep4, ho4, hrest4⟩ := F4.ns
  refine ⟨⟨_, rfl⟩, ⟨_, _, rfl, rest_keep F4 N4 (fun q hq => .tail _ (.tail _ (.tail _ hq))) hb⟩, [(Lg, o4), (al, listOf [.int size t0, .int 0 t1].toArray nn), (I, oi)], ?_, ?_, ?_⟩
  · intro q hq
    simp only [List.mem_cons, List.not_mem_nil, or_false] at hq
    rcases hq with rfl | rfl | rfl
    · exact ⟨ho4, hLLg, hnone _ (Nat.le_refl _)⟩
    · exact ⟨(N4 _ (.tail _ (.head _))).1, hal0⟩
    · exact ⟨(N4 _ (.head _)).1, hIL, hI0⟩
  · intro q hq
    simp only [List.mem_cons, List.not_mem_nil, or_false] at hq
    rcases hq with rfl | rfl | rfl
    · exact .inl rfl
    · exact .inr (.inl (.head _))
    · exact .inr (.inr hIge)
  intro hk0 s3 hb3 hled3
  refine hkap .none s3 ?_
  dsimp only
  obtain ⟨j, rfl⟩ : ∃ j, k = j + 1 := ⟨k - 1, by omega⟩
  have F5 : Fr h₀ Lg s3.heap _ := ⟨⟨o4, es4, ep4, hled3 _ (.head _), hrest4⟩, hb3, hh₀⟩
  have N5 : News h₀ Lg s3.heap ((I, oi) :: (al, listOf [.int size t0, .int 0 t1].toArray nn) :: restOf h₀ Lg (Lg + 2) s3.heap) := fun q hq => by
    rcases List.mem_cons.mp hq with rfl | hq
    · exact ⟨hled3 _ (.tail _ (.tail _ (.head _))), hIne, hI0⟩
    rcases List.mem_cons.mp hq with rfl | hq
    · exact ⟨hled3 _ (.tail _ (.head _)), hall.symm, hal0.2⟩
    · exact rest_news q hq
  clear N4 F4 hkap
  refine seg_execs_cons (seg_plain ?_)
  k_steps
  dsimp only
  refine seg_execs_nil (K := fun f => match f with | .next => _ | .cont => _ | .brk => _ | .ret v => _) ?_
  dsimp only
  rename Fr _ _ _ _ => F6
  rename News _ _ _ _ => N6
  rename Heap => h6
  refine seg_again rfl (seg_forLoop ?_)
  refine wpAny_pyNext_list_item ⟨oi, (N6 _ (.head _)).1, hitr⟩ (News.isList N6 (.tail _ (.head _))) (x := .int 0 t1) rfl ?_
  intro h7 hit7 hs7
  have hIlt6 : ∀ q ∈ (al, listOf [.int size t0, .int 0 t1].toArray nn) :: restOf h₀ Lg (Lg + 2) s3.heap, q.1 ≠ I := by
    intro q hq
    rcases List.mem_cons.mp hq with rfl | hq
    · exact Nat.ne_of_lt (hIlt _ (.head _))
    · exact Nat.ne_of_lt (Nat.lt_of_lt_of_le (mem_restOf.mp hq).1 hIge)
  obtain ⟨F7, N7⟩ := gen_after F6 (newsSub N6 fun q hq => .tail _ hq) hs7 hIne hI0 hIlt6
  clear F6 N6
  dsimp only
  k_steps
  refine seg_execs_cons (seg_If ?_)
  k_steps
  refine seg_execs_nil (K := fun f => match f with | .next => _ | f => _) ?_
  dsimp only
  refine seg_execs_cons (seg_If ?_)
  k_steps
  refine seg_execs_cons (seg_If ?_)
  k_steps
  refine seg_execs_nil (K := fun f => match f with | .next => _ | f => _) ?_
  dsimp only
  refine seg_execs_cons (seg_While ?_)
  intro p2
  rename Fr _ _ _ _ => F8
  rename News _ _ _ _ => N8
  refine gen_while (L := L) (S₀ := Lg + 2) (ex := [al, Lg + 1]) rfl rfl rfl (by decide) rfl rfl rfl rfl hh₀ hLLg (hnone _ (Nat.le_refl _)) ?_ j s3 _ _ _ F8 rfl ⟨_, _, rfl, rest_keep F8 N8 (fun q hq => .tail _ hq) hb3⟩
  intro A' s' Q' E' hq
  k_steps
  exact hq
end Mine
end

theorem Mine.top_Turns : True := by
  w_top off
  exact True.intro

section
open PySem PySem.W PyProof.Rows PySem.Builtin PySem.Builtin.Str PySem.StrLaws
namespace Mine
set_option maxRecDepth 100000
set_option maxHeartbeats 1000000

theorem tilde_list : tilde.cps.toList = [126] := by decide +kernel
theorem tilde_len : tilde.length = 1 := by decide +kernel
theorem pieceS_list (x : Str) (size i : Nat) : (pieceS x size i).cps.toList = 126 :: (x.cps.toList.drop (i * size)).take size := by
  unfold pieceS
  rw [Str.cps_append, Array.toList_append, tilde_list, midS_list, Nat.add_sub_cancel_left]; rfl
theorem pieceS_len_le (x : Str) (size i : Nat) : (pieceS x size i).length ≤ 1 + x.length := by
  rw [len_list, pieceS_list, List.length_cons, List.length_take, List.length_drop, ← len_list]; omega
theorem pieces_weight (x : Str) (size : Nat) : ∀ k, ((piecesTo x size k).map (·.length)).sum ≤ k * (1 + x.length)
  | 0 => by simp [piecesTo]
  | k + 1 => by
    rw [piecesTo_succ, List.map_append, List.sum_append, Nat.succ_mul]
    have h1 := pieces_weight x size k
    have h2 := pieceS_len_le x size k
    simp only [List.map_cons, List.map_nil, List.sum_cons, List.sum_nil]
    omega
theorem pieces_len (x : Str) (size k : Nat) : (piecesTo x size k).length = k := by simp [piecesTo]
theorem pieces_free {x : Str} {size k : Nat} (h : 46 ∉ x.cps.toList) : ∀ p ∈ piecesTo x size k, 46 ∉ p.cps.toList := by
  intro p hp
  obtain ⟨i, _, rfl⟩ := List.mem_map.mp hp
  rw [pieceS_list]
  intro hm
  rcases List.mem_cons.mp hm with e | hm
  · cases e
  · exact h (List.mem_of_mem_drop (List.mem_of_mem_take hm))
theorem join_pieces_len {x : Str} {size k : Nat} (hk : k ≤ 51) (hx : x.length ≤ 50) : (Txt.join dots (piecesTo x size k)).length ≤ 3000 := by
  have h1 := join_length_le dots (piecesTo x size k)
  have h2 := pieces_weight x size k
  have e : Txt.join dots (piecesTo x size k) = Str.join dots (piecesTo x size k) := glued_eq_join _ _
  rw [e]
  rw [pieces_len, dots_len] at h1
  have h3 : k * (1 + x.length) ≤ 51 * 51 := Nat.mul_le_mul hk (by omega)
  omega
theorem pieces_joinOk {x : Str} {size k : Nat} (hk : k ≤ 51) (hx : x.length ≤ 50) : JoinOk dots (piecesTo x size k) = true := by
  have h2 := pieces_weight x size k
  have h3 : k * (1 + x.length) ≤ 51 * 51 := Nat.mul_le_mul hk (by omega)
  refine joinOk_of_weight ?_ (by rw [dots_len]; omega)
  rw [pieces_len]; omega

theorem join_snoc (parts : List Str) (h : parts ≠ []) : Str.join dots parts ++ dots = Str.join dots (parts ++ [Str.empty]) := by
  induction parts with
  | nil => exact absurd rfl h
  | cons p r ih =>
    cases r with
    | nil =>
      show p ++ dots = p ++ dots ++ Str.empty
      apply Str.ext'
      apply Array.toList_inj.mp
      rw [Str.cps_append, Str.cps_append, Str.cps_append, Array.toList_append, Array.toList_append, Array.toList_append]
      simp [Str.empty]
    | cons q r =>
      have := ih (by simp)
      show p ++ dots ++ Str.join dots (q :: r) ++ dots = p ++ dots ++ Str.join dots (q :: (r ++ [Str.empty]))
      rw [show (q :: (r ++ [Str.empty])) = (q :: r) ++ [Str.empty] from rfl, ← this, Str.append_assoc]

def restS (x : Str) (size i : Nat) : List Str := (List.range i).map fun j => pieceS x size (j + 1)
theorem pieces_head (x : Str) (size i : Nat) : piecesTo x size (i + 1) = pieceS x size 0 :: restS x size i := by
  unfold piecesTo restS
  rw [List.range_succ_eq_map, List.map_cons, List.map_map]; rfl

theorem split_pieces {x : Str} {size i : Nat} (h : 46 ∉ x.cps.toList) : Txt.split (Txt.join dots (piecesTo x size (i + 1)) ++ dots) dots = pieceS x size 0 :: (restS x size i ++ [Str.empty]) := by
  have e : Txt.join dots (piecesTo x size (i + 1)) = Str.join dots (piecesTo x size (i + 1)) := glued_eq_join _ _
  rw [e, join_snoc _ (by rw [pieces_head]; simp), split_join, pieces_head]; rfl
  · rw [List.length_append, pieces_len]; simp
  · intro p hp
    rcases List.mem_append.mp hp with hp | hp
    · exact pieces_free h p hp
    · rw [List.mem_singleton.mp hp]; simp [Str.empty]

def unitS (x : Str) (size : Nat) : Str := tilde ++ preS x size
theorem unit_piece (x : Str) (size : Nat) : pieceS x size 0 = unitS x size := by
  unfold pieceS unitS
  rw [Nat.zero_mul, Nat.zero_add]; rfl
theorem unit_len {x : Str} {size : Nat} (h : size ≤ x.length) : (unitS x size).length = 1 + size := by
  unfold unitS
  rw [Str.length_append, tilde_len, preS_len x h]

/-- X is what stands size places behind -/
def perL (X : List Nat) (size : Nat) : Bool := (List.range (X.length - size)).all fun i => X.getD (size + i) 0 == X.getD i 0

def gotS (x : Str) (size i : Nat) : Str := Txt.mul (unitS x size) ((i + 1 : Nat) : Int)
theorem foldl_reps (a : Array Nat) : ∀ (k : Nat) (acc : Array Nat), ((List.replicate k a).foldl (· ++ ·) acc).toList = acc.toList ++ (List.replicate k a.toList).flatten
  | 0, acc => by simp
  | k + 1, acc => by
    rw [List.replicate_succ, List.foldl_cons, foldl_reps a k, List.replicate_succ, List.flatten_cons, Array.toList_append, List.append_assoc]
theorem got_list (x : Str) {size i : Nat} (hs : size ≤ x.length) : (gotS x size i).cps.toList = (List.replicate (i + 1) (unitS x size).cps.toList).flatten := by
  have hu := unit_len hs
  unfold gotS Txt.mul
  rw [if_neg (by omega)]
  split
  · rename_i h
    have h1 : i = 0 := by
      rcases Bool.or_eq_true_iff.mp h with h | h
      · have := eq_of_beq h; omega
      · have := eq_of_beq h; omega
    subst h1
    simp
  · show ((List.replicate ((i + 1 : Nat) : Int).toNat (unitS x size).cps).foldl (· ++ ·) #[]).toList = _
    rw [foldl_reps, Int.toNat_natCast]; rfl
theorem reps_len (U : List Nat) : ∀ k, (List.replicate k U).flatten.length = k * U.length
  | 0 => by simp
  | k + 1 => by rw [List.replicate_succ, List.flatten_cons, List.length_append, reps_len U k, Nat.succ_mul]; omega
theorem got_len {x : Str} {size i : Nat} (h : size ≤ x.length) : (gotS x size i).length = (i + 1) * (1 + size) := by
  rw [len_list, got_list x h, reps_len, ← len_list, unit_len h]
theorem unit_list (x : Str) (size : Nat) : (unitS x size).cps.toList = 126 :: x.cps.toList.take size := by
  rw [← unit_piece, pieceS_list, Nat.zero_mul, List.drop_zero]
theorem got_starts {x : Str} {size i : Nat} (h : size ≤ x.length) : Txt.startswith (gotS x size i) (pieceS x size 0) = true := by
  rw [unit_piece]
  unfold Txt.startswith
  rw [Bool.and_eq_true]
  refine ⟨?_, ?_⟩
  · rw [got_len h, unit_len h, Nat.zero_add, Nat.succ_mul]; exact decide_eq_true (Nat.le_add_left _ _)
  · rw [subAt_eq, got_list x h, List.replicate_succ, List.flatten_cons, List.drop_zero, len_list, List.take_left' rfl]
    exact beq_self_eq_true _

theorem reps_drop (U : List Nat) : ∀ (k j : Nat), j ≤ k → (List.replicate k U).flatten.drop (j * U.length) = (List.replicate (k - j) U).flatten
  | k, 0, _ => by simp
  | 0, j + 1, h => absurd h (Nat.not_succ_le_zero _)
  | k + 1, j + 1, h => by
    rw [List.replicate_succ, List.flatten_cons, Nat.succ_mul, Nat.add_comm, ← List.drop_drop, List.drop_left' rfl, reps_drop U k j (Nat.le_of_succ_le_succ h), Nat.add_sub_add_right]
theorem reps_mark {P : List Nat} (hP : 126 ∉ P) : ∀ (k c : Nat), (List.replicate k (126 :: P)).flatten[c]? = some 126 → ∃ j, j < k ∧ c = j * (126 :: P).length
  | 0, c, h => by simp at h
  | k + 1, c, h => by
    rw [List.replicate_succ, List.flatten_cons] at h
    by_cases hc : c < (126 :: P).length
    · rw [List.getElem?_append_left hc] at h
      match c, h with
      | 0, _ => exact ⟨0, Nat.succ_pos _, by simp⟩
      | c + 1, h =>
        rw [List.getElem?_cons_succ] at h
        exact absurd (List.mem_of_getElem? h) hP
    · rw [List.getElem?_append_right (Nat.le_of_not_lt hc)] at h
      obtain ⟨j, hj, e⟩ := reps_mark hP k _ h
      refine ⟨j + 1, Nat.succ_lt_succ hj, ?_⟩
      rw [Nat.succ_mul]; omega

theorem find4_hi (g y : Str) (lo : Nat) : find4 g y (lo : Int) (g.length : Int) = match occurrences g y lo g.length 1 with | k :: _ => (k : Int) | [] => -1 := by
  unfold find4
  have e1 : fromIndex g.length (lo : Int) = lo := by unfold fromIndex; have : ¬ ((lo : Int) < 0) := by omega
                                                     simp only [this, if_false]; omega
  have e2 : fromIndex g.length (g.length : Int) = g.length := by unfold fromIndex; have : ¬ ((g.length : Int) < 0) := by omega
                                                                 simp only [this, if_false]; omega
  rw [e1, e2, Nat.min_self]
  all_goals (cases occurrences g y lo g.length 1 <;> rfl)
theorem find4_here {g y : Str} {lo : Nat} (h : At g y g.length lo) : find4 g y (lo : Int) (g.length : Int) = lo := by
  rw [find4_hi]
  rcases occ_head_from g y lo 1 (Nat.le_refl 1) with ⟨_, hn⟩ | ⟨i, r, e, hlo, _, hn⟩
  · exact absurd h (hn lo (Nat.le_refl _))
  · rw [e]
    have : i = lo := by
      rcases Nat.lt_or_ge lo i with h' | h'
      · exact absurd h (hn lo (Nat.le_refl _) h')
      · omega
    rw [this]
theorem find4_never {g y : Str} {lo : Nat} (h : ∀ c, lo ≤ c → ¬ At g y g.length c) : find4 g y (lo : Int) (g.length : Int) = -1 := by
  rw [find4_hi]
  rcases occ_head_from g y lo 1 (Nat.le_refl 1) with ⟨e, _⟩ | ⟨i, r, e, hlo, ha, hn⟩
  · rw [e]
  · exact absurd ha (h i hlo)

theorem at_list {g y : Str} {c : Nat} : At g y g.length c ↔ c + y.cps.toList.length ≤ g.cps.toList.length ∧ (g.cps.toList.drop c).take y.cps.toList.length = y.cps.toList := by
  unfold At
  rw [subAt_eq, ← len_list, ← len_list, beq_iff_eq]

/-- where a piece is found among the marks -/
theorem find4_piece {g y : Str} {P b : List Nat} {k j : Nat} (hg : g.cps.toList = (List.replicate k (126 :: P)).flatten) (hy : y.cps.toList = 126 :: b) (hb : b.length ≤ P.length) (hP : 126 ∉ P) (hj : j < k) :
    find4 g y ((j * (P.length + 1) : Nat) : Int) (g.length : Int) = if P.take b.length = b then ((j * (P.length + 1) : Nat) : Int) else -1 := by
  have hw : (126 :: P).length = P.length + 1 := rfl
  have hat : ∀ q, q < k → (g.cps.toList.drop (q * (P.length + 1))).take (b.length + 1) = 126 :: P.take b.length := by
    intro q hq
    rw [hg, ← hw, reps_drop _ _ _ (Nat.le_of_lt hq)]
    obtain ⟨d, hd⟩ : ∃ d, k - q = d + 1 := ⟨k - q - 1, by omega⟩
    rw [hd, List.replicate_succ, List.flatten_cons, List.cons_append, List.take_succ_cons, List.take_append_of_le_length hb]
  have hlen : g.cps.toList.length = k * (P.length + 1) := by rw [hg, reps_len]; rfl
  split
  · rename_i h
    refine find4_here (at_list.mpr ⟨?_, ?_⟩)
    · rw [hlen, hy, List.length_cons]
      have : (j + 1) * (P.length + 1) ≤ k * (P.length + 1) := Nat.mul_le_mul_right _ hj
      rw [Nat.succ_mul] at this
      omega
    · rw [hy, List.length_cons, hat j hj, h]
  · rename_i h
    refine find4_never fun c _ hc => ?_
    obtain ⟨_, h2⟩ := at_list.mp hc
    rw [hy, List.length_cons] at h2
    have h3 : g.cps.toList[c]? = some 126 := by
      have : ((g.cps.toList.drop c).take (b.length + 1))[0]? = some 126 := by rw [h2]; rfl
      rw [List.getElem?_take_of_lt (Nat.succ_pos _), List.getElem?_drop] at this
      simpa using this
    rw [hg] at h3
    obtain ⟨q, hq, rfl⟩ := reps_mark hP k c h3
    rw [hw, hat q hq] at h2
    exact h (List.cons.inj h2).2

theorem find4_empty {g : Str} {st : Nat} (h : st ≤ g.length) : find4 g Str.empty (st : Int) (g.length : Int) = st := by
  refine find4_here (at_list.mpr ⟨?_, ?_⟩)
  · rw [← len_list g]; simpa [Str.empty] using h
  · simp [Str.empty]
theorem findAll_empty {g : Str} {st : Nat} (h : st ≤ g.length) : findAll g [Str.empty] (st : Int) = true := by
  unfold findAll
  rw [find4_empty h, if_neg (by omega)]
  rfl

def bodyL (X : List Nat) (size r : Nat) : List Nat := (X.drop ((r + 1) * size)).take size
theorem findAll_pieces {x : Str} {size i : Nat} (hs1 : 1 ≤ size) (hs : size ≤ x.length) (h1 : i * size < x.length) (h126 : 126 ∉ x.cps.toList) : ∀ (d j : Nat), i - j = d → j ≤ i →
    findAll (gotS x size i) ((restS x size i).drop j ++ [Str.empty]) (((j + 1) * (size + 1) : Nat) : Int) =
      ((List.range i).drop j).all fun r => decide ((x.cps.toList.take size).take (bodyL x.cps.toList size r).length = bodyL x.cps.toList size r) := by
  have hP : 126 ∉ x.cps.toList.take size := fun hm => h126 (List.mem_of_mem_take hm)
  have hPl : (x.cps.toList.take size).length = size := by rw [List.length_take, ← len_list]; omega
  have hgl : (gotS x size i).length = (i + 1) * (size + 1) := by rw [got_len hs, Nat.add_comm 1 size]
  have hg : (gotS x size i).cps.toList = (List.replicate (i + 1) (126 :: x.cps.toList.take size)).flatten := by rw [got_list x hs, unit_list]
  intro d
  induction d with
  | zero =>
    intro j hd hj
    have hji : j = i := by omega
    subst hji
    rw [List.drop_of_length_le (by simp [restS]), List.drop_of_length_le (by simp), List.nil_append, List.all_nil]
    exact findAll_empty (by rw [hgl]; exact Nat.le_refl _)
  | succ d ih =>
    intro j hd hj
    have hlt : j < i := by omega
    have e1 : (restS x size i).drop j = pieceS x size (j + 1) :: (restS x size i).drop (j + 1) := by
      rw [List.drop_eq_getElem_cons (by simpa [restS] using hlt)]
      simp [restS]
    have e2 : (List.range i).drop j = j :: (List.range i).drop (j + 1) := by
      rw [List.drop_eq_getElem_cons (by simpa using hlt)]; simp
    have hy : (pieceS x size (j + 1)).cps.toList = 126 :: bodyL x.cps.toList size j := pieceS_list x size (j + 1)
    have hbl : (bodyL x.cps.toList size j).length ≤ (x.cps.toList.take size).length := by
      rw [hPl]; unfold bodyL; rw [List.length_take]; omega
    have hf := find4_piece hg hy hbl hP (show j + 1 < i + 1 by omega)
    rw [hPl] at hf
    rw [e1, e2, List.cons_append, List.all_cons]
    show (if find4 _ _ _ _ < 0 then false else findAll _ _ _) = _
    rw [hf]
    by_cases hc : (x.cps.toList.take size).take (bodyL x.cps.toList size j).length = bodyL x.cps.toList size j
    · rw [if_pos hc, if_neg (by omega), decide_eq_true hc, Bool.true_and]
      have hyl : (pieceS x size (j + 1)).length = (bodyL x.cps.toList size j).length + 1 := by rw [len_list, hy]; rfl
      rw [hyl]
      by_cases hlast : j + 1 = i
      · rw [List.drop_of_length_le (by simp [restS]; omega), List.drop_of_length_le (by simp; omega), List.nil_append, List.all_nil]
        have e3 : ((((j + 1) * (size + 1) : Nat) : Int) + (((bodyL x.cps.toList size j).length + 1 : Nat) : Int)) = (((j + 1) * (size + 1) + ((bodyL x.cps.toList size j).length + 1) : Nat) : Int) := by omega
        rw [e3]
        refine findAll_empty ?_
        rw [hgl, Nat.succ_mul i, hlast]
        rw [hPl] at hbl
        omega
      · have hfull : (bodyL x.cps.toList size j).length = size := by
          have : (j + 1 + 1) * size ≤ i * size := Nat.mul_le_mul_right _ (by omega)
          rw [Nat.succ_mul] at this
          unfold bodyL
          rw [List.length_take, List.length_drop, ← len_list]
          omega
        have e3 : ((((j + 1) * (size + 1) : Nat) : Int) + (((bodyL x.cps.toList size j).length + 1 : Nat) : Int)) = (((j + 1 + 1) * (size + 1) : Nat) : Int) := by
          rw [hfull, Nat.succ_mul (j + 1)]; omega
        rw [e3]
        exact ih (j + 1) (by omega) hlt
    · rw [if_neg hc, decide_eq_false hc]
      rfl

theorem getD_eq {X : List Nat} {p : Nat} (h : p < X.length) : X[p]? = some (X.getD p 0) := by
  rw [List.getD_eq_getElem?_getD, List.getElem?_eq_getElem h]; rfl
/-- the same by remainders -/
theorem perL_iff {X : List Nat} {s : Nat} (hs1 : 1 ≤ s) : perL X s = true ↔ ∀ p, p < X.length → X.getD p 0 = X.getD (p % s) 0 := by
  unfold perL
  rw [List.all_eq_true]
  constructor
  · intro h p
    induction p using Nat.strongRecOn with
    | ind p ih =>
      intro hp
      by_cases hlt : p < s
      · rw [Nat.mod_eq_of_lt hlt]
      · have h1 := h (p - s) (List.mem_range.mpr (by omega))
        have h2 := eq_of_beq h1
        rw [show s + (p - s) = p by omega] at h2
        have e : p % s = (p - s) % s := Nat.mod_eq_sub_mod (Nat.le_of_not_lt hlt)
        rw [h2, ih (p - s) (by omega) (by omega), e]
  · intro h q hq
    have hq' := List.mem_range.mp hq
    rw [beq_iff_eq, h (s + q) (by omega), h q (by omega), Nat.add_mod_left]

theorem turns_pure {x : Str} {size i : Nat} (hs1 : 1 ≤ size) (hs : size ≤ x.length) (h1 : i * size < x.length) (h2 : x.length ≤ (i + 1) * size) (h126 : 126 ∉ x.cps.toList) :
    findAll (gotS x size i) (restS x size i ++ [Str.empty]) (pieceS x size 0).length = perL x.cps.toList size := by
  have h := findAll_pieces hs1 hs h1 h126 i 0 (Nat.sub_zero _) (Nat.zero_le _)
  rw [List.drop_zero, List.drop_zero, Nat.zero_add, Nat.one_mul] at h
  rw [unit_piece, unit_len hs, Nat.add_comm 1 size, h, Bool.eq_iff_iff, perL_iff hs1, List.all_eq_true]
  rw [len_list] at hs h1 h2
  generalize x.cps.toList = X at *
  have hbl : ∀ r, (bodyL X size r).length = min size (X.length - (r + 1) * size) := fun r => by unfold bodyL; rw [List.length_take, List.length_drop]
  have hbg : ∀ r o, o < (bodyL X size r).length → (bodyL X size r)[o]? = some (X.getD ((r + 1) * size + o) 0) := by
    intro r o ho
    rw [hbl] at ho
    unfold bodyL
    rw [List.getElem?_take_of_lt (by omega), List.getElem?_drop, getD_eq (by omega)]
  have hpg : ∀ o n, o < n → n ≤ size → ((X.take size).take n)[o]? = some (X.getD o 0) := by
    intro o n ho hn
    rw [List.getElem?_take_of_lt ho, List.getElem?_take_of_lt (by omega), getD_eq (by omega)]
  constructor
  · intro hall p hp
    by_cases hlt : p < size
    · rw [Nat.mod_eq_of_lt hlt]
    · have hdm := Nat.div_add_mod p size
      have hml := Nat.mod_lt p (show 0 < size by omega)
      have hd1 : 1 ≤ p / size := Nat.div_pos (by omega) (by omega)
      have hdi : p / size < i + 1 := Nat.div_lt_of_lt_mul (by rw [Nat.mul_comm]; omega)
      obtain ⟨r, hr⟩ : ∃ r, p / size = r + 1 := ⟨p / size - 1, by omega⟩
      have h3 := of_decide_eq_true (hall r (List.mem_range.mpr (by omega)))
      have hpr : (r + 1) * size + p % size = p := by rw [← hr, Nat.mul_comm]; exact hdm
      have ho : p % size < (bodyL X size r).length := by rw [hbl]; omega
      have h4 := hbg r _ ho
      rw [← h3, hpg _ _ ho (by rw [hbl]; omega), hpr] at h4
      exact (Option.some.inj h4).symm
  · intro hmod r hr
    refine decide_eq_true ?_
    apply List.ext_getElem?
    intro o
    by_cases ho : o < (bodyL X size r).length
    · have hos : o < size := by rw [hbl] at ho; omega
      have hol : (r + 1) * size + o < X.length := by rw [hbl] at ho; omega
      rw [hbg r o ho, hpg o _ ho (by rw [hbl]; omega), hmod _ hol, Nat.mul_comm, Nat.mul_add_mod, Nat.mod_eq_of_lt hos]
    · rw [List.getElem?_eq_none (by rw [List.length_take]; omega), List.getElem?_eq_none (by omega)]
end Mine
end

theorem Mine.top_T6b : True := by
  w_top off
  exact True.intro

section
open PySem PySem.W PyProof.Rows
namespace Mine
set_option maxRecDepth 100000
set_option maxHeartbeats 8000000

local macro_rules | `(tactic| walk_at "exec For Name Call cons nil") => `(tactic| (k_here; k_dflt (refine For_pause ?_)))
local macro_rules | `(tactic| walk_at "call ref") => `(tactic| first | (((with_reducible show wpAny _ _ (call (Value.ref 28) _) _ _ _); refine pause_here ?_)) | (((with_reducible show wpAny _ _ (call (Value.ref 21) _) _ _ _); refine pause_here ?_)))
local macro_rules | `(tactic| walk_at "binaryOp Mult str int") => `(tactic| (k_here; refine SB.mul (mulOk_of 100 100 (by omega) (by omega) (by omega) (by decide) (by decide)) ?_; intro _ _))
local macro_rules | `(tactic| walk_at "call builtin:str.join") => `(tactic| (k_here; refine pause_here ?_))
local macro_rules | `(tactic| walk_at "call builtin:list.append") => `(tactic| (k_here; k_dflt (refine append_K (by k_asm) (by k_asm) (Upd.head (by assumption)) ?_ (by assumption)); intro h' F' N'; (try dsimp only at F' N' ⊢)))

theorem turns_tell (w : World) (mean mg mb) (x : Str) (size : Nat) (t t2 : Tok) (h1 : x.length ≤ 50) (hs1 : 1 ≤ size) (hs2 : size ≤ x.length) (hd0 : 46 ∉ x.cps.toList) (hd1 : 126 ∉ x.cps.toList) :
    TellG w mean mg mb 4 64 [.str x t, .int (size : Int) t2] (fun v => v = .bool (perL x.cps.toList size)) := by
  unfold TellG
  k_fill
  intro dp un gd cn cs a ccd cl outer A₀ base h₀ L m news s Q E B F X N T hk hbare hd hu hret
  refine wpAny_call ?_
  k_dflt cell_enter
  k_steps
  refine Pause.mk ?_
  rename Fr _ _ _ _ => lF
  rename News _ _ _ _ => lN
  rename (∀ p ∈ news, _ < _) => hltp
  obtain ⟨pl, rfl⟩ := take_of3 lN
  obtain ⟨al, rfl⟩ := take_of lN
  rename (_ ∧ pl < _ ∧ AllLt _ news) => hltal
  refine' gen_tell w mean mg mb (size : Int) _ _ (by omega) (by omega) _ _ _ _ _ _ _ _ _ _ _ _ _ _ _ _ _ _ _ _ 60 ?k1 lF ?k3 lN ?k5 (.head _) ?kd ?_
  case k1 => k_asm
  case k3 => k_asm
  case k5 => k_asm
  case kd => ktr_room
  intro ag Lg S₀ hh1 tkk gens1 g F1 N1 hgen hag0 hag1 hag2 hag3 hLS hLLg hS hS2 hoffn hb1 G1
  refine Pause.mk ?_
  refine wpAny_pyIter_gen hgen ?_
  have hoffp : pl < S₀ ∧ pl ≠ Lg ∧ pl ≠ ag := hoffn _ (.tail _ (.tail _ (.head _)))
  refine loop_genM (σ := Array Value × Nat × Int × Tok) (fun c => (pl, listOf c.1 c.2.1) :: news) (fun c => [(Str.ofString "front", .str x t), (Str.ofString "size", .int (size : Int) t2), (Str.ofString "pieces", .ref pl), (Str.ofString "place", .int c.2.2.1 c.2.2.2)])
    (fun i c => (∃ rl : List (Str × Tok), c.1 = (strValues rl).toArray ∧ rl.map (·.1) = piecesTo x size i) ∧ c.2.2.1 = (i * size : Nat) ∧ i * size < x.length) (#[], 0, 0, ?tok0) (by rfl) (TopRead.nolimit (by k_asm)) (by ktr_room) (by rfl) (by rfl) (by passes_own) G1 hgen hag0 hag1 hag2 hag3 hLS hLLg.symm.symm hS ?hoff (hb1 hbare) hS2 F1 (newsSub N1 fun p hp => .tail _ (.tail _ hp)) ?g1 ?g2 ?g3 ?g4
  case hoff =>
    intro p hp
    have h3 := hoffn p (.tail _ (.tail _ (by rcases List.mem_cons.mp hp with rfl | hp; exact .head _; exact .tail _ hp)))
    have hpal : @LT.lt Nat _ p.1 al := by
      rcases List.mem_cons.mp hp with rfl | hp
      · exact hltal.2.1
      · exact ktn_ltOf hltal.2.2 p hp
    refine ⟨h3.1, h3.2.1, ?_, h3.2.2⟩
    intro hm
    rcases List.mem_cons.mp hm with e | hm
    · exact absurd hpal (by rw [e]; exact Nat.lt_irrefl _)
    · exact h3.2.2 (List.mem_singleton.mp hm)
  case g1 => (repeat (first | exact List.forall_mem_nil _ | refine List.forall_mem_cons.mpr ⟨by rfl, ?_⟩))
  case g2 => exact ⟨⟨[], rfl, rfl⟩, by simp, by omega⟩
  case g3 =>
    rintro c ⟨_, _, h9⟩
    have := Nat.le_mul_of_pos_right 60 hs1
    omega
  case g4 =>
    rintro i tt ⟨its, nn, pv, pt⟩ u gs h tk own hlt hbare2 hoff - ⟨⟨rl, hits, hrl⟩, hpv, hlt2⟩ F₁ N₁
    dsimp only at hits hrl hpv hlt2 F₁ N₁ ⊢
    subst hpv
    simp only [List.cons_append] at N₁
    have hall : ∀ p ∈ news ++ own, p.1 ≠ pl := by
      intro p hp
      rcases List.mem_append.mp hp with hp | hp
      · exact Nat.ne_of_lt (hltp p hp)
      · exact hoff p hp pl (.head _)
    have hlen : rl.length = i := by
      have := congrArg List.length hrl
      simpa [piecesTo] using this
    have hi50 : i ≤ 50 := by
      have := Nat.le_mul_of_pos_right i hs1
      omega
    have hroom : its.size ≤ sizeLine := by rw [hits, sizeLine_eq]; simp [strValues, hlen]; omega
    have es := slice_any x (a := i * size) (b := i * size + size) (i := ((i * size : Nat) : Int)) (j := ((i * size : Nat) : Int) + (size : Int)) rfl (by omega) (by omega) (by omega)
    have hpc : Str.ofString "~" ++ Txt.slice x (some ((i * size : Nat) : Int)) (some (((i * size : Nat) : Int) + (size : Int))) = pieceS x size i := by rw [es]; rfl
    have hss : (i + 1) * size = i * size + size := Nat.succ_mul i size
    have hmap : ∀ tk : Tok, (rl ++ [(pieceS x size i, tk)]).map (fun p : Str × Tok => p.1) = piecesTo x size (i + 1) := fun tk => by rw [List.map_append, hrl, piecesTo_succ]; rfl
    k_steps
    · rename ((x.length : Int) ≤ _) => hcase
      refine Pause.mk ?_
      rename Fr _ _ _ _ => lF
      rename News _ _ _ _ => lN
      rw [hpc, push_strs hits] at lN
      have hok := pieces_joinOk (x := x) (size := size) (k := i + 1) (by omega) h1
      have hjl := join_pieces_len (x := x) (size := size) (k := i + 1) (by omega) h1
      obtain ⟨its2, hits2⟩ := take_arr lN
      rw [← hits2] at lN
      have hsz2 : its2.size = i + 1 := by rw [hits2, List.size_toArray, strValues, List.length_map, List.length_append, hlen]; rfl
      have htl : (Str.ofString "~").length = 1 := tilde_len
      have hdl : (Str.ofString "...").length = 3 := dots_len
      refine SC.join (x := Str.ofString "...") (l := rl ++ [(pieceS x size i, _)]) (texts := piecesTo x size (i + 1)) (by rw [← hits2]; exact News.isList lN (.head _)) (hmap _) hok ?_
      intro tj kj
      have hjl2 : (Txt.join (Str.ofString "...") (piecesTo x size (i + 1))).length ≤ 3000 := hjl
      k_steps
      refine Pause.mk ?_
      have ep := slice_pre' x (b := size) (j := (size : Int)) rfl hs2
      rw [ep]
      have eg : Txt.mul (Str.ofString "~" ++ preS x size) ((i + 1 : Nat) : Int) = gotS x size i := rfl
      rw [eg]
      have hul := unit_len hs2
      have hgl := got_len (i := i) hs2
      have hgl2 : (i + 1) * (1 + size) ≤ 51 * 51 := Nat.mul_le_mul (by omega) (by omega)
      have hgl3 : 1 + size ≤ (i + 1) * (1 + size) := by rw [Nat.succ_mul]; omega
      have hpl := congrArg Str.length (unit_piece x size)
      have hwl : (Txt.join (Str.ofString "...") (piecesTo x size (i + 1)) ++ Str.ofString "...").length ≤ 4000 := by rw [Str.length_append, hdl]; omega
      have hturn := turns_pure hs1 hs2 hlt2 (by omega) hd1
      (k_here; k_dflt (refine' Tell.use (matchB_tell w mean mg mb _ (gotS x size i) (pieceS x size 0) Str.empty (restS x size i) _ _ (by omega) (by omega) (by omega) (by omega) (split_pieces hd0) (by rfl) (got_starts hs2) (by omega)) ?k1 ?k2 ?k3 ?k4 ?k5 ?kK ?kn ?kd ?ku ?kR; (case k1 => first | k_asm | fail "m_call: below"); (case k2 => first | k_asm | fail "m_call: frame"); (case k3 => first | k_asm | fail "m_call: written part"); (case k4 => first | k_asm | fail "m_call: ledger"); (case k5 => first | k_asm | fail "m_call: top"); (case kK => first | exact rfl | assumption | fail "m_call: kind"); (case kn => first | exact True.intro | assumption | k_mem | (dsimp only; first | assumption | k_mem) | fail "m_call: need"); (case kd => first | ktr_room | fail "m_call: room"); (case ku => first | ktr_units | fail "m_call: units"); intro v9 h9 tk9 hv9 F9 N9; (try dsimp only at hv9); subst hv9; (try dsimp only); (try k_fold)))
      rw [hturn]
      (try k_steps)
      dsimp only [StepM]
      k_steps
      rename Fr _ _ _ _ => kF
      rename News _ _ _ _ => kN
      exact hret _ _ _ _ rfl hbare2 kF (newsSub kN fun p hp => .tail _ (List.mem_append_left _ hp))
    · rename (¬ ((x.length : Int) ≤ _)) => hcase
      rename Fr _ _ _ _ => lF
      rename News _ _ _ _ => lN
      rw [hpc, push_strs hits] at lN
      exact StepM.next (_, nn + 1, _, _) lF lN (fun _ x => x) rfl (by (repeat (first | exact List.forall_mem_nil _ | refine List.forall_mem_cons.mpr ⟨by rfl, ?_⟩))) ⟨rfl, ⟨_, rfl, hmap _⟩, by rw [hss]; (try dsimp only); omega, by rw [hss]; (try dsimp only); omega⟩
end Mine
end

theorem Mine.top_Loop2 : True := by
  w_top off
  exact True.intro

section
open PySem PySem.W PyProof.Rows PySem.Spec PySem.Calls
namespace Mine
set_option maxRecDepth 100000
set_option maxHeartbeats 4000000

section
variable {prog : Program} {w : World} {A : Around} {E : Value → Shared → Prop} {s : Shared} {env : Env} {h₀ : Heap} {body : List Stmt} {Q : Flow → Shared → Prop}

/-- a for over the numbered items of a list of the ledger; the ledger is kept -/
theorem loop_enumM {σ : Type} {xi xc : Str} {pk pv pt : Pos} {x1 : Nat} {l : Addr} {its : Array Value} {k : Nat} {m₀ : Str → Option Value} {news : List (Addr × Obj)}
    (ps : σ → List (Str × Value)) (Inv : Nat → σ → Prop) (c₀ : σ)
    (hh : A.handled = none) (hm : (l, listOf its k) ∈ news) (hxi : env.kindOf xi = some .local) (hxc : env.kindOf xc = some .local)
    (hp : (env.scope.kind == .class || (env.scope.kind == .module && env.locals != env.globals)) = false)
    (hE : PassesOwn (model prog w) A env E)
    (F : Fr h₀ env.locals s.heap m₀) (N : News h₀ env.locals s.heap news) (hk : ∀ p ∈ ps c₀, m₀ p.1 = some p.2) (h0 : Inv 0 c₀)
    (turn : ∀ (i : Nat) (t : Tok) (v : Value) c u h tk own, i < its.size → its[i]? = some v → Inv i c → Fr h₀ env.locals h (fun y => if y = xc then some v else if y = xi then some (.int (i : Int) t) else kstB u (ps c) y) → News h₀ env.locals h (news ++ own) →
      wpAny (model prog w) A (execs body env) (StepM h₀ env.locals (fun _ => news) ps (fun c gs => gs = s.gens ∧ Inv (i + 1) c) own (news.map (·.1)) { s with heap := h, toks := tk } Q) E { s with heap := h, toks := tk })
    (done : ∀ c u h tk, Inv its.size c → Fr h₀ env.locals h (kstB u (ps c)) → News h₀ env.locals h news → Q .next { s with heap := h, toks := tk }) :
    wpAny (model prog w) A (call (.type "enumerate") [.ref l]) (fun xv s₁ => Pause (wpAny (model prog w) A (pyIter xv) (fun it s₂ => codeAny (model prog w) A (.forLoop (.Tuple [.Name xi pk, .Name xc pv] x1 pt) it body [] env) (fun r s' => match r with | .ok f => Q f s' | .error e => cameBackBy (model prog w) A env E e s') s₂) E s₁)) E s := by
  have hax := N _ hm
  have hl : s.heap.IsList l its := ⟨_, hax.1, rfl, k, rfl⟩
  have hlt : l < s.heap.objs.size := Heap.lt_size hax.1
  have hLs : env.locals < s.heap.objs.size := F.ns.lt
  have hnone : ∀ b, s.heap.objs.size ≤ b → h₀.get? b = none := by
    intro b hb
    cases e : h₀.get? b with
    | none => rfl
    | some o => exact absurd (Heap.lt_size (F.keep b o e)) (Nat.not_lt.mpr hb)
  refine call_enumerate_list hl fun h' hEn hI hsz hkp => Pause.mk ?_
  refine wpAny_pyIter_enum hEn ?_
  refine codeAny_forLoop_frT (R := fun r s' => match r with | .ok f => Q f s' | .error e => cameBackBy (model prog w) A env E e s')
    hh (WalksT.enumerate hh (s.heap.objs.size + 1) s.heap.objs.size l (Nat.succ_ne_self _) (Nat.ne_of_lt (Nat.lt_succ_of_lt hlt)) (Nat.ne_of_lt hlt) its)
    (P2 := fun i v0 v1 => ∃ t, its[i]? = some v1 ∧ v0 = .int i t) ?_ hxi hxc hp ?_ ?_ ?_ ⟨⟨_, hEn⟩, hI, hl.at fun o x => hkp l o x⟩ (F.keeps hkp) (N.grown hkp)
    (fun i m n => n = news ∧ ∃ c, (∀ p ∈ ps c, m p.1 = some p.2) ∧ Inv i c) ⟨rfl, c₀, hk, h0⟩ ?_ ?_
  · rintro i vals ⟨t, x, hx, rfl⟩
    exact ⟨_, _, rfl, t, hx, rfl⟩
  · intro hc
    rcases List.mem_cons.mp hc with e | hc
    · exact absurd hLs (e ▸ Nat.not_lt.mpr (Nat.le_succ _))
    · rcases List.mem_cons.mp hc with e | hc
      · exact absurd hLs (e ▸ Nat.lt_irrefl _)
      · exact hax.2.1 (List.mem_singleton.mp hc).symm
  · intro b hb
    rcases List.mem_cons.mp hb with e | hb
    · exact hnone _ (e ▸ Nat.le_succ _)
    · rw [List.mem_singleton.mp hb]; exact hnone _ (Nat.le_refl _)
  · intro p hpm hb
    have := Heap.lt_size (N p hpm).1
    rcases List.mem_cons.mp hb with e | hb
    · exact absurd this (e ▸ Nat.not_lt.mpr (Nat.le_succ _))
    · exact absurd this (List.mem_singleton.mp hb ▸ Nat.lt_irrefl _)
  · rintro i v0 v1 m₁ news₁ s₁ own ⟨h, tk, rfl⟩ hi ⟨t, hx, rfl⟩ ⟨rfl, c, hps, hInv⟩ _ hown F₁ N₁
    have N₂ : News h₀ env.locals h (news₁ ++ own) := fun p hp => N₁ p (by rcases List.mem_append.mp hp with h | h; exact List.mem_append_right _ h; exact List.mem_append_left _ h)
    rw [← kstB_id hps] at F₁
    refine wpAny_mono (wpAny_passesOwn hE (turn i t v1 c m₁ h tk own hi hx hInv F₁ N₂)) (fun f s₃ h₃ => ?_) fun _ _ e => e
    have fin : ∀ s₃, StepM h₀ env.locals (fun _ => news₁) ps (fun c gs => gs = s.gens ∧ Inv (i + 1) c) own (news₁.map (·.1)) { s with heap := h, toks := tk } Q .next s₃ →
        ∃ h' tk' m₂ news₂, s₃ = { s with heap := h', toks := tk' } ∧ Fr h₀ env.locals h' m₂ ∧ News h₀ env.locals h' (own ++ news₂) ∧ news₂.map (·.1) = news₁.map (·.1) ∧ (news₂ = news₁ ∧ ∃ c, (∀ p ∈ ps c, m₂ p.1 = some p.2) ∧ Inv (i + 1) c) := by
      rintro s₃ ⟨c₃, h₃, tk₃, m₃, gs₃, rfl, F₃, N₃, ha₃, hp₃, rfl, hI₃⟩
      exact ⟨h₃, tk₃, m₃, news₁, rfl, F₃, fun p hp => N₃ p (by rcases List.mem_append.mp hp with h | h; exact List.mem_append_right _ h; exact List.mem_append_left _ h), rfl, rfl, c₃, hp₃, hI₃⟩
    cases f with
    | ret v => exact h₃
    | brk => exact h₃
    | cont => exact ⟨rfl, fin _ h₃⟩
    | next => exact ⟨rfl, fin _ h₃⟩
  · rintro h' tk m' news' F₁ N₁ _ ⟨rfl, c, hps, hInv⟩
    rw [← kstB_id hps] at F₁
    exact done c m' h' tk hInv F₁ N₁
end
end Mine
end

theorem Mine.top_Text : True := by
  w_top off
  exact True.intro

section
open PySem PySem.W PyProof.Rows PySem.Builtin PySem.Builtin.Str PySem.StrLaws
namespace Mine
set_option maxRecDepth 100000

theorem stars_list : (Str.ofString "*+,").cps = #[42, 43, 44] := by decide +kernel

theorem item_sign (n : Int) : ∃ c, Txt.item (Str.ofString "*+,") (n.fmod 3) = ⟨#[c]⟩ ∧ (c = 42 ∨ c = 43 ∨ c = 44) := by
  have h0 := fmod_lo n (n := 3) (by decide)
  have h1 := fmod_hi n (n := 3) (by decide)
  have : n.fmod 3 = 0 ∨ n.fmod 3 = 1 ∨ n.fmod 3 = 2 := by omega
  rcases this with e | e | e <;> rw [e]
  · exact ⟨42, item_meets (by decide) (by rw [stars_list]; rfl), by omega⟩
  · exact ⟨43, item_meets (by decide) (by rw [stars_list]; rfl), by omega⟩
  · exact ⟨44, item_meets (by decide) (by rw [stars_list]; rfl), by omega⟩

theorem snoc_signs {y : Str} {i : Nat} (n : Int) (hy : y.length = i) (hq : ∀ q ∈ y.cps.toList, q = 42 ∨ q = 43 ∨ q = 44) :
    (y ++ Txt.item (Str.ofString "*+,") (n.fmod 3)).length = i + 1 ∧ ∀ q ∈ (y ++ Txt.item (Str.ofString "*+,") (n.fmod 3)).cps.toList, q = 42 ∨ q = 43 ∨ q = 44 := by
  obtain ⟨c, e, hc⟩ := item_sign n
  rw [e]
  have el : (y ++ (⟨#[c]⟩ : Str)).cps.toList = y.cps.toList ++ [c] := by
    show (y.cps ++ #[c]).toList = _
    simp
  refine ⟨?_, ?_⟩
  · rw [len_list, el, List.length_append, ← len_list, hy]; rfl
  · intro q hm
    rw [el] at hm
    rcases List.mem_append.mp hm with h | h
    · exact hq q h
    · rw [List.mem_singleton.mp h]; exact hc

section
variable {prog : Program} {w : World} {A : Around} {E : Value → Shared → Prop} {s : Shared}

theorem item_lag {value slice : Expr} {x : Str} {t u : Tok} {i lag : Nat} {Q : Value → Shared → Prop} (hlo : 2 ≤ lag) (hle : (lag : Int) ≤ (i : Int)) (hb : i ≤ 50) (hx : x.length = i) (hq : ∀ q ∈ x.cps.toList, q = 42 ∨ q = 43 ∨ q = 44)
    (h : ∀ c, (c = 42 ∨ c = 43 ∨ c = 44) → Q (.str ⟨#[c]⟩ s.toks) { s with toks := s.toks + 1 })
    (hs : subscripted slice false (.str x t) (.int ((i : Int) - (lag : Int)) u) = operate [.str x t, .int ((i : Int) - (lag : Int)) u] (getItem (.str x t) (.int ((i : Int) - (lag : Int)) u)) := by with_unfolding_all rfl)
    (ht : ∀ r, letTemporaryGo value (.str x t) r = pure () := by intro _; with_unfolding_all rfl) :
    wpAny (model prog w) A (subscriptTail value slice (.str x t) (.int ((i : Int) - (lag : Int)) u)) Q E s := by
  have hfit : fitsSsize ((i : Int) - (lag : Int)) = true := by
    unfold fitsSsize
    simp only [Bool.not_eq_true', Bool.or_eq_false_iff, decide_eq_false_iff_not, Bool.and_eq_true, decide_eq_true_eq]
    omega
  refine item_str hfit (by omega) (by omega) (fun _ => ?_) hs ht
  have hj : ((i : Int) - (lag : Int)).toNat < x.cps.size := by
    show _ < x.length
    omega
  rw [item_meets (x := x) (by omega) (Array.getElem?_eq_getElem hj)]
  exact h _ (hq _ (Array.getElem_mem_toList hj))

theorem index_sign {c : Nat} {t u : Tok} {Q : Value → Shared → Prop} (hA : A.handled = none) (hc : c = 42 ∨ c = 43 ∨ c = 44) (h : ∀ k : Int, Q (.int k s.toks) { s with toks := s.toks + 1 }) :
    wpAny (model prog w) A (call (.builtin "str.index") [.str (Str.ofString "*+,") t, .str ⟨#[c]⟩ u]) Q E s := by
  refine index_or hA (fun _ he => ?_) fun _ _ => h _
  exfalso
  rcases hc with rfl | rfl | rfl
  · exact absurd he (by decide +kernel)
  · exact absurd he (by decide +kernel)
  · exact absurd he (by decide +kernel)
end
end Mine
end

theorem Mine.top_T7 : True := by
  w_top off
  exact True.intro

section
open PySem PySem.W PyProof.Rows
namespace Mine
set_option maxRecDepth 100000
set_option maxHeartbeats 8000000
local macro_rules | `(tactic| walk_at "subscriptTail Name Slice ref ref") => `(tactic| (k_here; k_dflt (refine' kmk_slice_ints ?F ?N ?l ?p ?q ?i ?m ?c ?_ ?s ?t ?z; (case F => k_asm); (case N => k_asm); (case l => kmk_list); (case p => kmk_part); (case q => kmk_part); (case i => l_ints); (case m => first | exact kmk_from (by l_ints) (Int.natCast_nonneg _) | exact kmk_upto (by l_ints) (by decide)); (case c => kmk_len); (case s => with_unfolding_all rfl); (case t => kmk_pure); (case z => kmk_size)); intro D' ws' h' F' N' l1 hI' hC' hL'; (try simp only [Int.reduceToNat] at hI' hC' hL'); (try k_lt l1)))
local macro_rules | `(tactic| walk_at "exec For Tuple Call") => `(tactic| (k_here; k_dflt (refine For_pause ?_)))
local macro_rules | `(tactic| walk_at "exec Assign cons ListComp") => `(tactic| (k_here; refine pause_here ?_))
local macro_rules | `(tactic| walk_at "call type:enumerate") => `(tactic| (k_here; refine pause_here ?_))

local macro_rules | `(tactic| walk_at "subscriptTail Name BinOp str int") => `(tactic| (k_here; k_dflt (refine item_lag (by assumption) (by assumption) (by assumption) (by assumption) (by assumption) ?_); intro c9 hc9))
local macro_rules | `(tactic| walk_at "call builtin:str.index") => `(tactic| (k_here; k_dflt (refine index_sign (by rfl) (by assumption) ?_); intro k9))

theorem lag_of {h₀ h : Heap} {L : Addr} {m : Str → Option Value} {x : Int} {t : Tok} (_ : Fr h₀ L h m) (h : m (Str.ofString "lag") = some (.int (2 + x.fmod 4) t)) :
    ∃ (lag : Nat) (t : Tok), m (Str.ofString "lag") = some (.int (lag : Int) t) ∧ 2 ≤ lag := by
  have h0 := fmod_lo x (n := 4) (by decide)
  refine ⟨(2 + x.fmod 4).toNat, t, ?_, by omega⟩
  rw [h, Int.toNat_of_nonneg (by omega)]

theorem ints_at {vs : List Value} {ns : List Int} (h : IntsAre vs ns) {i : Nat} {v : Value} (hv : vs.toArray[i]? = some v) : ∃ n t, v = .int n t := by
  have hi : i < ns.length := by
    have := (Array.getElem?_eq_some_iff.mp hv).1
    rw [← h.length]; simpa using this
  obtain ⟨t, ht⟩ := h.get i _ (List.getElem?_eq_getElem hi)
  have : vs.toArray[i]? = some (.int ns[i] t) := by simpa using ht
  rw [this] at hv
  exact ⟨_, t, (Option.some.inj hv).symm⟩

theorem cells_len {A B : List Int} {ws : List Value} (h : IntsAre ws (A ++ List.drop ((B.length : Int)).toNat [2, 0, 0, 1, 1, 1, 0, 0])) (hA : A.length ≤ 11) (hB : B.length = A.length) : 8 ≤ ws.length ∧ ws.length ≤ 11 := by
  rw [h.length]
  simp only [List.length_append, List.length_drop, List.length_cons, List.length_nil, Int.toNat_natCast]
  omega

theorem text_tell (w : World) (mean mg mb) (l : Addr) (vs : List Value) (ns : List Int) (hi : IntsAre vs ns) (hlen : ns.length ≤ 63) :
  ∀ (dp un : Nat) (gd : Option (List Code)) (cn : Str) (cs : Scope) (a : Addr) (ccd : Value) (cl : List (Str × Addr)) (outer : List Env) (A₀ : Around) (base h₀ : Heap) (L : Addr) (m : Str → Option Value) (news : List (Addr × Obj)) (s : Shared) (Q E : Value → Shared → Prop),
    Below A₀ base outer h₀ → Fr h₀ L s.heap m → Frag.In (hd.heap_39 w.params) h₀ → News h₀ L s.heap news → Top hd.view_39 (looseW hd.view_39 [Str.ofString "EXACT_TOKEN_TYPES"]) mean mg mb h₀ → cs.kind = .function → base.IsList l vs.toArray → dp + 3 < recursionLimit → un + 8 * 3 < cLine →
    (∀ y t h' tk', 8 ≤ y.length → y.length ≤ 11 → (∀ c ∈ y.cps.toList, c = 42 ∨ c = 43 ∨ c = 44) → Fr h₀ L h' m → News h₀ L h' news → Q (.str y t) { s with heap := h', toks := tk' }) →
    wpAny (model PySem.Challenge.rw_ti0013_01.row.prog w) (ktrTop dp un gd cn cs L a ccd cl outer) (call (.ref 43) [.ref l]) Q E s := by
  k_fill
  intro dp un gd cn cs a ccd cl outer A₀ base h₀ L m news s Q E B F X N T hk hl hd hu hret
  refine wpAny_call ?_
  k_dflt cell_enter
  k_steps
  refine Pause.mk ?_
  lcg_look
  lcg_calm
  k_dflt (refine LCg.Assign_ListComp_U (F₀ := by k_asm) (by rfl) (by with_unfolding_all rfl) (by rfl) (by decide) (by rfl) (by decide) (by rfl) (by rfl) (by rfl) ?_)
  iterate 8 walk1
  k_here
  (try k_fmods)
  (try kcf_lens)
  k_dflt ((refine LCg.CompSrc.ledger (by rfl) (by k_asm) (by k_asm) (by k_mem) (by kcf_size) ?_; intro g'; (refine' kcf_list _ (by first | assumption | l_ints) (fun k' t' I' oI' C' oC' D' m' ys' h' tk' E' hk' hC' hx' F' N' off' ne' hMark' => ?_) ?_); (all_goals (try (simp only [LCg.Off3, and_true] at off'))); kcf_last))
  k_steps
  refine Pause.mk ?_
  rename Fr _ _ _ _ => lF
  rename News _ _ _ _ => lN
  rename (IntsAre _ (_ ++ _)) => hCells
  have hb := cells_len hCells (by simp only [List.length_map, List.length_take]; omega) (by simp only [List.length_map])
  obtain ⟨lag, tl, hlag, hlo⟩ := lag_of lF (by rfl)
  refine loop_enumM (σ := Str × Tok) (fun c => [(Str.ofString "lag", .int (lag : Int) tl), (Str.ofString "text", .str c.1 c.2)])
    (fun i c => c.1.length = i ∧ ∀ q ∈ c.1.cps.toList, q = 42 ∨ q = 43 ∨ q = 44) (⟨#[]⟩, ?tok0) (by rfl) (by k_mem) (by rfl) (by rfl) (by rfl) (by passes_own) lF lN ?g1 ?g2 ?g3 ?g4
  case g1 => exact List.forall_mem_cons.mpr ⟨hlag, List.forall_mem_cons.mpr ⟨by rfl, List.forall_mem_nil _⟩⟩
  case g2 => exact ⟨by rfl, fun q hq => absurd hq (by simp)⟩
  case g3 =>
    rintro i t v ⟨y, ty⟩ u h tk own hi hv ⟨hy, hq⟩ F₁ N₁
    dsimp only at hy hq F₁ N₁ ⊢
    clear lF lN
    obtain ⟨n, tn, rfl⟩ := ints_at hCells hv
    have hi50 : i ≤ 50 := by
      have h2 := hb.2
      rw [List.size_toArray] at hi
      omega
    k_steps
    all_goals (rename Fr _ _ _ _ => lF9; rename News _ _ _ _ => lN9; exact StepM.next (_, _) lF9 lN9 (fun _ x => x) rfl (by (repeat (first | exact List.forall_mem_nil _ | refine List.forall_mem_cons.mpr ⟨by rfl, ?_⟩))) ⟨rfl, snoc_signs _ hy hq⟩)
  case g4 =>
    rintro ⟨y, ty⟩ u h tk ⟨hy, hq⟩ F₁ N₁
    clear lF lN
    dsimp only at hy hq F₁ N₁ ⊢
    k_steps
    rename Fr _ _ _ _ => kF
    rename News _ _ _ _ => kN
    exact hret _ _ _ _ (by rw [hy, List.size_toArray]; exact hb.1) (by rw [hy, List.size_toArray]; exact hb.2) hq kF (newsSub kN fun _ hp => .tail _ (.tail _ (.tail _ (.tail _ (.tail _ hp)))))
end Mine
end

theorem Mine.top_Words : True := by
  w_top off
  exact True.intro

section
open PySem PySem.W PyProof.Rows PySem.Builtin PySem.Builtin.Str PySem.StrLaws
namespace Mine
set_option maxRecDepth 100000

def eqN : List Nat → List Nat → Bool
  | [], [] => true
  | a :: x, b :: y => Nat.beq a b && eqN x y
  | _, _ => false
def bordN (l : List Nat) (n : Nat) : Nat → Bool
  | 0 => false
  | j + 1 => bordN l n j || eqN (l.take (j + 1)) (l.drop (n - (j + 1)))
/-- the longest plain beginning longer than p, else p; k counts down -/
def longN (w : List Nat) (p : Nat) : Nat → Nat
  | 0 => p
  | k + 1 => bif Nat.ble (k + 1) p then p else bif bordN (w.take (k + 1)) (k + 1) ((k + 1) / 2) then longN w p k else k + 1
def perN (w : List Nat) (q : Nat) : Bool := eqN (w.drop q) (w.take (w.length - q))
def chkN (w : List Nat) (n q : Nat) : Bool :=
  bif (Nat.ble (3 * q) (n + 2) || (Nat.ble (2 * q) (n + 1) && !(bordN (w.drop (n - q)) q (q / 2)))) then perN w q else true
def walkN : Nat → List Nat → Nat → Nat → Bool
  | 0, _, _, _ => true
  | f + 1, r, n, p =>
    let g := fun c => let q := longN (c :: r) p (n + 1); bif Nat.ble q 6 then chkN (c :: r) (n + 1) q && walkN f (c :: r) (n + 1) q else true
    g 42 && (g 43 && g 44)
def tauN : List Nat → Nat
  | [] => 0
  | c :: r => longN (c :: r) (tauN r) (r.length + 1)

theorem eqN_iff : ∀ (x y : List Nat), eqN x y = true ↔ x = y
  | [], [] => by simp [eqN]
  | a :: x, b :: y => by simp [eqN, eqN_iff x y]
  | [], b :: y => by simp [eqN]
  | a :: x, [] => by simp [eqN]

theorem bordN_iff (l : List Nat) (n : Nat) : ∀ k, bordN l n k = true ↔ ∃ j, 1 ≤ j ∧ j ≤ k ∧ l.take j = l.drop (n - j)
  | 0 => by simp only [bordN]; constructor
            · intro h; cases h
            · rintro ⟨j, h1, h2, _⟩; omega
  | k + 1 => by
    simp only [bordN, Bool.or_eq_true, bordN_iff l n k, eqN_iff]
    constructor
    · rintro (⟨j, h1, h2, h3⟩ | h)
      · exact ⟨j, h1, by omega, h3⟩
      · exact ⟨k + 1, by omega, Nat.le_refl _, h⟩
    · rintro ⟨j, h1, h2, h3⟩
      by_cases e : j = k + 1
      · subst e; exact .inr h3
      · exact .inl ⟨j, h1, by omega, h3⟩

theorem longN_spec (w : List Nat) (p : Nat) : ∀ k, p ≤ k → p ≤ longN w p k ∧ longN w p k ≤ k ∧ (∀ j, longN w p k < j → j ≤ k → bordN (w.take j) j (j / 2) = true) ∧ (p < longN w p k → bordN (w.take (longN w p k)) (longN w p k) (longN w p k / 2) = false)
  | 0, h => by
    have : p = 0 := by omega
    subst this
    exact ⟨Nat.le_refl _, Nat.le_refl _, fun j h1 h2 => by simp only [longN] at h1; omega, fun h => by simp [longN] at h⟩
  | k + 1, h => by
    by_cases hp : k + 1 ≤ p
    · have e : longN w p (k + 1) = p := by simp only [longN]; rw [(Nat.ble_eq).mpr hp]; rfl
      rw [e]
      exact ⟨Nat.le_refl _, h, fun j h1 h2 => by omega, fun h => absurd h (Nat.lt_irrefl _)⟩
    · have e0 : Nat.ble (k + 1) p = false := by
        cases e : Nat.ble (k + 1) p with
        | false => rfl
        | true => exact absurd (Nat.ble_eq.mp e) hp
      cases hb : bordN (w.take (k + 1)) (k + 1) ((k + 1) / 2) with
      | false =>
        have e : longN w p (k + 1) = k + 1 := by simp only [longN]; rw [e0, hb]; rfl
        rw [e]
        exact ⟨h, Nat.le_refl _, fun j h1 h2 => by omega, fun _ => hb⟩
      | true =>
        have e : longN w p (k + 1) = longN w p k := by simp only [longN]; rw [e0, hb]; rfl
        rw [e]
        obtain ⟨h1, h2, h3, h4⟩ := longN_spec w p k (by omega)
        refine ⟨h1, by omega, fun j hj hk => ?_, h4⟩
        by_cases e : j = k + 1
        · subst e; exact hb
        · exact h3 j hj (by omega)

theorem tauN_le : ∀ w, tauN w ≤ w.length
  | [] => Nat.le_refl _
  | c :: r => by
    have := tauN_le r
    exact (longN_spec (c :: r) (tauN r) (r.length + 1) (by omega)).2.1
theorem tauN_mono (c : Nat) (r : List Nat) : tauN r ≤ tauN (c :: r) :=
  (longN_spec (c :: r) (tauN r) (r.length + 1) (by have := tauN_le r; omega)).1
theorem tauN_grow (r : List Nat) : ∀ e : List Nat, tauN r ≤ tauN (e ++ r)
  | [] => Nat.le_refl _
  | c :: e => Nat.le_trans (tauN_grow r e) (tauN_mono c (e ++ r))

theorem walkN_sound : ∀ (f : Nat) (r : List Nat), walkN f r r.length (tauN r) = true → ∀ e : List Nat, e.length ≤ f → e ≠ [] → (∀ c ∈ e, c = 42 ∨ c = 43 ∨ c = 44) → tauN (e ++ r) ≤ 6 → chkN (e ++ r) (e ++ r).length (tauN (e ++ r)) = true
  | 0, r, _, e, he, hne, _, _ => absurd (List.length_eq_zero_iff.mp (by omega)) hne
  | f + 1, r, h, e, he, hne, hc, ht => by
    obtain ⟨e', c, rfl⟩ : ∃ e' c, e = e' ++ [c] := ⟨_, _, (List.dropLast_concat_getLast hne).symm⟩
    have hcc := hc c (List.mem_append_right _ (List.mem_singleton.mpr rfl))
    have ee : e' ++ [c] ++ r = e' ++ (c :: r) := by simp
    rw [ee] at ht ⊢
    have hq : tauN (c :: r) ≤ 6 := Nat.le_trans (tauN_grow _ _) ht
    have hg : (chkN (c :: r) (r.length + 1) (tauN (c :: r)) && walkN f (c :: r) (r.length + 1) (tauN (c :: r))) = true := by
      simp only [walkN, Bool.and_eq_true] at h
      have hb : Nat.ble (tauN (c :: r)) 6 = true := Nat.ble_eq.mpr hq
      have key : (bif Nat.ble (tauN (c :: r)) 6 then chkN (c :: r) (r.length + 1) (tauN (c :: r)) && walkN f (c :: r) (r.length + 1) (tauN (c :: r)) else true) = true := by
        rcases hcc with rfl | rfl | rfl
        · exact h.1
        · exact h.2.1
        · exact h.2.2
      rw [hb] at key
      exact key
    rw [Bool.and_eq_true] at hg
    cases e' with
    | nil => exact hg.1
    | cons d e'' =>
      refine walkN_sound f (c :: r) hg.2 (d :: e'') ?_ (by simp) (fun x hx => hc x (List.mem_append_left _ hx)) ht
      simp only [List.length_append, List.length_cons, List.length_nil] at he ⊢
      omega

/-- the same search by numbers: a word is its signs in base 64, the last sign the lowest -/
def numN : List Nat → Nat
  | [] => 0
  | c :: r => c + 64 * numN r
def bordM (m n : Nat) : Nat → Bool
  | 0 => false
  | j + 1 => bordM m n j || Nat.beq (m % 64 ^ (j + 1)) (m / 64 ^ (n - (j + 1)))
def longM (m p : Nat) : Nat → Nat
  | 0 => p
  | k + 1 => bif Nat.ble (k + 1) p then p else bif bordM (m % 64 ^ (k + 1)) (k + 1) ((k + 1) / 2) then longM m p k else k + 1
def chkM (m n q : Nat) : Bool :=
  bif (Nat.ble (3 * q) (n + 2) || (Nat.ble (2 * q) (n + 1) && !(bordM (m / 64 ^ (n - q)) q (q / 2)))) then Nat.beq (m / 64 ^ q) (m % 64 ^ (n - q)) else true
def upto6 (q : Nat) (g : Nat → Bool) : Bool :=
  match q with
  | 0 => g 0
  | 1 => g 1
  | 2 => g 2
  | 3 => g 3
  | 4 => g 4
  | 5 => g 5
  | 6 => g 6
  | _ + 7 => true
def walkM : Nat → Nat → Nat → Nat → Bool
  | 0, _, _, _ => true
  | f + 1, m, n, p =>
    let g := fun c => upto6 (longM (c + 64 * m) p (n + 1)) fun q => chkM (c + 64 * m) (n + 1) q && walkM f (c + 64 * m) (n + 1) q
    g 42 && (g 43 && g 44)

theorem upto6_eq (q : Nat) (g : Nat → Bool) : upto6 q g = bif Nat.ble q 6 then g q else true := by
  match q with
  | 0 => rfl
  | 1 => rfl
  | 2 => rfl
  | 3 => rfl
  | 4 => rfl
  | 5 => rfl
  | 6 => rfl
  | q + 7 =>
    have : Nat.ble (q + 7) 6 = false := by
      cases e : Nat.ble (q + 7) 6 with
      | false => rfl
      | true => have := Nat.ble_eq.mp e; omega
    rw [this]; rfl

theorem numN_lt : ∀ l : List Nat, (∀ c ∈ l, c < 64) → numN l < 64 ^ l.length
  | [], _ => Nat.one_pos
  | c :: r, h => by
    have h1 := h c (.head _)
    have h2 := numN_lt r fun x hx => h x (.tail _ hx)
    rw [numN, List.length_cons, Nat.pow_succ]
    omega
theorem numN_drop : ∀ (l : List Nat) (j : Nat), (∀ c ∈ l, c < 64) → numN (l.drop j) = numN l / 64 ^ j
  | l, 0, _ => by simp
  | [], j + 1, _ => by simp [numN]
  | c :: r, j + 1, h => by
    have h1 := h c (.head _)
    rw [List.drop_succ_cons, numN_drop r j fun x hx => h x (.tail _ hx), numN, Nat.pow_succ, Nat.mul_comm (64 ^ j) 64, ← Nat.div_div_eq_div_mul]
    congr 1
    omega
theorem numN_take : ∀ (l : List Nat) (j : Nat), (∀ c ∈ l, c < 64) → numN (l.take j) = numN l % 64 ^ j
  | l, 0, _ => by simp [numN, Nat.mod_one]
  | [], j + 1, _ => by simp [numN]
  | c :: r, j + 1, h => by
    have h1 := h c (.head _)
    rw [List.take_succ_cons, numN, numN_take r j fun x hx => h x (.tail _ hx), numN, Nat.pow_succ, Nat.mul_comm (64 ^ j) 64, Nat.mod_mul]
    have e1 : (c + 64 * numN r) % 64 = c := by omega
    have e2 : (c + 64 * numN r) / 64 = numN r := by omega
    rw [e1, e2]
theorem numN_inj : ∀ (x y : List Nat), (∀ c ∈ x, c < 64) → (∀ c ∈ y, c < 64) → x.length = y.length → numN x = numN y → x = y
  | [], [], _, _, _, _ => rfl
  | [], _ :: _, _, _, h, _ => by simp at h
  | _ :: _, [], _, _, h, _ => by simp at h
  | a :: x, b :: y, hx, hy, hl, hn => by
    have ha := hx a (.head _)
    have hb := hy b (.head _)
    rw [numN, numN] at hn
    have e1 : a = b := by omega
    have e2 : numN x = numN y := by omega
    rw [e1, numN_inj x y (fun c h => hx c (.tail _ h)) (fun c h => hy c (.tail _ h)) (by simpa using hl) e2]
theorem eqN_num (x y : List Nat) (hx : ∀ c ∈ x, c < 64) (hy : ∀ c ∈ y, c < 64) (hl : x.length = y.length) : eqN x y = Nat.beq (numN x) (numN y) := by
  cases h : eqN x y with
  | true => rw [(eqN_iff x y).mp h]; exact (Nat.beq_refl _).symm
  | false =>
    cases h2 : Nat.beq (numN x) (numN y) with
    | false => rfl
    | true =>
      have := numN_inj x y hx hy hl (Nat.eq_of_beq_eq_true h2)
      rw [(eqN_iff x y).mpr this] at h; cases h
theorem bordN_num (l : List Nat) (hl : ∀ c ∈ l, c < 64) : ∀ k, k ≤ l.length → bordN l l.length k = bordM (numN l) l.length k
  | 0, _ => rfl
  | k + 1, h => by
    rw [bordN, bordM, bordN_num l hl k (by omega), eqN_num _ _ (fun c hc => hl c (List.mem_of_mem_take hc)) (fun c hc => hl c (List.mem_of_mem_drop hc)) (by rw [List.length_take, List.length_drop]; omega), numN_take l _ hl, numN_drop l _ hl]
theorem longN_num (w : List Nat) (p : Nat) (hw : ∀ c ∈ w, c < 64) : ∀ k, k ≤ w.length → longN w p k = longM (numN w) p k
  | 0, _ => rfl
  | k + 1, h => by
    have hl : (w.take (k + 1)).length = k + 1 := by rw [List.length_take]; omega
    have e := bordN_num (w.take (k + 1)) (fun c hc => hw c (List.mem_of_mem_take hc)) ((k + 1) / 2) (by omega)
    rw [hl, numN_take w _ hw] at e
    rw [longN, longM, e, longN_num w p hw k (by omega)]
theorem chkN_num (w : List Nat) (q : Nat) (hw : ∀ c ∈ w, c < 64) (hq : q ≤ w.length) : chkN w w.length q = chkM (numN w) w.length q := by
  have hl : (w.drop (w.length - q)).length = q := by rw [List.length_drop]; omega
  have e := bordN_num (w.drop (w.length - q)) (fun c hc => hw c (List.mem_of_mem_drop hc)) (q / 2) (by omega)
  rw [hl, numN_drop w _ hw] at e
  rw [chkN, chkM, e, perN, eqN_num _ _ (fun c hc => hw c (List.mem_of_mem_drop hc)) (fun c hc => hw c (List.mem_of_mem_take hc)) (by rw [List.length_take, List.length_drop]; omega), numN_take w _ hw, numN_drop w _ hw]
theorem walkN_num : ∀ (f : Nat) (r : List Nat) (p : Nat), p ≤ r.length → (∀ c ∈ r, c < 64) → walkN f r r.length p = walkM f (numN r) r.length p
  | 0, _, _, _, _ => rfl
  | f + 1, r, p, hp, hr => by
    have key : ∀ c, c < 64 → (let q := longN (c :: r) p (r.length + 1); bif Nat.ble q 6 then chkN (c :: r) (r.length + 1) q && walkN f (c :: r) (r.length + 1) q else true) = upto6 (longM (c + 64 * numN r) p (r.length + 1)) fun q => chkM (c + 64 * numN r) (r.length + 1) q && walkM f (c + 64 * numN r) (r.length + 1) q := by
      intro c hc
      have hw : ∀ x ∈ c :: r, x < 64 := by
        intro x hx
        rcases List.mem_cons.mp hx with rfl | hx
        · exact hc
        · exact hr x hx
      have hq := (longN_spec (c :: r) p (r.length + 1) (by omega)).2.1
      rw [upto6_eq]
      have e1 := longN_num (c :: r) p hw (r.length + 1) (Nat.le_refl _)
      rw [numN] at e1
      rw [← e1]
      have e2 := chkN_num (c :: r) (longN (c :: r) p (r.length + 1)) hw hq
      have e3 := walkN_num f (c :: r) (longN (c :: r) p (r.length + 1)) hq hw
      rw [List.length_cons, numN] at e2 e3
      dsimp only
      rw [e2, e3]
    rw [walkN, walkM]
    dsimp only at key ⊢
    rw [key 42 (by omega), key 43 (by omega), key 44 (by omega)]

theorem walkM_step {f m n p : Nat} (h : ∀ c, c = 42 ∨ c = 43 ∨ c = 44 → ∃ q, longM (c + 64 * m) p (n + 1) = q ∧ q ≤ 6 ∧ chkM (c + 64 * m) (n + 1) q = true ∧ walkM f (c + 64 * m) (n + 1) q = true) : walkM (f + 1) m n p = true := by
  have key : ∀ c, c = 42 ∨ c = 43 ∨ c = 44 → (upto6 (longM (c + 64 * m) p (n + 1)) fun q => chkM (c + 64 * m) (n + 1) q && walkM f (c + 64 * m) (n + 1) q) = true := by
    intro c hc
    obtain ⟨q, h1, h2, h3, h4⟩ := h c hc
    rw [h1, upto6_eq, Nat.ble_eq.mpr h2, h3, h4]; rfl
  rw [walkM]
  dsimp only
  rw [key 42 (.inl rfl), key 43 (.inr (.inl rfl)), key 44 (.inr (.inr rfl))]; rfl
theorem walk_aa : walkM 9 (42 + 64 * 42) 2 1 = true := by decide +kernel
theorem walk_ab : walkM 9 (43 + 64 * 42) 2 2 = true := by decide +kernel
theorem walk_ac : walkM 9 (44 + 64 * 42) 2 2 = true := by decide +kernel
theorem walk_nums : walkM 10 42 1 1 = true := by
  refine walkM_step fun c hc => ?_
  rcases hc with rfl | rfl | rfl
  · exact ⟨1, by decide +kernel, by omega, by decide +kernel, walk_aa⟩
  · exact ⟨2, by decide +kernel, by omega, by decide +kernel, walk_ab⟩
  · exact ⟨2, by decide +kernel, by omega, by decide +kernel, walk_ac⟩
theorem walk_one : walkN 10 [42] 1 1 = true :=
  (walkN_num 10 [42] 1 (Nat.le_refl _) (fun c h => by rw [List.mem_singleton.mp h]; omega)).trans walk_nums

section
variable {σ : Nat → Nat} (hσ : ∀ a b, σ a = σ b → a = b)
include hσ
theorem beq_map (a b : Nat) : Nat.beq (σ a) (σ b) = Nat.beq a b := by
  cases h : Nat.beq a b with
  | true => rw [Nat.eq_of_beq_eq_true h]; exact Nat.beq_refl _
  | false =>
    cases h2 : Nat.beq (σ a) (σ b) with
    | false => rfl
    | true =>
      have e := hσ _ _ (Nat.eq_of_beq_eq_true h2)
      subst e
      rw [Nat.beq_refl] at h; cases h
theorem eqN_map : ∀ (x y : List Nat), eqN (x.map σ) (y.map σ) = eqN x y
  | [], [] => rfl
  | a :: x, b :: y => by simp only [List.map_cons, eqN, beq_map hσ, eqN_map x y]
  | [], b :: y => rfl
  | a :: x, [] => rfl
theorem bordN_map (l : List Nat) (n : Nat) : ∀ k, bordN (l.map σ) n k = bordN l n k
  | 0 => rfl
  | k + 1 => by rw [bordN, bordN, bordN_map l n k, ← List.map_take, ← List.map_drop, eqN_map hσ]
theorem longN_map (w : List Nat) (p : Nat) : ∀ k, longN (w.map σ) p k = longN w p k
  | 0 => rfl
  | k + 1 => by rw [longN, longN, longN_map w p k, ← List.map_take, bordN_map hσ]
theorem tauN_map : ∀ w : List Nat, tauN (w.map σ) = tauN w
  | [] => rfl
  | c :: r => by
    have e := longN_map hσ (c :: r) (tauN r) (r.length + 1)
    rw [List.map_cons] at e ⊢
    rw [tauN, tauN, tauN_map r, List.length_map, e]
theorem chkN_map (w : List Nat) (n q : Nat) : chkN (w.map σ) n q = chkN w n q := by
  rw [chkN, chkN, ← List.map_drop, bordN_map hσ, perN, perN, List.length_map, ← List.map_drop, ← List.map_take, eqN_map hσ]
end

def swapN (c x : Nat) : Nat := if x = 42 then c else if x = c then 42 else x
theorem swapN_inj (c a b : Nat) (h : swapN c a = swapN c b) : a = b := by
  unfold swapN at h
  repeat' split at h
  all_goals omega
theorem swapN_self (c : Nat) : swapN c c = 42 := by
  unfold swapN
  by_cases e : c = 42
  · rw [if_pos e]; exact e
  · rw [if_neg e, if_pos rfl]
theorem swapN_sign {c x : Nat} (h0 : c = 42 ∨ c = 43 ∨ c = 44) (h : x = 42 ∨ x = 43 ∨ x = 44) : swapN c x = 42 ∨ swapN c x = 43 ∨ swapN c x = 44 := by
  unfold swapN
  by_cases e : x = 42
  · rw [if_pos e]; exact h0
  · rw [if_neg e]
    by_cases e2 : x = c
    · rw [if_pos e2]; exact .inl rfl
    · rw [if_neg e2]; exact h

theorem chk_all {w : List Nat} (h1 : 1 ≤ w.length) (hl : w.length ≤ 11) (hc : ∀ c ∈ w, c = 42 ∨ c = 43 ∨ c = 44) (ht : tauN w ≤ 6) : chkN w w.length (tauN w) = true := by
  have hne : w ≠ [] := by rintro rfl; simp at h1
  obtain ⟨r, c₀, rfl⟩ : ∃ r c₀, w = r ++ [c₀] := ⟨_, _, (List.dropLast_concat_getLast hne).symm⟩
  have h0 := hc c₀ (List.mem_append_right _ (List.mem_singleton.mpr rfl))
  have hσ := swapN_inj c₀
  have hm : (r ++ [c₀]).map (swapN c₀) = r.map (swapN c₀) ++ [42] := by
    rw [List.map_append, List.map_cons, List.map_nil, swapN_self]
  have hs : ∀ c ∈ r.map (swapN c₀), c = 42 ∨ c = 43 ∨ c = 44 := by
    intro c hcm
    obtain ⟨x, hx, rfl⟩ := List.mem_map.mp hcm
    exact swapN_sign h0 (hc x (List.mem_append_left _ hx))
  rw [← chkN_map hσ, ← tauN_map hσ, ← List.length_map (f := swapN c₀) (as := r ++ [c₀]), hm]
  rw [← tauN_map hσ, hm] at ht
  cases hr : r.map (swapN c₀) with
  | nil => decide +kernel
  | cons d e =>
    rw [hr] at hs ht
    refine walkN_sound 10 [42] walk_one (d :: e) ?_ (by simp) hs ht
    have := congrArg List.length hr
    simp only [List.length_append, List.length_cons, List.length_nil, List.length_map] at hl this ⊢
    omega

/-- a word with a period shorter than itself has a border of at most half its length -/
theorem per_bord {l : List Nat} {s : Nat} (hs : 1 ≤ s) (hl : s < l.length) (hp : ∀ i, i + s < l.length → l[i]? = l[i + s]?) : bordN l l.length (l.length / 2) = true := by
  rw [bordN_iff]
  have hmul : ∀ q i, i + s * q < l.length → l[i]? = l[i + s * q]? := by
    intro q
    induction q with
    | zero => intro i _; rfl
    | succ q ih =>
      intro i h
      have e : s * (q + 1) = s * q + s := Nat.mul_succ _ _
      rw [e] at h ⊢
      rw [ih i (by omega), ← Nat.add_assoc]
      exact hp _ (by omega)
  have hd := Nat.div_add_mod (l.length - 1) s
  have hm := Nat.mod_lt (l.length - 1) (show 0 < s by omega)
  have hq1 : s * 1 ≤ s * ((l.length - 1) / s) := Nat.mul_le_mul_left _ (Nat.div_pos (by omega) (by omega))
  refine ⟨(l.length - 1) % s + 1, by omega, by omega, ?_⟩
  have e2 : l.length - ((l.length - 1) % s + 1) = s * ((l.length - 1) / s) := by omega
  rw [e2]
  apply List.ext_getElem?
  intro i
  by_cases hi : i < (l.length - 1) % s + 1
  · rw [List.getElem?_take_of_lt hi, List.getElem?_drop, Nat.add_comm (s * _) i]
    exact hmul _ _ (by omega)
  · rw [List.getElem?_take_eq_none (by omega), List.getElem?_drop, List.getElem?_eq_none (by omega)]
end Mine
end

theorem Mine.top_Pure : True := by
  w_top off
  exact True.intro

section
open PySem PySem.W PyProof.Rows PySem.Builtin PySem.Builtin.Str PySem.StrLaws
namespace Mine
set_option maxRecDepth 100000

/-- the beginning of length e, last sign first -/
def revN (x : Str) (e : Nat) : List Nat := (x.cps.toList.take e).reverse
theorem revN_len {x : Str} {e : Nat} (h : e ≤ x.length) : (revN x e).length = e := by
  unfold revN
  rw [List.length_reverse, List.length_take, ← len_list]; omega
theorem revN_take {x : Str} {b e : Nat} (hb : b ≤ e) (h : e ≤ x.length) : (revN x e).take (e - b) = (midS x b e).cps.toList.reverse := by
  unfold revN
  rw [midS_list, List.take_reverse, List.length_take, ← len_list, Nat.min_eq_left h, Nat.sub_sub_self hb, List.drop_take]
theorem revN_drop {x : Str} {q e : Nat} (hq : q ≤ e) (h : e ≤ x.length) : (revN x e).drop (e - q) = revN x q := by
  unfold revN
  rw [List.drop_reverse, List.length_take, ← len_list, Nat.min_eq_left h, Nat.sub_sub_self hq, List.take_take, Nat.min_eq_left hq]

theorem bord_list {z : Str} {j : Nat} (h : j ≤ z.length) : bord z j = true ↔ z.cps.toList.take j = z.cps.toList.drop (z.length - j) := by
  unfold bord Txt.startswith Txt.endswith
  have hp : (preS z j).length = j := preS_len z h
  have hl := len_list z
  have hpl : (preS z j).cps.toList.length = j := by rw [← len_list, hp]
  simp only [Bool.and_eq_true, decide_eq_true_eq, subAt_eq, hp]
  constructor
  · rintro ⟨_, _, h2⟩
    have h3 := eq_of_beq h2
    rw [preS_list, List.take_of_length_le (by rw [List.length_drop]; omega)] at h3
    exact h3.symm
  · intro h3
    refine ⟨⟨by omega, ?_⟩, by omega, ?_⟩
    · rw [List.drop_zero, preS_list]; exact beq_self_eq_true _
    · rw [preS_list, h3, List.take_of_length_le (by rw [List.length_drop]; omega)]; exact beq_self_eq_true _

theorem plainS_bord (z : Str) : plainS z = !bordN z.cps.toList.reverse z.length (z.length / 2) := by
  have key : bordN z.cps.toList.reverse z.length (z.length / 2) = true ↔ plainS z = false := by
    rw [bordN_iff]
    unfold plainS plainTo
    rw [List.all_eq_false]
    have hl := len_list z
    have tr : ∀ j, j ≤ z.length → (z.cps.toList.reverse.take j = z.cps.toList.reverse.drop (z.length - j) ↔ z.cps.toList.take j = z.cps.toList.drop (z.length - j)) := by
      intro j hj
      rw [List.take_reverse, List.drop_reverse, ← hl, Nat.sub_sub_self hj, List.reverse_inj]
      exact eq_comm
    constructor
    · rintro ⟨j, h1, h2, h3⟩
      refine ⟨j - 1, List.mem_range.mpr (by omega), ?_⟩
      have : bord z j = true := (bord_list (by omega)).mpr ((tr j (by omega)).mp h3)
      rw [show j - 1 + 1 = j by omega, this]; simp
    · rintro ⟨i, hi, h⟩
      have hi' := List.mem_range.mp hi
      have hb : bord z (i + 1) = true := by simpa using h
      exact ⟨i + 1, by omega, by omega, (tr _ (by omega)).mpr ((bord_list (by omega)).mp hb)⟩
  cases h : bordN z.cps.toList.reverse z.length (z.length / 2) with
  | true => rw [key.mp h]; rfl
  | false =>
    cases h2 : plainS z with
    | true => rfl
    | false => rw [key.mpr h2] at h; cases h

theorem plain_mid {x : Str} {b e : Nat} (hb : b ≤ e) (h : e ≤ x.length) : plainS (midS x b e) = !bordN ((revN x e).take (e - b)) (e - b) ((e - b) / 2) := by
  rw [plainS_bord, revN_take hb h, midS_len x h]
theorem plain_pre {x : Str} {q : Nat} (h : q ≤ x.length) : plainS (preS x q) = !bordN (revN x q) q (q / 2) := by
  rw [plainS_bord, preS_len x h]; rfl

theorem revN_succ {x : Str} {i : Nat} (h : i + 1 ≤ x.length) : ∃ c, revN x (i + 1) = c :: revN x i := by
  unfold revN
  have : i < x.cps.toList.length := by rw [← len_list]; omega
  exact ⟨x.cps.toList[i], by rw [List.take_succ_eq_append_getElem this, List.reverse_append]; rfl⟩

theorem long_tau (x : Str) : ∀ e, e ≤ x.length → (longTo x e).getLastD 0 = tauN (revN x e)
  | 0, _ => by simp [longTo, revN, tauN]
  | i + 1, h => by
    obtain ⟨c, hc⟩ := revN_succ h
    have ih := long_tau x i (by omega)
    have hl : (revN x i).length = i := revN_len (by omega)
    have e1 : tauN (revN x (i + 1)) = longN (revN x (i + 1)) (tauN (revN x i)) (i + 1) := by
      rw [hc, tauN, hl]
    have hp := tauN_le (revN x i)
    rw [hl] at hp
    obtain ⟨h1, h2, h3, h4⟩ := longN_spec (revN x (i + 1)) (tauN (revN x i)) (i + 1) (by omega)
    have e2 : firstPlain x (i + 1) (i + 1 - tauN (revN x i)) = i + 1 - tauN (revN x (i + 1)) := by
      rw [e1]
      refine firstPlain_eq (by omega) (fun k hk => ?_) fun hb => ?_
      · rw [plain_mid (by omega) h, h3 (i + 1 - k) (by omega) (by omega)]; rfl
      · have e5 : i + 1 - (i + 1 - longN (revN x (i + 1)) (tauN (revN x i)) (i + 1)) = longN (revN x (i + 1)) (tauN (revN x i)) (i + 1) := by omega
        rw [plain_mid (by omega) h, e5, h4 (by omega)]; rfl
    have h5 : tauN (revN x (i + 1)) ≤ i + 1 := by rw [e1]; exact h2
    rw [longTo, ih, e2]
    simp only [List.getLastD_eq_getLast?, List.getLast?_append, List.getLast?_singleton, Option.some_or, Option.getD_some]
    omega

theorem longTo_get (x : Str) : ∀ n e, e ≤ n → (longTo x n)[e]? = some ((longTo x e).getLastD 0)
  | 0, e, h => by
    have : e = 0 := by omega
    subst this; exact longTo_last x 0
  | n + 1, e, h => by
    by_cases he : e = n + 1
    · subst he; exact longTo_last x (n + 1)
    · rw [longTo, List.getElem?_append_left (by rw [longTo_len]; omega)]
      exact longTo_get x n e (by omega)
theorem most_tau {x : Str} {e : Nat} (h : e ≤ x.length) : (longTo x x.length).getD e 0 = tauN (revN x e) := by
  rw [List.getD_eq_getElem?_getD, longTo_get x _ _ h, Option.getD_some, long_tau x e h]

theorem perL_list (X : List Nat) (s : Nat) : perL X s = true ↔ X.drop s = X.take (X.length - s) := by
  unfold perL
  rw [List.all_eq_true]
  constructor
  · intro h
    apply List.ext_getElem?
    intro i
    rw [List.getElem?_drop]
    by_cases hi : i < X.length - s
    · have := eq_of_beq (h i (List.mem_range.mpr hi))
      rw [List.getElem?_take_of_lt hi, getD_eq (show s + i < X.length by omega), getD_eq (show i < X.length by omega), this]
    · rw [List.getElem?_take_eq_none (by omega), List.getElem?_eq_none (by omega)]
  · intro h i hi
    have hi := List.mem_range.mp hi
    have : (X.drop s)[i]? = (X.take (X.length - s))[i]? := by rw [h]
    rw [List.getElem?_drop, List.getElem?_take_of_lt hi] at this
    rw [List.getD_eq_getElem?_getD, List.getD_eq_getElem?_getD, this]
    exact beq_self_eq_true _

theorem perL_rev {x : Str} {e s : Nat} (hs : s ≤ e) (h : e ≤ x.length) : perL (x.cps.toList.take e) s = perN (revN x e) s := by
  have hl : (x.cps.toList.take e).length = e := by rw [List.length_take, ← len_list]; omega
  have key : perN (revN x e) s = true ↔ perL (x.cps.toList.take e) s = true := by
    unfold perN
    rw [eqN_iff, perL_list, revN_len h, hl]
    unfold revN
    rw [List.drop_reverse, List.take_reverse, hl, Nat.sub_sub_self hs, List.reverse_inj]
    exact eq_comm
  cases h1 : perL (x.cps.toList.take e) s with
  | true => exact (key.mpr h1).symm
  | false =>
    cases h2 : perN (revN x e) s with
    | false => rfl
    | true => rw [key.mp h2] at h1; cases h1

theorem perN_get {w : List Nat} {s : Nat} (h : perN w s = true) : ∀ i, i + s < w.length → w[i]? = w[i + s]? := by
  intro i hi
  have h1 := (eqN_iff _ _).mp h
  have : (w.drop s)[i]? = (w.take (w.length - s))[i]? := by rw [h1]
  rw [List.getElem?_drop, List.getElem?_take_of_lt (by omega), Nat.add_comm s i] at this
  exact this.symm
theorem perN_mk {w : List Nat} {s : Nat} (h : ∀ i, i + s < w.length → w[i]? = w[i + s]?) : perN w s = true := by
  unfold perN
  rw [eqN_iff]
  apply List.ext_getElem?
  intro i
  rw [List.getElem?_drop]
  by_cases hi : i < w.length - s
  · rw [List.getElem?_take_of_lt hi, Nat.add_comm s i]; exact (h i (by omega)).symm
  · rw [List.getElem?_take_eq_none (by omega), List.getElem?_eq_none (by omega)]

/-- a text of period s with a plain beginning of length s has no longer plain stretch -/
theorem tau_per {x : Str} {s : Nat} (hs : 1 ≤ s) (hpl : bordN (revN x s) s (s / 2) = false) : ∀ e, s ≤ e → e ≤ x.length → perN (revN x e) s = true → tauN (revN x e) = s
  | 0, h, _, _ => by omega
  | i + 1, h, hx, hp => by
    obtain ⟨c, hc⟩ := revN_succ hx
    have hl : (revN x i).length = i := revN_len (by omega)
    have hl1 : (revN x (i + 1)).length = i + 1 := revN_len hx
    have e1 : tauN (revN x (i + 1)) = longN (revN x (i + 1)) (tauN (revN x i)) (i + 1) := by
      rw [hc, tauN, hl]
    have hq := tauN_le (revN x i)
    rw [hl] at hq
    obtain ⟨h1, h2, h3, h4⟩ := longN_spec (revN x (i + 1)) (tauN (revN x i)) (i + 1) (by omega)
    rw [← e1] at h1 h2 h3 h4
    by_cases he : s = i + 1
    · subst he
      by_cases hlt : tauN (revN x (i + 1)) < i + 1
      · have := h3 (i + 1) hlt (Nat.le_refl _)
        rw [List.take_of_length_le (by omega), hpl] at this
        cases this
      · omega
    · have hg := perN_get hp
      have ih := tau_per hs hpl i (by omega) (by omega) (perN_mk fun k hk => by
        have := hg (k + 1) (by omega)
        rw [hc, List.getElem?_cons_succ, show k + 1 + s = (k + s) + 1 by omega, List.getElem?_cons_succ] at this
        exact this)
      rw [ih] at h1 h4
      by_cases hgt : s < tauN (revN x (i + 1))
      · exfalso
        have h5 := h4 hgt
        have hl2 : ((revN x (i + 1)).take (tauN (revN x (i + 1)))).length = tauN (revN x (i + 1)) := by rw [List.length_take]; omega
        have h6 := per_bord (l := (revN x (i + 1)).take (tauN (revN x (i + 1)))) (s := s) hs (by omega) (fun k hk => by
          rw [List.getElem?_take_of_lt (by omega), List.getElem?_take_of_lt (by omega)]
          exact hg k (by omega))
        rw [hl2, h5] at h6
        cases h6
      · omega

theorem revN_signs {x : Str} {e : Nat} (hc : ∀ c ∈ x.cps.toList, c = 42 ∨ c = 43 ∨ c = 44) : ∀ c ∈ revN x e, c = 42 ∨ c = 43 ∨ c = 44 := fun c h => hc c (List.mem_of_mem_take (List.mem_reverse.mp h))

/-- the first half of the law -/
theorem law_one {x : Str} {e : Nat} (hx : x.length ≤ 11) (hc : ∀ c ∈ x.cps.toList, c = 42 ∨ c = 43 ∨ c = 44) (h1 : 1 ≤ e) (he : e ≤ x.length) (h3 : 3 * (longTo x x.length).getD e 0 ≤ e + 2) :
    perL (x.cps.toList.take e) ((longTo x x.length).getD e 0) = true := by
  rw [most_tau he] at h3 ⊢
  have hl := revN_len he
  have ht := tauN_le (revN x e)
  rw [hl] at ht
  rw [perL_rev ht he]
  have h := chk_all (w := revN x e) (by omega) (by omega) (revN_signs hc) (by omega)
  unfold chkN at h
  rw [hl, Nat.ble_eq.mpr h3] at h
  exact h

/-- the other half -/
theorem law_two {x : Str} {e s : Nat} (hx : x.length ≤ 11) (hc : ∀ c ∈ x.cps.toList, c = 42 ∨ c = 43 ∨ c = 44) (hs : 1 ≤ s) (h2 : 2 * s ≤ e + 1) (he : e ≤ x.length) (hp : plainS (preS x s) = true) :
    perL (x.cps.toList.take e) s = decide ((longTo x x.length).getD e 0 = s) := by
  rw [most_tau he]
  have hl := revN_len he
  have hse : s ≤ e := by omega
  rw [perL_rev hse he]
  have hb : bordN (revN x s) s (s / 2) = false := by
    rw [plain_pre (by omega)] at hp
    simpa using hp
  by_cases ht : tauN (revN x e) = s
  · rw [decide_eq_true ht]
    have h := chk_all (w := revN x e) (by omega) (by omega) (revN_signs hc) (by omega)
    unfold chkN at h
    rw [hl, ht, revN_drop hse he, hb, Nat.ble_eq.mpr h2, Bool.not_false, Bool.and_true, Bool.or_true] at h
    exact h
  · rw [decide_eq_false ht]
    cases h : perN (revN x e) s with
    | false => rfl
    | true => exact absurd (tau_per hs hb e hse he h) ht
end Mine
end

theorem Mine.top_CompS : True := by
  w_top off
  exact True.intro

section
open PySem PySem.W PyProof.Rows PySem.Spec PySem.Calls
namespace Mine
set_option maxRecDepth 100000
set_option maxHeartbeats 4000000

section
variable {prog : Program} {w : World} {A : Around} {E : Value → Shared → Prop} {s : Shared} {env : Env} {h₀ : Heap}

/-- what one turn of the comprehension leaves -/
def TurnS (h₀ : Heap) (L : Addr) (m : Str → Option Value) (s₁ : Shared) (news : List (Addr × Obj)) (n : Int) (y : Value) (s₂ : Shared) : Prop :=
  (∃ t, y = .int n t) ∧ ∃ h' tk, s₂ = { s₁ with heap := h', toks := tk } ∧ Fr h₀ L h' m ∧ News h₀ L h' news
theorem TurnS.intro {L : Addr} {m : Str → Option Value} {s₁ : Shared} {news : List (Addr × Obj)} {n : Int} {t : Tok} {h' : Heap} {tk : Nat} (F : Fr h₀ L h' m) (N : News h₀ L h' news) : TurnS h₀ L m s₁ news n (.int n t) { s₁ with heap := h', toks := tk } :=
  ⟨⟨t, rfl⟩, h', tk, rfl, F, N⟩

theorem ints_app : ∀ {vs : List Value} {ns : List Int} {n : Int} {t : Tok}, IntsAre vs ns → IntsAre (vs ++ [.int n t]) (ns ++ [n])
  | _, _, _, _, .nil => .cons _ _ .nil
  | _, _, _, _, .cons n t h => .cons n t (ints_app h)

theorem comp_turns {elt : Expr} {x : Str} {scope : Scope} {cl : List (Str × Addr)} {z : Str} {m : Str → Option Value} {news : List (Addr × Obj)} {s₂ : Shared} {g : Nat → Int} {Fin : List Value → List (Addr × Obj) → Prop}
    (turn : ∀ (c : Nat) (u : Tok) (I : Addr) (oI : Obj) (C : Addr) (oC : Obj) (D : Addr) (ys : List Value) m₂ h tk (E' : Value → Shared → Prop), c ∈ z.cps.toList → LCg.NsObj oC m₂ → m₂ x = some (.str ⟨#[c]⟩ u) → Fr h₀ env.locals h m →
      News h₀ env.locals h ((I, oI) :: (C, oC) :: (D, LCg.lst ys) :: news) →
      wpAny (model prog w) A (eval elt (compEnvC scope cl C env)) (TurnS h₀ env.locals m { s₂ with heap := h, toks := tk } ((I, oI) :: (C, oC) :: (D, LCg.lst ys) :: news) (g c)) E' { s₂ with heap := h, toks := tk })
    (fin : ∀ ys, IntsAre ys (z.cps.toList.map g) → Fin ys news) :
    ∀ (k i : Nat) (ys : List Value), i + k = z.cps.size → IntsAre ys ((z.cps.toList.take i).map g) →
      LCg.CompRest prog w A h₀ env.locals m env elt x scope cl s₂ (fun _ => True) (SignAt z) Fin k i ys news
  | 0, i, ys, hk, hy => by
    refine LCg.CompRest.zero (fin ys ?_)
    rwa [List.take_of_length_le (by simp; omega)] at hy
  | k + 1, i, ys, hk, hy => by
    refine LCg.CompRest.succ ?_
    rintro v I oI C oC D m₂ h tk E' ⟨c, u, hc, rfl⟩ hC hx F N off _
    have hcl : z.cps.toList[i]? = some c := by rw [← hc]; simp
    refine wpAny_mono (turn c u I oI C oC D ys m₂ h tk E' (List.mem_of_getElem? hcl) hC hx F N) ?_ fun _ _ e => e
    rintro y s' ⟨⟨t, rfl⟩, h', tk', rfl, F', N'⟩
    refine LCg.CompEnd.intro F' N' news (fun _ hp => hp) off trivial ?_
    refine comp_turns turn fin k (i + 1) _ (by omega) ?_
    have e : (z.cps.toList.take (i + 1)).map g = (z.cps.toList.take i).map g ++ [g c] := by
      rw [List.take_add_one, hcl, List.map_append]; rfl
    rw [e]
    exact ints_app hy

theorem assign_signs {elt iter : Expr} {x y : Str} {px py : Pos} {scope : Scope} {cl : List (Str × Addr)} {pos spos : Pos} {Q : Flow → Shared → Prop} {z : Str} {t : Tok} {news : List (Addr × Obj)} {m : Str → Option Value} (g : Nat → Int)
    (hh : A.handled = none)
    (hsw : swapsWith (.ListComp elt [⟨.Name x px, iter, [], 0⟩] scope pos) (some (.Name y py)) spos.line env = pure true)
    (hclos : closureFor scope env = pure cl) (hcell : ∀ q ∈ scope.names, q.2 ≠ .cell) (hkind : scope.kind = .function)
    (hnames : ∀ q ∈ scope.names, q.2 = .local → scope.names.lookup q.1 = some .local) (hx : scope.names.lookup x = some .local)
    (hy : env.kindOf y = some .local) (hp : (env.scope.kind == .class || (env.scope.kind == .module && env.locals != env.globals)) = false)
    (F : Fr h₀ env.locals s.heap m) (N : News h₀ env.locals s.heap news)
    (hz : z.cps.all (· < 128) = true) (hsz : z.cps.size ≤ sizeLine)
    (hiter : ∀ Q' : Value → Shared → Prop, Q' (.str z t) s → wpAny (model prog w) A (eval iter env) Q' E s)
    (turn : ∀ (c : Nat) (u : Tok) (I : Addr) (oI : Obj) (C : Addr) (oC : Obj) (D : Addr) (ys : List Value) m₂ h tk (E' : Value → Shared → Prop), c ∈ z.cps.toList → LCg.NsObj oC m₂ → m₂ x = some (.str ⟨#[c]⟩ u) → Fr h₀ env.locals h m →
      News h₀ env.locals h ((I, oI) :: (C, oC) :: (D, LCg.lst ys) :: news) →
      wpAny (model prog w) A (eval elt (compEnvC scope cl C env)) (TurnS h₀ env.locals m { s with heap := h, toks := tk } ((I, oI) :: (C, oC) :: (D, LCg.lst ys) :: news) (g c)) E' { s with heap := h, toks := tk })
    (fin : ∀ D ys h tk, IntsAre ys (z.cps.toList.map g) → Fr h₀ env.locals h (fun q => if q = y then some (.ref D) else m q) → News h₀ env.locals h ((D, W.listOf ys.toArray ys.length) :: news) → Q .next { s with heap := h, toks := tk })
    (hs : ∀ x, foldedSetIterable iter env x = pure x := by intro _; rfl) :
    wpAny (model prog w) A (exec (.Assign [.Name y py] (.ListComp elt [⟨.Name x px, iter, [], 0⟩] scope pos) spos) env) Q E s := by
  rw [exec_Assign_Name_used _ _ _ _ hsw]
  refine wpAny_bind (wpAny_standAt (wpAny_bind ?_))
  show wpAny _ A (do let _ ← comprehension (.ListComp elt [⟨.Name x px, iter, [], 0⟩] scope pos) scope env _ (newList []) false (eval iter env) (some (assign (.Name y py) env))) _ _ s
  refine wpAny_bind (wpAny_mono (wpAny_comprehension_free (use := some (assign (.Name y py) env)) (Q := fun _ s' => Q .next s') rfl hs hclos hkind hnames
    (hiter _ ?_)) (fun _ s' hq => wpAny_pure (wpAny_pure hq)) fun _ _ e => e)
  refine wpAny_pyIter_ascii hz ?_
  have up : ∀ b o, s.heap.get? b = some o → (s.heap.push { cls := .type "str_ascii_iterator", data := .fields #[.str z t, .int 0 0] }).get? b = some o := fun b o e => Heap.get?_push_of_some _ e
  refine LCg.block_U (Walks.strAscii hh s.heap.objs.size z t) hsz (fun i h st => by obtain ⟨o, e, _⟩ := st; exact ⟨o, e⟩) (S := fun _ => True) ?_ hcell hkind hx ⟨_, Heap.get?_push_size _ rfl, rfl, rfl⟩ (fun b hb => ?_)
    (F.keeps up) (N.grown up) (Nat.ne_of_lt F.ns.lt) (next_is_new F) (fun p hp => Nat.ne_of_lt (Heap.lt_size (N p hp).1)) trivial
    (comp_turns (s₂ := { s with heap := s.heap.push { cls := .type "str_ascii_iterator", data := .fields #[.str z t, .int 0 0] } }) turn
      (Fin := fun ys nw => nw = news ∧ IntsAre ys (z.cps.toList.map g)) (fun ys h => ⟨rfl, h⟩) z.cps.size 0 [] (Nat.zero_add _) .nil) ?_
  · intro i h h' o nw st e e' _ _ _
    obtain ⟨o', q, r⟩ := st
    rw [e] at q; cases q
    exact ⟨o, e', r⟩
  · rw [List.mem_singleton.mp hb]
    show s.heap.objs.size < (s.heap.push _).objs.size
    rw [Heap.size_push]; exact Nat.lt_succ_self _
  · rintro D C h' tk m' ys news' F' N' o1 hn hC₀ hD₀ hCL hDL hCD offC ⟨rfl, hI⟩
    show wpAny _ A (assign (.Name y py) env (.ref D)) _ _ _
    refine wpAny_assign_Name (wpAny_storeName_local hy F'.ns (fun h₂ hn₂ hs₂ => ?_) hp)
    have F₂ := F'.set hn₂ hs₂
    have N₂ := N'.set hs₂
    refine ⟨m', hn.sameBut hs₂ hCL, fun h'' hs'' => fin D ys h'' _ hI (F₂.change hs'' hCL hC₀) fun p hp => ⟨hs''.extBut _ _ ?_ (N₂ p hp).1, (N₂ p hp).2⟩⟩
    rcases List.mem_cons.mp hp with rfl | hp
    · exact Ne.symm hCD
    · exact offC p hp
end
end Mine
end

theorem Mine.top_LawA : True := by
  w_top off
  exact True.intro

section
open PySem PySem.W PyProof.Rows PySem.Spec PySem.Calls
namespace Mine
set_option maxRecDepth 100000
set_option maxHeartbeats 4000000

def codeOf (c : Nat) : Int := 100 - 2 * (c : Int)
def nums (X : List Nat) : List Int := X.map codeOf

theorem alike_per (X : List Nat) (e s : Nat) : alikeFrom ((nums X).take e) s (((nums X).take e).length - s) = perL (X.take e) s := by
  unfold nums
  rw [← List.map_take, List.length_map]
  generalize X.take e = Y
  have hg : ∀ j, j < Y.length → (Y.map codeOf).getD j 0 = codeOf (Y.getD j 0) := by
    intro j hj
    rw [List.getD_eq_getElem?_getD, List.getD_eq_getElem?_getD, List.getElem?_map, List.getElem?_eq_getElem hj]; rfl
  have key : alikeFrom (Y.map codeOf) s (Y.length - s) = true ↔ perL Y s = true := by
    unfold alikeFrom perL
    rw [List.all_eq_true, List.all_eq_true]
    constructor
    · intro h i hi
      have hi' := List.mem_range.mp hi
      have h1 := of_decide_eq_true (h i hi)
      rw [hg _ (by omega), hg _ (by omega)] at h1
      unfold codeOf at h1
      rw [beq_iff_eq]; omega
    · intro h i hi
      have hi' := List.mem_range.mp hi
      have h1 := eq_of_beq (h i hi)
      rw [hg _ (by omega), hg _ (by omega), h1]
      exact decide_eq_true (Int.sub_self _)
  cases h : perL Y s with
  | true => exact key.mpr h
  | false =>
    cases h2 : alikeFrom (Y.map codeOf) s (Y.length - s) with
    | false => rfl
    | true => rw [key.mp h2] at h; cases h

section
variable {prog : Program} {w : World} {A : Around} {E : Value → Shared → Prop} {s : Shared} {h₀ : Heap}
theorem item_most {value slice : Expr} {l : Addr} {vs : List Value} {nn : Nat} {ns : List Nat} {j : Nat} {k : Int} {u : Tok} {L : Addr} {news : List (Addr × Obj)} {R : Value → Shared → Prop} (N : News h₀ L s.heap news) (hm : (l, listOf vs.toArray nn) ∈ news)
    (hi : IntsAre vs (ns.map Int.ofNat)) (hk : k = (j : Int)) (hj : j < ns.length) (hb : j ≤ 100) (h : ∀ t, R (.int ((ns.getD j 0 : Nat) : Int) t) s)
    (hs : subscripted slice false (.ref l) (.int k u) = operate [.ref l, .int k u] (getItem (.ref l) (.int k u)) := by with_unfolding_all rfl)
    (hg : ∀ r, letTemporaryGo value (.ref l) r = pure () := by intro _; with_unfolding_all rfl) :
    wpAny (model prog w) A (subscriptTail value slice (.ref l) (.int k u)) R E s := by
  subst hk
  have hl : s.heap.IsList l vs.toArray := News.isList N hm
  refine item_list_ints hl hi (Int.natCast_nonneg _) (by rw [List.length_map]; omega) (by omega) (fun t => ?_) hs hg
  have e : (ns.map Int.ofNat).getD ((j : Int)).toNat 0 = ((ns.getD j 0 : Nat) : Int) := by
    rw [Int.toNat_natCast, List.getD_eq_getElem?_getD, List.getD_eq_getElem?_getD, List.getElem?_map, List.getElem?_eq_getElem hj]; rfl
  rw [e]
  exact h t
theorem slice_nums {value slice : Expr} {l : Addr} {vs : List Value} {nn : Nat} {ns : List Int} {j : Nat} {k : Int} {t : Tok} {L : Addr} {m : Str → Option Value} {news : List (Addr × Obj)} {R : Value → Shared → Prop} (F : Fr h₀ L s.heap m) (N : News h₀ L s.heap news) (hm : (l, listOf vs.toArray nn) ∈ news)
    (hi : IntsAre vs ns) (hk : k = (j : Int)) (hsz : ns.length ≤ 100)
    (h : ∀ D ws h', Fr h₀ L h' m → News h₀ L h' ((D, listOf (List.toArray ws) 0) :: news) → IntsAre ws (ns.take j) → R (.ref D) { s with heap := h' })
    (hs : subscripted slice false (.ref l) (.ref s.heap.objs.size) = operate [.ref s.heap.objs.size, .ref l] (getItem (.ref l) (.ref s.heap.objs.size)) := by with_unfolding_all rfl)
    (ht : ∀ r, letTemporaryGo value (.ref l) r = pure () := by intro _; with_unfolding_all rfl) :
    wpAny (model prog w) A (subscriptTail value slice (.ref l) (.ref s.heap.objs.size)) R E { s with heap := s.heap.push { cls := .type "slice", data := .fields #[.none, .int k t, .none] } } := by
  subst hk
  have hz : ns.length ≤ sizeLine := by rw [sizeLine_eq]; omega
  have hm2 : IntsAre (slicePick vs.toArray none (some (j : Int)) none).toList (ns.take j) := by
    have := kmk_upto (y := (j : Int)) hi (Int.natCast_nonneg _)
    rwa [Int.toNat_natCast] at this
  exact kmk_slice_ints F N (News.isList N hm) IsPart.none (IsPart.int _ _) hi hm2 rfl (fun D ws h' F' N' _ hw _ _ => h D ws h' F' N' hw) hs ht (kmk_sz hi hz)
end
end Mine
end

theorem Mine.top_T8 : True := by
  w_top off
  exact True.intro

section
open PySem PySem.W PyProof.Rows
namespace Mine
set_option maxRecDepth 100000
set_option maxHeartbeats 8000000
local macro_rules | `(tactic| walk_at "none of mine") => `(tactic| skip)
local macro_rules | `(tactic| walk_at "none of mine two") => `(tactic| skip)
local macro_rules | `(tactic| walk_at "exec Assign cons ListComp") => `(tactic| (k_here; refine pause_here ?_))
local macro_rules | `(tactic| walk_at "exec For Name Call cons nil") => `(tactic| (k_here; k_dflt (refine For_pause ?_)))
local macro_rules | `(tactic| walk_at "subscriptTail Name Name ref int") => `(tactic| (k_here; k_dflt (refine item_most (by k_asm) (by k_mem) (by assumption) (by assumption) (by assumption) (by assumption) ?_); intro t7))
local macro_rules | `(tactic| walk_at "subscriptTail Name Slice ref ref") => `(tactic| (k_here; k_dflt (refine slice_nums (by k_asm) (by k_asm) (by k_mem) (by assumption) (by assumption) (by assumption) ?_); intro D8 ws8 h8 F8 N8 hw8))
local macro_rules | `(tactic| walk_at "call ref") => `(tactic| (k_here; refine pause_here ?_))
theorem law_holds : PySem.Challenge.rw_ti0013_01.Holds := hd (by
  k_fill
  intro w s₀ s₁ mg mb G Y fa o pm cd doc dV kV ho hdd hcd hD hmg hg args vals as hpre hlay hrd hwl hlo
  have KX := kIn_of Y
  have X := (Ground.X G).1
  have V := (Ground.X G).2
  refine Ground.open G ?_
  intro T B D TE TW
  try (refine guard_noD D (by decide +kernel) ?_; clear D)
  obtain ⟨_, _, M⟩ := bmod_of_top T
  have TA := at_of_top T
  try (obtain ⟨_, _, he, B0⟩ := based_of_top T rfl hmg ho hdd; have he' : cd = _ := he; subst he'; clear he)
  clear hmg
  wrow_args hpre hlay hrd hwl hlo
  all_goals (
    first | refine callC_kw (enter_call ?_) | refine enter_call ?_
    w_top on
    have K0 := below_caller (Top.heap T)
    w_call any ho hdd hcd hD T F
    clear hdd TA
    k_drop
    skip)
  all_goals try k_fold
  k_steps
  refine Pause.mk ?_
  rename IntsAre _ _ => hI
  rename Heap.IsList _ _ _ => hL
  rename (¬ ((63 : Nat) : Int) < _) => hc
  rename News _ _ _ _ => N
  k_dflt (refine text_tell w _ _ _ _ _ _ hI (by omega) _ _ _ _ _ _ _ _ _ _ _ _ _ _ _ _ _ _ K0 F KX N T (by rfl) hL (by ktr_room) (by ktr_units) ?_)
  intro y t h9 tk9 hy1 hy2 hq F N
  k_steps
  refine Pause.mk ?_
  rename Fr _ _ _ _ => F1
  rename News _ _ _ _ => N1
  k_dflt (refine assign_signs codeOf (z := y) (t := t) (by rfl) (by with_unfolding_all rfl) (by with_unfolding_all rfl) (by decide) (by rfl) (by decide) (by rfl) (by rfl) (by rfl) F1 N1 ?hz ?hsz ?hit ?turn ?fin)
  case hz =>
    rw [← Array.all_toList, List.all_eq_true]
    intro c hc
    rcases hq c hc with rfl | rfl | rfl <;> rfl
  case hsz =>
    have : y.cps.size ≤ 11 := hy2
    rw [PySem.sizeLine_eq]; omega
  case hit =>
    intro Q' hQ'
    k_steps
    exact hQ'
  case turn =>
    intro c u I oI C oC D ys m₂ h tk E' hc hC hx Fh Nh
    clear F1 N1
    rcases hq c hc with rfl | rfl | rfl
    all_goals (k_steps; exact TurnS.intro (by assumption) (by assumption))
  case fin =>
    intro D vs h tk hvs Fh Nh
    clear F1 N1
    generalize vs.length = nv at Nh
    k_steps
    refine Pause.mk ?_
    rename Fr _ _ _ _ => F1
    rename News _ _ _ _ => N1
    have hdot : ∀ k, k = 46 ∨ k = 126 → k ∉ y.cps.toList := by
      intro k hk hm
      rcases hq k hm with rfl | rfl | rfl <;> omega
    k_dflt (refine TellL.use (longest_tell w _ _ _ y t (by omega) (hdot _ (.inl rfl))) K0 F1 KX N1 T (by rfl) (by ktr_room) (by ktr_units) ?_)
    intro l its ls nl h2 tk2 hI2 hls F2 N2 hlt
    clear F1 N1
    subst hls
    obtain ⟨ls, rfl⟩ : ∃ ls : List Value, its = ls.toArray := ⟨its.toList, by simp⟩
    have hM : IntsAre ls ((longTo y y.length).map Int.ofNat) := by simpa using hI2
    clear hI2
    have hN : IntsAre vs (nums y.cps.toList) := hvs
    clear hvs
    have hNl : (nums y.cps.toList).length ≤ 100 := by unfold nums; rw [List.length_map, ← len_list]; omega
    have hlen := longTo_len y y.length
    k_steps
    refine Pause.mk ?_
    rename Fr _ _ _ _ => F1
    rename News _ _ _ _ => N1
    rename IsRange _ _ _ _ _ _ _ _ => rgX
    refine iter_rangeM (σ := Unit) (fun _ => [(l, listOf ls.toArray nl), (D, listOf vs.toArray nv)]) (fun _ => [(Str.ofString "text", .str y t), (Str.ofString "numbers", .ref D), (Str.ofString "most", .ref l)])
      (fun i _ gs => gs = #[]) () (by rfl) rgX (small_one (by omega) (by omega) (by omega) (by omega)) (rangeSize_nat _ _) (by rfl) (by rfl) (by passes_own) F1 N1 ?_ ?_ ?_ ?_
    · (repeat (first | exact List.forall_mem_nil _ | refine List.forall_mem_cons.mpr ⟨by rfl, ?_⟩))
    · exact hg
    · rintro i ti ⟨⟩ u gs h tk own hi hoff - rfl Fi Ni
      clear F1 N1 rgX
      dsimp only at Fi Ni ⊢
      have hi1 : i + 1 ≤ y.length := by omega
      have hj : (1 : Int) + (i : Int) = ((i + 1 : Nat) : Int) := by omega
      have hjl : i + 1 < (longTo y y.length).length := by omega
      have hj100 : i + 1 ≤ 100 := by omega
      k_steps
      · refine Pause.mk ?_
        rename Fr _ _ _ _ => lF
        rename News _ _ _ _ => lN
        rename IntsAre _ (List.take _ _) => hw
        rename (3 * _ - 2 ≤ _) => h3
        k_dflt (refine Tell.use (alike_tell w _ _ _ _ _ _ 0 _ _ hw (by omega) (by rw [List.length_take]; omega)) K0 lF KX lN T (by rfl) (by k_mem) (by ktr_room) (by ktr_units) ?_)
        clear lF lN
        intro v7 h7 tk7 hv7 F7 N7
        (try dsimp only at hv7)
        subst hv7
        rw [alike_per, law_one hy2 hq (by omega) hi1 (by omega)]
        k_steps
        rename Fr _ _ _ _ => lF
        rename News _ _ _ _ => lN
        exact StepM.next () lF lN (fun _ x => .tail _ x) rfl (by (repeat (first | exact List.forall_mem_nil _ | refine List.forall_mem_cons.mpr ⟨by rfl, ?_⟩))) rfl
      · rename Fr _ _ _ _ => lF
        rename News _ _ _ _ => lN
        exact StepM.next () lF lN (fun _ x => x) rfl (by (repeat (first | exact List.forall_mem_nil _ | refine List.forall_mem_cons.mpr ⟨by rfl, ?_⟩))) rfl
    · rintro ⟨⟩ u h tk gs - rfl Fi Ni
      clear F1 N1 rgX
      dsimp only at Fi Ni ⊢
      k_steps
      refine Pause.mk ?_
      rename Fr _ _ _ _ => F1
      rename News _ _ _ _ => N1
      rename IsRange _ _ _ _ _ _ _ _ => rgX
      have eh : ((y.length : Int) + 1).fdiv 2 = (((y.length + 1) / 2 : Nat) : Int) := by
        have h := half_int (y.length + 1)
        rw [Int.natCast_add] at h
        exact h
      refine iter_rangeM (σ := Unit) (fun _ => [(l, listOf ls.toArray nl), (D, listOf vs.toArray nv)]) (fun _ => [(Str.ofString "text", .str y t), (Str.ofString "numbers", .ref D), (Str.ofString "most", .ref l)])
        (fun i _ gs => AllBare gs) () (by rfl) rgX (small_one (by omega) (by omega) (by omega) (by omega)) (rangeSize_nat _ _) (by rfl) (by rfl) (by passes_own) F1 N1 ?_ ?_ ?_ ?_
      · (repeat (first | exact List.forall_mem_nil _ | refine List.forall_mem_cons.mpr ⟨by rfl, ?_⟩))
      · intro g hgm; simp at hgm
      · rintro i ti ⟨⟩ u gs h tk own hi hoff - hAB Fi Ni
        clear F1 N1 rgX
        dsimp only at Fi Ni ⊢
        have hi1 : i + 1 ≤ (y.length + 1) / 2 := by omega
        have hi2 : i + 1 ≤ y.length := by omega
        k_steps
        refine Pause.mk ?_
        rename Fr _ _ _ _ => lF
        rename News _ _ _ _ => lN
        have es := slice_pre' y (b := i + 1) (j := 1 + (i : Int)) (by omega) hi2
        rw [es]
        have hp := preS_len y hi2
        k_dflt (refine Tell.use (plain_tell w _ _ _ (preS y (i + 1)) _ (by omega) (preS_free (hdot _ (.inl rfl)))) K0 lF KX lN T (by rfl) True.intro (by ktr_room) (by ktr_units) ?_)
        clear lF lN
        intro v7 h7 tk7 hv7 F7 N7
        (try dsimp only at hv7)
        subst hv7
        have hpl : plainTo (preS y (i + 1)) ((preS y (i + 1)).length / 2) = plainS (preS y (i + 1)) := rfl
        rw [hpl]
        k_steps
        · rename (plainS _ = true) => hps
          refine Pause.mk ?_
          rename Fr _ _ _ _ => F1
          rename News _ _ _ _ => N1
          rename IsRange _ _ _ _ _ _ _ _ => rgX
          refine iter_rangeM (σ := Unit) (fun _ => (l, listOf ls.toArray nl) :: (D, listOf vs.toArray nv) :: own) (fun _ => [(Str.ofString "text", .str y t), (Str.ofString "numbers", .ref D), (Str.ofString "most", .ref l), (Str.ofString "size", .int (1 + (i : Int)) ti)])
            (fun _ _ gs => AllBare gs) () (by rfl) rgX (small_one (by omega) (by omega) (by omega) (by omega)) (rangeSize_nat _ _) (by rfl) (by rfl) (by passes_own) F1 N1 ?_ ?_ ?_ ?_
          · (repeat (first | exact List.forall_mem_nil _ | refine List.forall_mem_cons.mpr ⟨by rfl, ?_⟩))
          · exact hAB
          · rintro j tj ⟨⟩ u2 gs2 h2 tk2 own2 hj hoff2 - hAB2 Fj Nj
            clear F1 N1 rgX
            dsimp only at Fj Nj ⊢
            have he : 2 * i + 1 + j ≤ y.length := by omega
            have hk1 : 2 * (1 + (i : Int)) - 1 + (j : Int) = ((2 * i + 1 + j : Nat) : Int) := by omega
            have hk2 : 2 * i + 1 + j < (longTo y y.length).length := by omega
            have hk3 : 2 * i + 1 + j ≤ 100 := by omega
            k_steps
            refine Pause.mk ?_
            rename Fr _ _ _ _ => lF
            rename News _ _ _ _ => lN
            have hsaid : ((((longTo y y.length).getD (2 * i + 1 + j) 0 : Nat) : Int) == 1 + (i : Int)) = decide ((longTo y y.length).getD (2 * i + 1 + j) 0 = i + 1) := by
              rw [Bool.eq_iff_iff, beq_iff_eq, decide_eq_true_iff]; omega
            rw [hsaid] at lF
            have hper := law_two (e := 2 * i + 1 + j) (s := i + 1) hy2 hq (by omega) (by omega) he hps
            generalize decide ((longTo y y.length).getD (2 * i + 1 + j) 0 = i + 1) = bb at lF hper
            have es2 := slice_pre' y (b := 2 * i + 1 + j) (j := 2 * (1 + (i : Int)) - 1 + (j : Int)) hk1 he
            have hsz : (1 : Int) + (i : Int) = ((i + 1 : Nat) : Int) := by omega
            rw [es2, hsz]
            have hp2 := preS_len y he
            k_dflt (refine TellG.use (turns_tell w _ _ _ (preS y (2 * i + 1 + j)) (i + 1) _ _ (by omega) (by omega) (by omega) (preS_free (hdot _ (.inl rfl))) (preS_free (hdot _ (.inr rfl)))) K0 lF KX lN T (by rfl) hAB2 (by ktr_room) (by ktr_units) ?_)
            clear lF lN
            intro v8 h8 tk8 gs8 hv8 hAB8 F8 N8
            (try dsimp only at hv8)
            subst hv8
            rw [preS_list, hper]
            cases bb
            all_goals (
              k_steps
              refine Pause.mk ?_
              rename Fr _ _ _ _ => lF
              rename News _ _ _ _ => lN
              rename IntsAre _ (List.take _ _) => hw
              rw [hsz]
              k_dflt (refine Tell.use (alike_tell w _ _ _ _ _ _ 0 _ _ hw (by omega) (by rw [List.length_take]; omega)) K0 lF KX lN T (by rfl) (by k_mem) (by ktr_room) (by ktr_units) ?_)
              clear lF lN
              intro v9 h9 tk9 hv9 F9 N9
              (try dsimp only at hv9)
              subst hv9
              rw [alike_per, hper]
              k_steps
              rename Fr _ _ _ _ => lF
              rename News _ _ _ _ => lN
              exact StepM.next () lF lN (fun _ x => .tail _ x) rfl (by rw [← hsz]; (repeat (first | exact List.forall_mem_nil _ | refine List.forall_mem_cons.mpr ⟨by rfl, ?_⟩))) hAB8)
          · rintro ⟨⟩ u2 h2 tk2 gs2 - hAB2 Fj Nj
            clear F1 N1 rgX
            dsimp only at Fj Nj ⊢
            k_steps
            exact StepM.next () Fj Nj (fun _ x => x) rfl (by (repeat (first | exact List.forall_mem_nil _ | refine List.forall_mem_cons.mpr ⟨by rfl, ?_⟩))) hAB2
        · rename Fr _ _ _ _ => lF
          rename News _ _ _ _ => lN
          exact StepM.next () lF lN (fun _ x => x) rfl (by (repeat (first | exact List.forall_mem_nil _ | refine List.forall_mem_cons.mpr ⟨by rfl, ?_⟩))) hAB
      · rintro ⟨⟩ u h tk gs - hAB Fi Ni
        clear F1 N1 rgX
        dsimp only at Fi Ni ⊢
        k_steps
        dsimp only
        refine ⟨.inl ⟨_, _, _, rfl, raisesW_false (by wrow_none_raised), (by w_reads), (postW_of (by wrow_shape) (by wtm_val) (by str_meet; first | done | w_fin)), unshared_nil⟩, OldK.of_keep Fi.keep, by row_os, hAB⟩)
end Mine
end

set_option maxRecDepth 100000 in
theorem PySem.Challenge.cw_ti0013_01_holds : PySem.Challenge.rw_ti0013_01.Holds := by
  exact Mine.law_holds
