import PyProof.Rows.All
import Wide.All
import OpenK.AllK
import Wide.FinOn
import PySem.Challenge.RW_dn0160_03
open PySem PySem.W PyProof.Rows PySem.Calls
set_option Elab.async false
set_option maxRecDepth 100000
set_option maxHeartbeats 8000000
namespace Mine
open Sem (wp)
open AutoSeq1 (wpAny_loadPart')
section
variable {prog : Program} {w : World} {A : Around} {E : Value → Shared → Prop} {s : Shared}

theorem nextOf_tuple_item {it l : Addr} {i : Nat} {items : Array Value} {x : Value} {Q : Value → Shared → Prop} (hit : s.heap.IsTupleIter it l i)
    (hl : s.heap.IsTuple l items) (hx : items[i]? = some x)
    (hQ : ∀ h', h'.IsTupleIter it l (i + 1) → Heap.SameBut it s.heap h' → Q x { s with heap := h' }) :
    wpAny (model prog w) A (Builtin.SmallTypes.nextOf (.ref it)) Q E s := by
  obtain ⟨o, ho, hc, hd⟩ := id hit
  obtain ⟨ol, hol, _, nl, hdl⟩ := hl
  unfold Builtin.SmallTypes.nextOf
  refine wpAny_bind (wpAny_callSpecial?_slot (name := Str.ofString "__next__") hit.typeIs F.slot_tuple_iterator_next
    (wpAny_call_entry F.slot_tuple_iterator_next hit.typeIs F.entry_tuple_iterator_next ?_ (F.args_tuple_iterator_next_1 _)))
  show wpAny _ _ (field (.ref it) 0 >>= _) _ _ s
  refine wpAny_bind (wpAny_field ho hd (x := .ref l) rfl ?_)
  show wpAny _ _ (if (Value.ref l == Value.none) = true then _ else _) _ _ s
  rw [if_neg (show ¬ ((Value.ref l == Value.none) = true) from Bool.false_ne_true)]
  show wpAny _ _ (field (.ref it) 1 >>= _) _ _ s
  refine wpAny_bind (wpAny_field ho hd (x := .int i 0) rfl ?_)
  show wpAny _ _ (seqItems? (.ref l) >>= _) _ _ s
  refine wpAny_bind (wpAny_seqItems hol hdl ?_)
  simp only [Int.toNat_natCast, hx]
  refine wpAny_bind (wpAny_setField ho hd (by simp) (wpAny_pure ⟨x, rfl, wpAny_pure (hQ _ ?_ (Heap.SameBut.update ..))⟩))
  exact ⟨_, Heap.get?_update_self _ ho (Obj.isFreed_of_fields (Obj.data_mapFields hd _)), (Obj.cls_mapFields ..).trans hc, by
    rw [Obj.data_mapFields hd]; simp [rawInt]⟩

theorem nextOf_tuple_end {it l : Addr} {i : Nat} {items : Array Value} {Q : Value → Shared → Prop} (hh : A.handled = none)
    (hit : s.heap.IsTupleIter it l i) (hl : s.heap.IsTuple l items) (hx : items[i]? = none)
    (hE : ∀ h' e, Heap.ExtBut it s.heap h' → (∃ o, h'.get? e = some o ∧ o.cls = .type "StopIteration") → E (.ref e) { s with heap := h' }) :
    wpAny (model prog w) A (Builtin.SmallTypes.nextOf (.ref it)) Q E s := by
  obtain ⟨o, ho, hc, hd⟩ := id hit
  obtain ⟨ol, hol, _, nl, hdl⟩ := hl
  unfold Builtin.SmallTypes.nextOf
  refine wpAny_bind (wpAny_callSpecial?_slot (name := Str.ofString "__next__") hit.typeIs F.slot_tuple_iterator_next
    (wpAny_call_entry F.slot_tuple_iterator_next hit.typeIs F.entry_tuple_iterator_next ?_ (F.args_tuple_iterator_next_1 _)))
  show wpAny _ _ (field (.ref it) 0 >>= _) _ _ s
  refine wpAny_bind (wpAny_field ho hd (x := .ref l) rfl ?_)
  show wpAny _ _ (if (Value.ref l == Value.none) = true then _ else _) _ _ s
  rw [if_neg (show ¬ ((Value.ref l == Value.none) = true) from Bool.false_ne_true)]
  show wpAny _ _ (field (.ref it) 1 >>= _) _ _ s
  refine wpAny_bind (wpAny_field ho hd (x := .int i 0) rfl ?_)
  show wpAny _ _ (seqItems? (.ref l) >>= _) _ _ s
  refine wpAny_bind (wpAny_seqItems hol hdl ?_)
  simp only [Int.toNat_natCast, hx]
  refine wpAny_bind (wpAny_rule (wpAny_bind (wpAny_setField ho hd (by simp) ?_)))
  show wpAny _ _ (newExc (.type "StopIteration") [] >>= _) _ _ _
  refine wpAny_bind ?_
  simp only [newExc, newTuple]
  refine wpAny_bind (wpAny_newObj_type ?_ (by size_fits))
  refine wpAny_bind (m := firstArgMember _ _) (wpAny_of_eq (a := Value.none) (by first | rfl | (simp only [firstArgMember]; rfl)) ?_)
  refine wpAny_newObj_type ?_ (by size_fits)
  simp only [raiseNew]
  refine wpAny_bind (wpAny_handled ?_)
  first | rw [show A.in1.handled = none from hh] | rw [hh]
  refine wpAny_bind (wpAny_pure (wpAny_throw ?_))
  exact hE _ _ (((Heap.SameBut.update ..).extBut.push _).push _) ⟨_, Heap.get?_push_size _ rfl, rfl⟩
end

theorem drawsTuple {prog : Program} {w : World} {A : Around} (hh : A.handled = none) (it l : Addr) (hne : l ≠ it) (items : Array Value) :
    Draws prog w A it [it, l] items.size (fun i v => items[i]? = some v) (fun i h => h.IsTupleIter it l i ∧ h.IsTuple l items) where
  live := fun _ _ st => let ⟨o, ho, _⟩ := st.1; ⟨o, ho⟩
  frame := fun _ _ _ st hk => ⟨st.1.at fun o e => hk it (by simp) o e, st.2.at fun o e => hk l (by simp) o e⟩
  item := fun i s Q E hi st hQ => by
    refine nextOf_tuple_item st.1 st.2 (x := items[i]) (by simp [hi]) fun h' hit' hs' => ?_
    exact hQ _ h' s.toks (by simp [hi]) ⟨hit', st.2.extBut hs'.extBut hne⟩ hs'
  done := fun s Q E st hE => nextOf_tuple_end hh st.1 st.2 (by simp) hE

theorem meets_enumerate_newT (l : Addr) (items : Array Value) (n : Nat) (dct : Option Addr) (sl : Array (Option Value)) :
    Meets (Builtin.«enumerate.__new__» ⟨[.type "enumerate", .ref l], []⟩) (fun _ R s => s.heap.get? l = some { cls := .type "tuple", dict := dct, data := .seq items n, slots := sl } ∧
      R (.ok (.ret (.ref (s.heap.push { cls := .type "tuple_iterator", data := .fields #[.ref l, .int 0 0] }).objs.size)))
        { s with heap := (s.heap.push { cls := .type "tuple_iterator", data := .fields #[.ref l, .int 0 0] }).push { cls := .type "enumerate", data := .fields #[.none, .bool false, .ref s.heap.objs.size, rawInt 0, .none, .none] } }) :=
  .of_wp fun prog w A R s h => by
    obtain ⟨hp, g, d, tk, os⟩ := s; obtain ⟨hl, h⟩ := h
    have hsub := sub_enumerate
    have hL : Heap.IsTuple (Shared.heap ⟨hp, g, d, tk, os⟩) l items := ⟨_, hl, rfl, n, rfl⟩
    wp_walk using wpAny_loadPart' hl
    refine wpAny_stack_any fun st => wpAny_pure ?_
    split
    · rename_i c _ _ _ _ _
      cases (c == Value.type "enumerate")
      · wp_walk using wpAny_loadPart' hl, wpAny_pyIter_tuple hL
        exact ⟨_, rfl, h⟩
      · wp_walk using wpAny_loadPart' hl, wpAny_pyIter_tuple hL
        exact ⟨_, rfl, h⟩
    · wp_walk using wpAny_loadPart' hl, wpAny_pyIter_tuple hL
      exact ⟨_, rfl, h⟩

section
variable {prog : Program} {w : World} {A : Around} {E : Value → Shared → Prop} {s : Shared}
theorem call_enumerate_tuple {l : Addr} {items : Array Value} {Q : Value → Shared → Prop} (hL : s.heap.IsTuple l items)
    (h : ∀ h', IsEnum h' (s.heap.objs.size + 1) s.heap.objs.size 0 .none → h'.IsTupleIter s.heap.objs.size l 0 → h'.objs.size = s.heap.objs.size + 2 →
      (∀ b o, s.heap.get? b = some o → h'.get? b = some o) → Q (.ref (s.heap.objs.size + 1)) { s with heap := h' }) :
    wpAny (model prog w) A (call (.type "enumerate") [.ref l]) Q E s := by
  obtain ⟨⟨c, dct, dt, sl⟩, hl, hc, n, hd⟩ := hL
  replace hc : c = .type "tuple" := hc
  replace hd : dt = .seq items n := hd
  subst hc hd
  refine callType_new F.called_enumerate (by decide) (F.typeCall_enumerate_1 _) (F.newCall_enumerate_1 _) (fun obj => F.args_object_init_2 obj _) F.entry_enumerate_new
    (meets_enumerate_newT l items n dct sl) ⟨hl, ?_⟩
  have hz : (s.heap.push { cls := .type "tuple_iterator", data := .fields #[.ref l, .int 0 0] }).objs.size = s.heap.objs.size + 1 := Heap.size_push ..
  show _ ∧ _
  rw [hz]
  have he : IsEnum ((s.heap.push { cls := .type "tuple_iterator", data := .fields #[.ref l, .int 0 0] }).push
      { cls := .type "enumerate", data := .fields #[.none, .bool false, .ref s.heap.objs.size, rawInt 0, .none, .none] }) (s.heap.objs.size + 1) s.heap.objs.size 0 .none := by
    have := Heap.get?_push_size (s.heap.push { cls := .type "tuple_iterator", data := .fields #[.ref l, .int 0 0] })
      (o := { cls := .type "enumerate", data := .fields #[.none, .bool false, .ref s.heap.objs.size, rawInt 0, .none, .none] }) rfl
    rw [hz] at this; exact this
  refine ⟨⟨_, he, rfl⟩, h _ he ⟨_, Heap.get?_push_of_some _ (Heap.get?_push_size _ rfl), rfl, rfl⟩ (by rw [Heap.size_push, hz]) fun b o x => Heap.get?_push_of_some _ (Heap.get?_push_of_some _ x)⟩
end

/-! A loop by an invariant over the frame's map and the ledger; the iterator's own objects apart; any else-block. -/

theorem objsAt {h : Heap} : ∀ {ws : List Addr}, (∀ b ∈ ws, ∃ o, h.get? b = some o) → ∃ its : List (Addr × Obj), its.map (·.1) = ws ∧ ∀ p ∈ its, h.get? p.1 = some p.2
  | [], _ => ⟨[], rfl, fun _ hp => nomatch hp⟩
  | b :: r, hb => by
    obtain ⟨o, ho⟩ := hb b (.head _)
    obtain ⟨its, e, hits⟩ := objsAt (ws := r) fun c hc => hb c (.tail _ hc)
    refine ⟨(b, o) :: its, by simp [e], fun p hp => ?_⟩
    rcases List.mem_cons.mp hp with rfl | hp
    · exact ho
    · exact hits p hp

theorem one_of {its : List (Addr × Obj)} {a : Addr} (h : its.map (·.1) = [a]) : ∃ o, its = [(a, o)] := by
  cases its with
  | nil => cases h
  | cons p r =>
    cases r with
    | nil => obtain ⟨b, o⟩ := p; simp at h; subst h; exact ⟨o, rfl⟩
    | cons q r => simp at h
theorem two_of {its : List (Addr × Obj)} {a b : Addr} (h : its.map (·.1) = [a, b]) : ∃ o o', its = [(a, o), (b, o')] := by
  cases its with
  | nil => cases h
  | cons p r =>
    obtain ⟨c, o⟩ := p
    simp at h
    obtain ⟨rfl, h⟩ := h
    obtain ⟨o', rfl⟩ := one_of (its := r) (a := b) (by simpa using h)
    exact ⟨o, o', rfl⟩

def StepEnd (h₀ : Heap) (L : Addr) (ws : List Addr) (its : List (Addr × Obj)) (s : Shared) (Jn : (Str → Option Value) → List (Addr × Obj) → Prop) (s₃ : Shared) : Prop :=
  ∃ h' tk m₂ news₂, s₃ = { s with heap := h', toks := tk } ∧ Fr h₀ L h' m₂ ∧ News h₀ L h' (its ++ news₂) ∧ (∀ p ∈ news₂, p.1 ∉ ws) ∧ Jn m₂ news₂

def StepPost (h₀ : Heap) (L : Addr) (ws : List Addr) (its : List (Addr × Obj)) (s : Shared) (Jn : (Str → Option Value) → List (Addr × Obj) → Prop) (Q : Flow → Shared → Prop) (f : Flow) (s₃ : Shared) : Prop :=
  match f with
  | .ret v => Q (.ret v) s₃
  | .brk => Q .next s₃
  | .cont => StepEnd h₀ L ws its s Jn s₃
  | .next => StepEnd h₀ L ws its s Jn s₃

theorem my_loop {prog : Program} {w : World} {A : Around} {E : Value → Shared → Prop} {s : Shared} {env : Env} {h₀ : Heap} {target : Expr} {body orelse : List Stmt} {Q : Flow → Shared → Prop}
    {I : Addr} {fp wr : List Addr} {ws : List Addr} {n : Nat} {P Md : Nat → Value → Heap → Prop} {St : Nat → Heap → Prop} {m : Str → Option Value} {news : List (Addr × Obj)}
    (W : KTurns prog w A target I fp wr n P Md St)
    (hfp : ∀ b ∈ fp, b ∈ ws ∨ ∃ o, h₀.get? b = some o) (hwr : ∀ b ∈ wr, b ∈ ws) (hws : ∀ b ∈ ws, h₀.get? b = none ∧ b ≠ env.locals)
    (hob : ∀ i h, St i h → ∀ b ∈ ws, ∃ o, h.get? b = some o)
    (hnw : ∀ p ∈ news, p.1 ∉ ws) (hst : St 0 s.heap) (F : Fr h₀ env.locals s.heap m) (N : News h₀ env.locals s.heap news)
    (J : Nat → (Str → Option Value) → List (Addr × Obj) → Prop) (h0 : J 0 m news)
    (step : ∀ i v m₁ news₁ h₁ tk₁ its, i < n → P i v h₁ → J i m₁ news₁ → (∀ p ∈ news₁, p.1 ∉ ws) → its.map (·.1) = ws → Fr h₀ env.locals h₁ m₁ → News h₀ env.locals h₁ (its ++ news₁) →
      wpAny (model prog w) A (assign target env v) (fun _ s₂ => wpAny (model prog w) A (execs body env)
        (StepPost h₀ env.locals ws its s (J (i + 1)) Q) E s₂) E { s with heap := h₁, toks := tk₁ })
    (done : ∀ h' tk m' news', Fr h₀ env.locals h' m' → News h₀ env.locals h' news' → (∀ p ∈ news', p.1 ∉ ws) → J n m' news' → wpAny (model prog w) A (execs orelse env) Q E { s with heap := h', toks := tk })
    (hE : PassesOwn (model prog w) A env E) :
    codeAny (model prog w) A (.forLoop target (.ref I) body orelse env) (fun r s' => match r with | .ok f => Q f s' | .error e => cameBackBy (model prog w) A env E e s') s := by
  have hLw : env.locals ∉ wr := fun h => (hws _ (hwr _ h)).2 rfl
  have old : ∀ b o, h₀.get? b = some o → b ∉ wr := fun b o e hb => by rw [(hws b (hwr b hb)).1] at e; cases e
  have nw : ∀ b, b ∉ ws → b ∉ wr := fun b hb h => hb (hwr b h)
  refine codeAny_forLoop_any
    (fun k s' => ∃ h' tk m' news' i, s' = { s with heap := h', toks := tk } ∧ St i h' ∧ Fr h₀ env.locals h' m' ∧ News h₀ env.locals h' news' ∧ (∀ p ∈ news', p.1 ∉ ws) ∧ J i m' news' ∧ i ≤ n ∧ k = n + 1 - i) ?_ (n + 1)
    ⟨s.heap, s.toks, m, news, 0, rfl, hst, F, N, hnw, h0, Nat.zero_le _, rfl⟩
  rintro k s' ⟨h', tk, m', news', i, rfl, hst', F', N', hnw', hJ, hi, rfl⟩
  have next : ∀ h₁ : Heap, (∀ b o, b ∉ wr → h'.get? b = some o → h₁.get? b = some o) → Fr h₀ env.locals h₁ m' ∧ News h₀ env.locals h₁ news' := fun h₁ hk₁ =>
    ⟨⟨F'.ns.at' fun o e => hk₁ _ o hLw e, fun b o e => hk₁ b o (old b o e) (F'.keep b o e), F'.above⟩, fun p hp => ⟨hk₁ _ _ (nw _ (hnw' p hp)) (N' p hp).1, (N' p hp).2⟩⟩
  by_cases hlt : i < n
  · refine W.item i _ _ _ hlt hst' fun v h₁ tk₁ hMd hk₁ => ?_
    refine W.go i v _ _ _ hMd fun h₂ hP hst₂ hk₂ => ?_
    obtain ⟨F₂, N₂⟩ := next h₂ fun b o hb x => hk₂ b o hb (hk₁ b o hb x)
    obtain ⟨its, hits, hat⟩ := objsAt (hob _ _ hst₂)
    have Nits : News h₀ env.locals h₂ (its ++ news') := fun p hp => by
      rcases List.mem_append.mp hp with hp | hp
      · have hb : p.1 ∈ ws := hits ▸ List.mem_map.mpr ⟨p, hp, rfl⟩
        exact ⟨hat p hp, (hws _ hb).2, (hws _ hb).1⟩
      · exact N₂ p hp
    have fin : ∀ s₃, StepEnd h₀ env.locals ws its s (J (i + 1)) s₃ → ∃ k', k' < n + 1 - i ∧ ∃ h' tk m' news' i, s₃ = { s with heap := h', toks := tk } ∧ St i h' ∧ Fr h₀ env.locals h' m' ∧ News h₀ env.locals h' news' ∧ (∀ p ∈ news', p.1 ∉ ws) ∧ J i m' news' ∧ i ≤ n ∧ k' = n + 1 - i := by
      rintro s₃ ⟨h₃, tk₃, m₃, news₃, rfl, F₃, N₃, ha₃, hJ₃⟩
      refine ⟨n + 1 - (i + 1), by omega, h₃, tk₃, m₃, news₃, i + 1, rfl, ?_, F₃, fun p hp => N₃ p (List.mem_append_right _ hp), ha₃, hJ₃, hlt, rfl⟩
      refine W.frame _ _ _ hst₂ fun b hb o e => ?_
      rcases hfp b hb with hb | ⟨o₀, ho₀⟩
      · obtain ⟨p, hp, rfl⟩ := List.mem_map.mp (hits ▸ hb)
        have q := hat p hp
        rw [e] at q
        cases q
        exact (N₃ p (List.mem_append_left _ hp)).1
      · have q := F₂.keep b o₀ ho₀
        rw [e] at q
        cases q
        exact F₃.keep b o ho₀
    refine wpAny_mono (step i v m' news' h₂ tk₁ its hlt hP hJ hnw' hits F₂ Nits) (fun _ s₂ h₂' => wpAny_mono h₂' (fun f s₃ h₃ => ?_) hE) hE
    cases f with
    | ret v => exact h₃
    | brk => exact h₃
    | cont => exact fin s₃ h₃
    | next => exact fin s₃ h₃
  · have hin : i = n := by omega
    subst hin
    refine W.done _ _ _ hst' fun h₁ tk₁ hk₁ => ?_
    obtain ⟨F₁, N₁⟩ := next h₁ hk₁
    exact wpAny_mono (done h₁ tk₁ m' news' F₁ N₁ hnw' hJ) (fun _ _ x => x) hE

/-- the answer of a loop's statement -/
abbrev LoopR (prog : Program) (w : World) (A : Around) (env : Env) (Q : Flow → Shared → Prop) (E : Value → Shared → Prop) : Result → Shared → Prop :=
  fun r s' => match r with | .ok f => Q f s' | .error e => cameBackBy (model prog w) A env E e s'

section
variable {prog : Program} {w : World} {A : Around} {E : Value → Shared → Prop} {s : Shared} {env : Env} {h₀ : Heap} {target : Expr} {body orelse : List Stmt} {Q : Flow → Shared → Prop} {m : Str → Option Value} {news : List (Addr × Obj)}

theorem base_new {L b : Addr} {h : Heap} (F : Fr h₀ L h m) (hb : h.objs.size ≤ b) : h₀.get? b = none := by
  cases e : h₀.get? b with
  | none => rfl
  | some o => exact absurd (Heap.lt_size (F.keep _ _ e)) (Nat.not_lt.mpr hb)

/-- over a tuple of the ground -/
theorem iter_tuple {T : Addr} {items : Array Value} (hh : A.handled = none) (hT : h₀.IsTuple T items) (F : Fr h₀ env.locals s.heap m) (N : News h₀ env.locals s.heap news)
    (J : Nat → (Str → Option Value) → List (Addr × Obj) → Prop) (h0 : J 0 m news)
    (step : ∀ i v m₁ news₁ h₁ tk₁ I o, items[i]? = some v → J i m₁ news₁ → (∀ p ∈ news₁, p.1 ≠ I) → Fr h₀ env.locals h₁ m₁ → News h₀ env.locals h₁ ((I, o) :: news₁) → (∀ p ∈ news, p.1 < I) →
      wpAny (model prog w) A (assign target env v) (fun _ s₂ => wpAny (model prog w) A (execs body env)
        (StepPost h₀ env.locals [I] [(I, o)] s (J (i + 1)) Q) E s₂) E { s with heap := h₁, toks := tk₁ })
    (done : ∀ h' tk m' news', Fr h₀ env.locals h' m' → News h₀ env.locals h' news' → J items.size m' news' → wpAny (model prog w) A (execs orelse env) Q E { s with heap := h', toks := tk })
    (hE : PassesOwn (model prog w) A env E) :
    wpAny (model prog w) A (pyIter (.ref T)) (fun it s₂ => codeAny (model prog w) A (.forLoop target it body orelse env) (LoopR prog w A env Q E) s₂) E s := by
  obtain ⟨oT, hoT, hcT, nT, hdT⟩ := id hT
  have hTs : s.heap.IsTuple T items := ⟨oT, F.keep _ _ hoT, hcT, nT, hdT⟩
  have hlt : T < s.heap.objs.size := Heap.lt_size (F.keep _ _ hoT)
  have hne : T ≠ s.heap.objs.size := Nat.ne_of_lt hlt
  have hLs : env.locals < s.heap.objs.size := F.ns.lt
  refine wpAny_pyIter_tuple hTs ?_
  refine my_loop (s := { s with heap := s.heap.push _ }) (ws := [s.heap.objs.size]) (KTurns.ofWalks (Walks.tuple hh s.heap.objs.size T hne items) fun i v s Q E st q => letGo_tupleiter st.1 q) ?_ ?_ ?_ ?_ ?_ ?_ (F.push _) (fun p hp => ⟨Heap.get?_push_of_some _ (N p hp).1, (N p hp).2⟩) J h0 ?_ ?_ hE
  · intro b hb
    have hb' : b = s.heap.objs.size ∨ b = T := by simpa using hb
    rcases hb' with rfl | rfl
    · exact .inl (by simp)
    · exact .inr ⟨oT, hoT⟩
  · intro b hb; simpa using hb
  · intro b hb
    have hb' : b = s.heap.objs.size := by simpa using hb
    subst hb'
    exact ⟨base_new F (Nat.le_refl _), Nat.ne_of_gt hLs⟩
  · rintro i h ⟨⟨o, ho, _⟩, _⟩ b hb
    have hb' : b = s.heap.objs.size := by simpa using hb
    subst hb'
    exact ⟨o, ho⟩
  · intro p hp hI
    have hb' : p.1 = s.heap.objs.size := by simpa using hI
    exact absurd (Heap.lt_size (N p hp).1) (hb' ▸ Nat.lt_irrefl _)
  · exact ⟨⟨_, Heap.get?_push_size _ rfl, rfl, rfl⟩, hTs.push _⟩
  · intro i v m₁ news₁ h₁ tk₁ its hi hP hJ hoff hits F₁ N₁
    obtain ⟨o, rfl⟩ := one_of hits
    exact step i v m₁ news₁ h₁ tk₁ _ o hP hJ (fun p hp e => hoff p hp (by simp [e])) F₁ N₁ fun p hp => Heap.lt_size (N p hp).1
  · intro h' tk m' news' F' N' _ hJ
    exact done h' tk m' news' F' N' hJ

/-- over enumerate of a tuple of the ground -/
theorem iter_enumTuple {elts : List Expr} {k : Nat} {pos : Pos} {T : Addr} {items : Array Value} (hh : A.handled = none) (hT : h₀.IsTuple T items) (F : Fr h₀ env.locals s.heap m) (N : News h₀ env.locals s.heap news)
    (J : Nat → (Str → Option Value) → List (Addr × Obj) → Prop) (h0 : J 0 m news)
    (step : ∀ i v t U m₁ news₁ h₁ tk₁ e oe I o, items[i]? = some v → J i m₁ news₁ → (∀ p ∈ news₁, p.1 ≠ e ∧ p.1 ≠ I) → IsTup h₁ U #[.int (i : Int) t, v] → Fr h₀ env.locals h₁ m₁ → News h₀ env.locals h₁ ((e, oe) :: (I, o) :: news₁) → (∀ p ∈ news, p.1 < I) → I < e →
      wpAny (model prog w) A (assign (.Tuple elts k pos) env (.ref U)) (fun _ s₂ => wpAny (model prog w) A (execs body env)
        (StepPost h₀ env.locals [e, I] [(e, oe), (I, o)] s (J (i + 1)) Q) E s₂) E { s with heap := h₁, toks := tk₁ })
    (done : ∀ h' tk m' news', Fr h₀ env.locals h' m' → News h₀ env.locals h' news' → J items.size m' news' → wpAny (model prog w) A (execs orelse env) Q E { s with heap := h', toks := tk })
    (hE : PassesOwn (model prog w) A env E) :
    wpAny (model prog w) A (call (.type "enumerate") [.ref T]) (fun xv s₁ => wpAny (model prog w) A (pyIter xv) (fun it s₂ => codeAny (model prog w) A (.forLoop (.Tuple elts k pos) it body orelse env) (LoopR prog w A env Q E) s₂) E s₁) E s := by
  obtain ⟨oT, hoT, hcT, nT, hdT⟩ := id hT
  have hTs : s.heap.IsTuple T items := ⟨oT, F.keep _ _ hoT, hcT, nT, hdT⟩
  have hlt : T < s.heap.objs.size := Heap.lt_size (F.keep _ _ hoT)
  have hLs : env.locals < s.heap.objs.size := F.ns.lt
  refine call_enumerate_tuple hTs fun h' hE' hI hsz hk => ?_
  refine wpAny_pyIter_enum hE' ?_
  have hne1 : T ≠ s.heap.objs.size := Nat.ne_of_lt hlt
  have hne2 : s.heap.objs.size + 1 ≠ T := Nat.ne_of_gt (Nat.lt_succ_of_lt hlt)
  refine my_loop (s := { s with heap := h' }) (ws := [s.heap.objs.size + 1, s.heap.objs.size])
    (KTurns.ofWalksU (WalksT.enumerateD (A := A) (drawsTuple (A := A.in1) hh s.heap.objs.size T hne1 items) (s.heap.objs.size + 1) (Nat.succ_ne_self _) (by simp [hne2]) (by simp)).toU)
    ?_ ?_ ?_ ?_ ?_ ?_ (F.keeps hk) (N.grown hk) J h0 ?_ ?_ hE
  · intro b hb
    have hb' : b = s.heap.objs.size + 1 ∨ b = s.heap.objs.size ∨ b = T := by simpa using hb
    rcases hb' with rfl | rfl | rfl
    · exact .inl (by simp)
    · exact .inl (by simp)
    · exact .inr ⟨oT, hoT⟩
  · intro b hb; simpa using hb
  · intro b hb
    have hb' : b = s.heap.objs.size + 1 ∨ b = s.heap.objs.size := by simpa using hb
    rcases hb' with rfl | rfl
    · exact ⟨base_new F (Nat.le_succ _), Nat.ne_of_gt (Nat.lt_succ_of_lt hLs)⟩
    · exact ⟨base_new F (Nat.le_refl _), Nat.ne_of_gt hLs⟩
  · rintro i h ⟨⟨old, he⟩, ⟨o, ho, _⟩, _⟩ b hb
    have hb' : b = s.heap.objs.size + 1 ∨ b = s.heap.objs.size := by simpa using hb
    rcases hb' with rfl | rfl
    · exact ⟨_, he⟩
    · exact ⟨o, ho⟩
  · intro p hp hI
    have hb' : p.1 = s.heap.objs.size + 1 ∨ p.1 = s.heap.objs.size := by simpa using hI
    have := Heap.lt_size (N p hp).1
    rcases hb' with e | e
    · exact absurd (e ▸ this : s.heap.objs.size + 1 < s.heap.objs.size) (Nat.not_lt.mpr (Nat.le_succ _))
    · exact absurd (e ▸ this : s.heap.objs.size < s.heap.objs.size) (Nat.lt_irrefl _)
  · exact ⟨⟨.none, hE'⟩, hI, hTs.at fun o e => hk T o e⟩
  · intro i v m₁ news₁ h₁ tk₁ its hi hP hJ hoff hits F₁ N₁
    obtain ⟨U, vals, rfl, ⟨t, x, hx, rfl⟩, hU⟩ := hP
    obtain ⟨oe, o, rfl⟩ := two_of hits
    exact step i x t U m₁ news₁ h₁ tk₁ _ oe _ o hx hJ (fun p hp => ⟨fun e => hoff p hp (by simp [e]), fun e => hoff p hp (by simp [e])⟩) hU F₁ N₁ (fun p hp => Heap.lt_size (N p hp).1) (Nat.lt_succ_self _)
  · intro h' tk m' news' F' N' _ hJ
    exact done h' tk m' news' F' N' hJ
end

/-- a call of a def of the text, its ground the whole heap: what the caller has made stands, by the heap's growing alone -/
theorem call_pure {prog : Program} {w : World} {A A₀ : Around} {E : Value → Shared → Prop} {s : Shared} {K : Frag} {L : Addr} {h₀ base : Heap} {m mg mb : Str → Option Value} {p : Program} {loose : List Str} {mean : ExcName → Option Value} {Q : Value → Shared → Prop}
    {env : Env} {outer : List Env} {name qual : Str} {params : Arguments} {body : List Stmt} {scope : Scope} {dV kV doc pm cdv ct oc : Value} {an od : Option Addr} {osl : Array (Option Value)} {f : Addr} {vals : List Value} {binds : List (Str × Value)}
    (B : Below A₀ base outer h₀) (F : Fr h₀ L s.heap m) (X₀ : K.In h₀) (T : Top p loose mean mg mb h₀) (hA : A.frames = some (env :: outer)) (hf : env.frame = some L) (hke : env.scope.kind = .function)
    (ho : K.lookup f = some ⟨oc, od, .func (fnOf name qual params body scope dV kV doc pm an cdv ct), osl⟩) (hcd : codeIn K cdv qual = true) (hroom : A.depth < recursionLimit)
    (hbind : BindsTo s (fnOf name qual params body scope dV kV doc pm an cdv ct) ⟨vals, []⟩ binds) (hloc : ∀ y ∈ binds, scope.names.lookup y.1 = some .local)
    (h : ∀ L' h₁, Fr s.heap L' h₁ (fun y => binds.reverse.lookup y) → News s.heap L' h₁ [] → Below A base (env :: outer) s.heap → K.In s.heap → Top p loose mean mg mb s.heap →
      wpAny (model prog w) (A.deeper (envOf qual scope L' f cdv)) (execs body (envOf qual scope L' f cdv))
        (fun fl s' => Q (match fl with | .ret v => v | _ => .none) s') (fun _ _ => False) { s with heap := h₁, toks := s.toks + binds.length })
    (hco : scope.isCoroutine = false) (hgen : scope.isGenerator = false) (hk : scope.kind = .function)
    (hcell : ∀ x ∈ scope.names, x.2 ≠ .cell) : wpAny (model prog w) A (call (.ref f) vals) Q E s := by
  refine wpAny_call ?_
  obtain ⟨FG, BG, st, lv⟩ := groundX (R := fun _ _ => True) B F (News.nil (h₀ := h₀) (L := L)) hA hf hke
  have st' : h₀.StaysIn s.heap := st
  refine codeAny_call_def (fd := fnOf name qual params body scope dV kV doc pm an cdv ct) (body := body) (binds := binds) hroom ((X₀.keeps F.keep) _ _ ho) rfl (T.nolimit.keeps F.keep) (codeRec_of (X₀.keeps F.keep) hcd) rfl hbind hcell hloc (fun h₁ hns hk₁ => ?_) hco hgen hk
  exact wpAny_mono (h s.heap.objs.size h₁ ⟨hns, hk₁, Nat.le_refl _⟩ News.nil BG (X₀.keeps F.keep) (T.keeps st')) (fun fl s' hl => hl) fun _ _ x => x.elim
end Mine
namespace Mine
/-- the first sign whose test holds -/
def pick (test : Int → Bool) (dflt : Str) : List (Int × Str) → Str
  | [] => dflt
  | (b, c) :: r => if test b then c else pick test dflt r
def pickTest (x : Int) (i : Nat) (b : Int) : Bool := if i = 0 then decide (Builtin.bitAnd x 61440 = b) else decide (Builtin.bitAnd x b = b)
def pickDflt (i : Nat) : Str := if i = 0 then Str.ofString "?" else Str.ofString "-"
def fmTab : List (List (Int × Str)) :=
  [[(40960, Str.ofString "l"), (49152, Str.ofString "s"), (32768, Str.ofString "-"), (24576, Str.ofString "b"), (16384, Str.ofString "d"), (8192, Str.ofString "c"), (4096, Str.ofString "p")],
   [(256, Str.ofString "r")], [(128, Str.ofString "w")], [(2112, Str.ofString "s"), (2048, Str.ofString "S"), (64, Str.ofString "x")],
   [(32, Str.ofString "r")], [(16, Str.ofString "w")], [(1032, Str.ofString "s"), (1024, Str.ofString "S"), (8, Str.ofString "x")],
   [(4, Str.ofString "r")], [(2, Str.ofString "w")], [(513, Str.ofString "t"), (512, Str.ofString "T"), (1, Str.ofString "x")]]
def fmSign (x : Int) (i : Nat) : Str := pick (pickTest x i) (pickDflt i) (fmTab.getD i [])
def fmSigns (x : Int) : List Str := (List.range 10).map (fmSign x)
def fmText (x : Int) : Str := Txt.join (Str.ofString "") (fmSigns x)

theorem fmSigns_take (x : Int) (i : Nat) (hi : i < 10) : (fmSigns x).take (i + 1) = (fmSigns x).take i ++ [fmSign x i] := by
  have : (fmSigns x)[i]? = some (fmSign x i) := by simp [fmSigns, hi]
  rw [List.take_add_one, this]; rfl
theorem fmSigns_length (x : Int) : (fmSigns x).length = 10 := by simp [fmSigns]

/-- a tuple that the written part holds -/
def tupIn (K : Frag) (a : Addr) : Option (List Value) := match K.lookup a with
  | some ⟨.type "tuple", _, .seq xs _, _⟩ => some xs.toList
  | _ => none
theorem tupIn_is {K : Frag} {h : Heap} (X : K.In h) {a : Addr} {vs : List Value} (e : tupIn K a = some vs) : h.IsTuple a vs.toArray := by
  unfold tupIn at e
  split at e
  · rename_i d xs n sl q
    cases e
    exact ⟨_, X _ _ q, rfl, n, by simp⟩
  · cases e

/-- a row of the table: its pairs' places and what they hold -/
def RowIs (h : Heap) (T : Addr) (ps : List (Addr × Int × Str)) : Prop :=
  h.IsTuple T (ps.map fun q => Value.ref q.1).toArray ∧ ∀ q ∈ ps, ∃ t u, h.IsTuple q.1 #[.int q.2.1 t, .str q.2.2 u]
def TabIs (h : Heap) (T : Addr) (rows : List (Addr × List (Addr × Int × Str))) : Prop :=
  h.IsTuple T (rows.map fun r => Value.ref r.1).toArray ∧ (∀ r ∈ rows, RowIs h r.1 r.2) ∧ rows.map (fun r => r.2.map (·.2)) = fmTab
def rowIn (K : Frag) (T : Addr) (ps : List (Addr × Int × Str)) : Prop :=
  tupIn K T = some (ps.map fun q => Value.ref q.1) ∧ ∀ q ∈ ps, ∃ t u, tupIn K q.1 = some [.int q.2.1 t, .str q.2.2 u]
theorem RowIs.of {K : Frag} {h : Heap} (X : K.In h) {T : Addr} {ps : List (Addr × Int × Str)} (e : rowIn K T ps) : RowIs h T ps := by
  refine ⟨tupIn_is X e.1, fun q hq => ?_⟩
  obtain ⟨t, u, e⟩ := e.2 q hq
  exact ⟨t, u, tupIn_is X e⟩
theorem TabIs.of {K : Frag} {h : Heap} (X : K.In h) {T : Addr} {rows : List (Addr × List (Addr × Int × Str))} (e : tupIn K T = some (rows.map fun r => Value.ref r.1)) (e' : ∀ r ∈ rows, rowIn K r.1 r.2) (e'' : rows.map (fun r => r.2.map (·.2)) = fmTab) : TabIs h T rows :=
  ⟨tupIn_is X e, fun r hr => .of X (e' r hr), e''⟩
theorem TabIs.keeps {h h' : Heap} {T : Addr} {rows : List (Addr × List (Addr × Int × Str))} (x : TabIs h T rows) (k : ∀ b o, h.get? b = some o → h'.get? b = some o) : TabIs h' T rows := by
  have up : ∀ {a vs}, h.IsTuple a vs → h'.IsTuple a vs := fun ⟨o, ho, r⟩ => ⟨o, k _ _ ho, r⟩
  refine ⟨up x.1, fun r hr => ⟨up (x.2.1 r hr).1, fun q hq => ?_⟩, x.2.2⟩
  obtain ⟨t, u, e⟩ := (x.2.1 r hr).2 q hq
  exact ⟨t, u, up e⟩
theorem TabIs.item {h : Heap} {T : Addr} {rows : List (Addr × List (Addr × Int × Str))} (x : TabIs h T rows) {i : Nat} {v : Value} (e : (rows.map fun r => Value.ref r.1).toArray[i]? = some v) :
    ∃ S ps, v = .ref S ∧ RowIs h S ps ∧ fmTab.getD i [] = ps.map (·.2) ∧ i < 10 := by
  have e' : rows[i]?.map (fun r => Value.ref r.1) = some v := by simpa using e
  obtain ⟨r, hr, rfl⟩ := Option.map_eq_some_iff.mp e'
  have h10 : rows.length = 10 := by have := congrArg List.length x.2.2; simpa [fmTab] using this
  refine ⟨r.1, r.2, rfl, x.2.1 r (List.mem_of_getElem? hr), ?_, ?_⟩
  · rw [← x.2.2]; simp [List.getD, hr]
  · have := (List.getElem?_eq_some_iff.mp hr).1; omega

theorem chain2 {m : Str → Option Value} {a b : Str} {u v : Value} (h1 : m a = some u) (h2 : m b = some v) : m = fun y => if y = a then some u else if y = b then some v else m y := by
  funext y; split
  · subst_vars; exact h1
  · split
    · subst_vars; exact h2
    · rfl
theorem chain3 {m : Str → Option Value} {a b c : Str} {u v w : Value} (h1 : m a = some u) (h2 : m b = some v) (h3 : m c = some w) : m = fun y => if y = a then some u else if y = b then some v else if y = c then some w else m y := by
  funext y; split
  · subst_vars; exact h1
  · split
    · subst_vars; exact h2
    · split
      · subst_vars; exact h3
      · rfl
theorem pick_skip {test : Int → Bool} {d : Str} {l : List (Int × Str)} : ∀ {i : Nat}, (∀ j q, j < i → l[j]? = some q → test q.1 = false) → pick test d l = pick test d (l.drop i) := by
  induction l with
  | nil => intro i _; simp
  | cons p r ih =>
    intro i h
    cases i with
    | zero => rfl
    | succ i =>
      obtain ⟨b, c⟩ := p
      have h0 := h 0 (b, c) (Nat.succ_pos _) rfl
      rw [List.drop_succ_cons, ← ih (i := i) fun j q hj hq => h (j + 1) q (Nat.succ_lt_succ hj) (by simpa using hq)]
      simp [pick, h0]

theorem step_next {h₀ : Heap} {L : Addr} {ws : List Addr} {its : List (Addr × Obj)} {s : Shared} {Jn : (Str → Option Value) → List (Addr × Obj) → Prop} {Q : Flow → Shared → Prop} {h' : Heap} {tk : Nat} {m₂ : Str → Option Value} {news₂ : List (Addr × Obj)}
    (F : Fr h₀ L h' m₂) (N : News h₀ L h' (its ++ news₂)) (hoff : ∀ p ∈ news₂, p.1 ∉ ws) (hJ : Jn m₂ news₂) : StepPost h₀ L ws its s Jn Q .next { s with heap := h', toks := tk } :=
  ⟨h', tk, m₂, news₂, rfl, F, N, hoff, hJ⟩
theorem news_tail {h₀ h : Heap} {L : Addr} {p : Addr × Obj} {l : List (Addr × Obj)} (N : News h₀ L h (p :: l)) : News h₀ L h l := fun q hq => N q (.tail _ hq)
theorem pick_at {test : Int → Bool} {d : Str} {l : List (Int × Str)} {i : Nat} {b : Int} {c : Str} (h : ∀ j q, j < i → l[j]? = some q → test q.1 = false) (hi : l[i]? = some (b, c)) (ht : test b = true) : pick test d l = c := by
  rw [pick_skip h]
  have : l.drop i = (b, c) :: l.drop (i + 1) := by
    obtain ⟨hlt, e⟩ := List.getElem?_eq_some_iff.mp hi
    rw [List.drop_eq_getElem_cons hlt, e]
  rw [this]
  simp [pick, ht]
theorem pick_none {test : Int → Bool} {d : Str} {l : List (Int × Str)} (h : ∀ j q, j < l.length → l[j]? = some q → test q.1 = false) : pick test d l = d := by
  rw [pick_skip h]; simp [pick]
/-- one more sign -/
theorem sign_more {x : Int} {i : Nat} {vs : List Value} {ps : List (Addr × Int × Str)} {c : Str} {t : Tok} (hvs : StrsAre vs ((fmSigns x).take i)) (hi : i < 10) (htab : fmTab.getD i [] = ps.map (·.2)) (hc : pick (pickTest x i) (pickDflt i) (ps.map (·.2)) = c) :
    StrsAre (vs ++ [.str c t]) ((fmSigns x).take (i + 1)) := by
  rw [fmSigns_take x i hi]
  refine hvs.append' ?_
  have : fmSign x i = c := by unfold fmSign; rw [htab, hc]
  rw [this]
  exact .cons c t .nil
theorem map_at {ps : List (Addr × Int × Str)} {j : Nat} {q : Int × Str} (h : (ps.map (·.2))[j]? = some q) : ∃ a, ps[j]? = some (a, q) := by
  have : ps[j]?.map (·.2) = some q := by simpa using h
  obtain ⟨r, hr, rfl⟩ := Option.map_eq_some_iff.mp this
  exact ⟨r.1, hr⟩
theorem sign_hit {x : Int} {i j : Nat} {ps : List (Addr × Int × Str)} {a : Addr} {b : Int} {c : Str} (hno : ∀ k q, k < j → ps[k]? = some q → pickTest x i q.2.1 = false) (hq : ps[j]? = some (a, b, c)) (ht : pickTest x i b = true) :
    pick (pickTest x i) (pickDflt i) (ps.map (·.2)) = c := by
  refine pick_at (i := j) (b := b) (fun k q hk hkq => ?_) (by simp [hq]) ht
  obtain ⟨a', h'⟩ := map_at hkq
  exact hno k _ hk h'
theorem sign_miss {x : Int} {i n : Nat} {ps : List (Addr × Int × Str)} (hn : ps.length ≤ n) (hno : ∀ k q, k < n → ps[k]? = some q → pickTest x i q.2.1 = false) :
    pick (pickTest x i) (pickDflt i) (ps.map (·.2)) = pickDflt i := by
  refine pick_none fun k q hk hkq => ?_
  obtain ⟨a', h'⟩ := map_at hkq
  exact hno k _ (by simp at hk; omega) h'
theorem no_more {x : Int} {i j : Nat} {ps : List (Addr × Int × Str)} {a : Addr} {b : Int} {c : Str} (hno : ∀ k q, k < j → ps[k]? = some q → pickTest x i q.2.1 = false) (hq : ps[j]? = some (a, b, c)) (ht : pickTest x i b = false) :
    ∀ k q, k < j + 1 → ps[k]? = some q → pickTest x i q.2.1 = false := by
  intro k q hk hkq
  rcases Nat.lt_succ_iff_lt_or_eq.mp hk with hk | rfl
  · exact hno k q hk hkq
  · rw [hq] at hkq; cases hkq; exact ht
theorem signs_fit {x : Int} {i : Nat} {vs : List Value} (hvs : StrsAre vs ((fmSigns x).take i)) : vs.toArray.size ≤ sizeLine := by
  have h1 := hvs.length
  have h2 : ((fmSigns x).take i).length ≤ 10 := by rw [List.length_take, fmSigns_length]; omega
  rw [List.size_toArray, h1]
  exact Nat.le_trans h2 (by decide)

theorem off1 {q : Addr × Obj} {l : List (Addr × Obj)} {ws : List Addr} (h : q.1 ∉ ws) (r : ∀ p ∈ l, p.1 ∉ ws) : ∀ p ∈ q :: l, p.1 ∉ ws := by
  intro p hp
  rcases List.mem_cons.mp hp with rfl | hp
  · exact h
  · exact r p hp
theorem off0 {ws : List Addr} : ∀ p ∈ ([] : List (Addr × Obj)), p.1 ∉ ws := fun _ hp => nomatch hp
theorem nmem1 {a b : Nat} {l : List Nat} (h : a ≠ b) (r : a ∉ l) : a ∉ b :: l := by simp [h, r]
theorem nmem0 {a : Nat} : a ∉ ([] : List Nat) := by simp
theorem pick_len {test : Int → Bool} {d : Str} (hd : d.length = 1) : ∀ {l : List (Int × Str)}, (∀ q ∈ l, q.2.length = 1) → (pick test d l).length = 1
  | [], _ => hd
  | (b, c) :: r, h => by
    unfold pick
    split
    · exact h (b, c) (.head _)
    · exact pick_len hd fun q hq => h q (.tail _ hq)
theorem fmTab_len : ∀ i, ∀ q ∈ fmTab.getD i [], q.2.length = 1 := by
  intro i q hq
  have : ∀ r ∈ fmTab, ∀ q ∈ r, q.2.length = 1 := by decide
  rw [List.getD_eq_getElem?_getD] at hq
  cases h : fmTab[i]? with
  | none => rw [h] at hq; simp at hq
  | some r => rw [h] at hq; exact this r (List.mem_of_getElem? h) q (by simpa using hq)
theorem fmSign_len (x : Int) (i : Nat) : (fmSign x i).length = 1 := by
  unfold fmSign
  refine pick_len ?_ (fmTab_len i)
  unfold pickDflt; split <;> decide
theorem fmSigns_weight (x : Int) : ((fmSigns x).map (·.length)).sum + (fmSigns x).length ≤ 1048576 := by
  have : (fmSigns x).map (·.length) = List.replicate 10 1 := by
    simp only [fmSigns, List.map_map]
    rw [List.eq_replicate_iff]
    refine ⟨by simp, ?_⟩
    intro b hb
    simp only [List.mem_map, Function.comp] at hb
    obtain ⟨i, _, rfl⟩ := hb
    exact fmSign_len x i
  rw [this, fmSigns_length]; decide
end Mine
namespace Mine
section
variable {prog : Program} {w : World} {A : Around} {E : Value → Shared → Prop} {s : Shared} {h₀ : Heap} {L l : Addr} {m : Str → Option Value} {news : List (Addr × Obj)} {value slice : PySem.Expr} {vs ws : List Value} {ss ms : List Str} {vl vu : Value} {lo hi : Option Int} {x y : Int} {Q : Value → Shared → Prop}
theorem strs_item {k : Int} {u : Tok} (hl : s.heap.IsList l vs.toArray) (hss : StrsAre vs ss) (h0 : 0 ≤ k) (h1 : k < (ss.length : Int)) (hhi : k < 2 ^ 63) (h : ∀ t, Q (.str (ss.getD k.toNat (Str.ofString "")) t) s)
    (hs : subscripted slice false (.ref l) (.int k u) = operate [.ref l, .int k u] (getItem (.ref l) (.int k u))) :
    wpAny (model prog w) A (subscriptTail value slice (.ref l) (.int k u)) Q E s := by
  have hk : k.toNat < ss.length := by omega
  have hx : ss[k.toNat]? = some (ss.getD k.toNat (Str.ofString "")) := by simp [List.getD, hk]
  obtain ⟨t, ht⟩ := hss.get _ _ hx
  exact tail_any hl.typeIs slot_list_getitem.lookup (wpAny_getItem_list hl h0 hhi (by simpa using ht) (h t)) hs
theorem slice_strs (F : Fr h₀ L s.heap m) (N : News h₀ L s.heap news) (hl : s.heap.IsList l vs.toArray) (pl : IsPart vl lo) (pu : IsPart vu hi) (hm : StrsAre (slicePick vs.toArray lo hi none).toList ms)
    (h : ∀ D ws h', Fr h₀ L h' m → News h₀ L h' ((D, listOf (List.toArray ws) 0) :: news) → (∀ p ∈ news, p.1 < D) → StrsAre ws ms → Q (.ref D) { s with heap := h' })
    (hs : subscripted slice false (.ref l) (.ref s.heap.objs.size) = operate [.ref s.heap.objs.size, .ref l] (getItem (.ref l) (.ref s.heap.objs.size))) (ht : ∀ r, letTemporaryGo value (.ref l) r = pure ()) (hz : vs.toArray.size ≤ sizeLine) :
    wpAny (model prog w) A (subscriptTail value slice (.ref l) (.ref s.heap.objs.size)) Q E { s with heap := s.heap.push { cls := .type "slice", data := .fields #[vl, vu, .none] } } := by
  refine kmk_slice F N hl pl pu (fun D h' F' N' l1 => h D (slicePick vs.toArray lo hi none).toList h' F' ?_ l1 hm) hs ht hz
  rw [Array.toArray_toList]
  exact N'
theorem strs_upto (hi' : StrsAre vs ss) (h : 0 ≤ y) : StrsAre (slicePick vs.toArray none (some y) none).toList (ss.take y.toNat) := by
  have e : sliceBounds none (some y) none vs.toArray.size = (((0 : Nat) : Int), ((min y.toNat vs.toArray.size : Nat) : Int), 1) := by
    simp only [sliceBounds, Option.getD_none, show (1 : Int) > 0 by decide, if_true, if_neg (show ¬ (y < 0) by omega)]
    congr 1
    congr 1
    omega
  rw [kmk_pick_nat _ e]
  show StrsAre ((vs.drop 0).take (min y.toNat vs.toArray.size - 0)) _
  rw [List.drop_zero, Nat.sub_zero, List.size_toArray, kmk_take_min]
  exact hi'.take' _
theorem strs_from (hi' : StrsAre vs ss) (h : 0 ≤ x) : StrsAre (slicePick vs.toArray (some x) none none).toList (ss.drop x.toNat) := by
  have e : sliceBounds (some x) none none vs.toArray.size = (((min x.toNat vs.toArray.size : Nat) : Int), ((vs.toArray.size : Nat) : Int), 1) := by
    simp only [sliceBounds, Option.getD_none, show (1 : Int) > 0 by decide, if_true, if_neg (show ¬ (x < 0) by omega)]
    congr 1
    omega
  rw [kmk_pick_nat _ e]
  show StrsAre ((vs.drop (min x.toNat vs.toArray.size)).take (vs.toArray.size - min x.toNat vs.toArray.size)) _
  rw [List.size_toArray, kmk_drop_min, List.take_of_length_le (by rw [List.length_drop]; omega)]
  exact hi'.drop' _
theorem strs_run (hi' : StrsAre vs ss) (h : 0 ≤ x) (h2 : 0 ≤ y) (h3 : y ≤ (ss.length : Int)) : StrsAre (slicePick vs.toArray (some x) (some y) none).toList ((ss.drop x.toNat).take (y.toNat - x.toNat)) := by
  have hl := hi'.length
  have e : sliceBounds (some x) (some y) none vs.toArray.size = (((min x.toNat vs.toArray.size : Nat) : Int), ((y.toNat : Nat) : Int), 1) := by
    have : vs.toArray.size = ss.length := by rw [List.size_toArray, hl]
    simp only [sliceBounds, Option.getD_none, show (1 : Int) > 0 by decide, if_true, if_neg (show ¬ (x < 0) by omega), if_neg (show ¬ (y < 0) by omega)]
    congr 1
    · omega
    · congr 1
      omega
  rw [kmk_pick_nat _ e]
  show StrsAre ((vs.drop (min x.toNat vs.toArray.size)).take (y.toNat - min x.toNat vs.toArray.size)) _
  rw [List.size_toArray, kmk_drop_min]
  by_cases hx : x.toNat ≤ vs.length
  · rw [Nat.min_eq_left hx]
    exact (hi'.drop' _).take' _
  · rw [List.drop_of_length_le (by omega), List.drop_of_length_le (by omega)]
    simpa using StrsAre.nil
theorem cat_strs {a b : Addr} (F : Fr h₀ L s.heap m) (N : News h₀ L s.heap news) (ha : s.heap.IsList a vs.toArray) (hb : s.heap.IsList b ws.toArray) (hi : StrsAre vs ss) (hj : StrsAre ws ms)
    (h : ∀ D us h', Fr h₀ L h' m → News h₀ L h' ((D, listOf (List.toArray us) 0) :: news) → (∀ p ∈ news, p.1 < D) → StrsAre us (ss ++ ms) → Q (.ref D) { s with heap := h' })
    (hz : ss.length + ms.length ≤ sizeLine) : wpAny (model prog w) A (binaryOp .Add (.ref a) (.ref b)) Q E s := by
  refine add_lists F N ha hb (fun h' F' N' => ?_) (by rw [hi.length, hj.length]; exact hz)
  exact h _ _ h' F' N' (fun p hp => Heap.lt_size (N p hp).1) (hi.append' hj)
theorem strs_fit {n : Nat} (h : StrsAre vs ss) (hl : ss.length = n) (hn : n ≤ 100) : vs.toArray.size ≤ sizeLine := by
  rw [List.size_toArray, h.length, hl]; exact Nat.le_trans hn (by decide)
/-- list of a text's signs -/
theorem list_strN {x0 : Str} {t : Tok} (hh : A.handled = none) (F : Fr h₀ L s.heap m) (N : News h₀ L s.heap news)
    (h : ∀ D ys n h' tk, Fr h₀ L h' m → News h₀ L h' ((D, listOf (List.toArray ys) n) :: news) → (∀ p ∈ news, p.1 < D) → StrsAre ys (signs x0) → Q (.ref D) { s with heap := h', toks := tk }) (hsz : x0.length ≤ sizeLine) :
    wpAny (model prog w) A (call (.type "list") [.str x0 t]) Q E s := by
  refine list_strD (hsz := hsz) hh F N fun h' tk ys F' N' hk hn _ hp hc => ?_
  obtain ⟨⟨n, hD⟩, _⟩ := hp
  refine h _ ys n h' tk F' (fun p hp => ?_) (fun p hp => Heap.lt_size (N p hp).1) (StrsAre.of_carried hc)
  rcases List.mem_cons.mp hp with rfl | hp
  · exact ⟨hD, Nat.ne_of_gt F.ns.lt, hn⟩
  · exact N' p hp
theorem news_more {h h' : Heap} {D : Addr} {o : Obj} (F : Fr h₀ L h m) (N : News h₀ L h' news) (hD : h.get? D = none) (hg : h'.get? D = some o) : News h₀ L h' ((D, o) :: news) := by
  intro p hp
  rcases List.mem_cons.mp hp with rfl | hp
  · refine ⟨hg, fun e => ?_, ?_⟩
    · obtain ⟨o', _, _, ho', _⟩ := F.ns
      have e' : D = L := e
      rw [e', ho'] at hD; cases hD
    · cases e : h₀.get? D with
      | none => rfl
      | some o' => rw [F.keep _ _ e] at hD; cases hD
  · exact N p hp
theorem news_ne {h : Heap} {D : Addr} (N : News h₀ L h news) (hD : h.get? D = none) : ∀ p ∈ news, p.1 ≠ D := by
  intro p hp e
  have := (N p hp).1
  rw [e, hD] at this; cases this
/-- a conditional expression of two written ints, not split -/
theorem ifexp_ints {M : Model} {env : Env} {test : Expr} {a c : Int} {k1 k2 : Nat} {p1 p2 pos : Pos} (h : wpAny M A (isTrue test env (eval test env)) (fun b s₁ => Q (.int (if b = true then a else c) s₁.toks) { s₁ with toks := s₁.toks + 1 }) E s) :
    wpAny M A (eval (.IfExp test (.Constant (.int a) k1 p1) (.Constant (.int c) k2 p2) pos) env) Q E s := by
  refine IfExp_ (wpAny_mono h (fun b s₁ h₁ => ?_) fun _ _ e => e)
  cases b with
  | true => exact wpAny_Constant_int h₁
  | false => exact wpAny_Constant_int h₁
end

section
variable {prog : Program} {w : World} {A : Around} {E : Value → Shared → Prop} {s : Shared} {env : Env} {h₀ : Heap} {target : Expr} {body orelse : List Stmt} {Q : Flow → Shared → Prop} {m : Str → Option Value} {news : List (Addr × Obj)}
/-- over a list of the ground -/
theorem iter_list {T : Addr} {items : Array Value} (hh : A.handled = none) (hT : h₀.IsList T items) (F : Fr h₀ env.locals s.heap m) (N : News h₀ env.locals s.heap news)
    (J : Nat → (Str → Option Value) → List (Addr × Obj) → Prop) (h0 : J 0 m news)
    (step : ∀ i v m₁ news₁ h₁ tk₁ I o, items[i]? = some v → J i m₁ news₁ → (∀ p ∈ news₁, p.1 ≠ I) → Fr h₀ env.locals h₁ m₁ → News h₀ env.locals h₁ ((I, o) :: news₁) → (∀ p ∈ news, p.1 < I) →
      wpAny (model prog w) A (assign target env v) (fun _ s₂ => wpAny (model prog w) A (execs body env)
        (StepPost h₀ env.locals [I] [(I, o)] s (J (i + 1)) Q) E s₂) E { s with heap := h₁, toks := tk₁ })
    (done : ∀ h' tk m' news', Fr h₀ env.locals h' m' → News h₀ env.locals h' news' → J items.size m' news' → wpAny (model prog w) A (execs orelse env) Q E { s with heap := h', toks := tk })
    (hE : PassesOwn (model prog w) A env E) :
    wpAny (model prog w) A (pyIter (.ref T)) (fun it s₂ => codeAny (model prog w) A (.forLoop target it body orelse env) (LoopR prog w A env Q E) s₂) E s := by
  obtain ⟨oT, hoT, hcT, nT, hdT⟩ := id hT
  have hTs : s.heap.IsList T items := ⟨oT, F.keep _ _ hoT, hcT, nT, hdT⟩
  have hlt : T < s.heap.objs.size := Heap.lt_size (F.keep _ _ hoT)
  have hne : T ≠ s.heap.objs.size := Nat.ne_of_lt hlt
  have hLs : env.locals < s.heap.objs.size := F.ns.lt
  refine wpAny_pyIter_list hTs ?_
  refine my_loop (s := { s with heap := s.heap.push _ }) (ws := [s.heap.objs.size]) (KTurns.ofWalks (Walks.list hh s.heap.objs.size T hne items) fun i v s Q E st q => letGo_listiter st.1 q) ?_ ?_ ?_ ?_ ?_ ?_ (F.push _) (fun p hp => ⟨Heap.get?_push_of_some _ (N p hp).1, (N p hp).2⟩) J h0 ?_ ?_ hE
  · intro b hb
    have hb' : b = s.heap.objs.size ∨ b = T := by simpa using hb
    rcases hb' with rfl | rfl
    · exact .inl (by simp)
    · exact .inr ⟨oT, hoT⟩
  · intro b hb; simpa using hb
  · intro b hb
    have hb' : b = s.heap.objs.size := by simpa using hb
    subst hb'
    exact ⟨base_new F (Nat.le_refl _), Nat.ne_of_gt hLs⟩
  · rintro i h ⟨⟨o, ho, _⟩, _⟩ b hb
    have hb' : b = s.heap.objs.size := by simpa using hb
    subst hb'
    exact ⟨o, ho⟩
  · intro p hp hI
    have hb' : p.1 = s.heap.objs.size := by simpa using hI
    exact absurd (Heap.lt_size (N p hp).1) (hb' ▸ Nat.lt_irrefl _)
  · exact ⟨⟨_, Heap.get?_push_size _ rfl, rfl, rfl⟩, hTs.at fun o e => Heap.get?_push_of_some _ e⟩
  · intro i v m₁ news₁ h₁ tk₁ its hi hP hJ hoff hits F₁ N₁
    obtain ⟨o, rfl⟩ := one_of hits
    exact step i v m₁ news₁ h₁ tk₁ _ o hP hJ (fun p hp e => hoff p hp (by simp [e])) F₁ N₁ fun p hp => Heap.lt_size (N p hp).1
  · intro h' tk m' news' F' N' _ hJ
    exact done h' tk m' news' F' N' hJ
end
/-- the body and the scope of a def that the written part holds -/
def fnBody (K : Frag) (a : Addr) : List Stmt := match K.lookup a with
  | some ⟨_, _, .func fd, _⟩ => (match fd.body with | .stmts b => b | _ => [])
  | _ => []
def fnScope (K : Frag) (a : Addr) : Scope := match K.lookup a with
  | some ⟨_, _, .func fd, _⟩ => fd.scope
  | _ => { kind := .function, names := [], isGenerator := false, isCoroutine := false }
/-- the law's end: True, the frame as it is kept -/
def LawEnd (h₀ : Heap) (L : Addr) (s : Shared) (fl : Flow) (s' : Shared) : Prop :=
  fl = .ret (.bool true) ∧ ∃ h' tk m', s' = { s with heap := h', toks := tk } ∧ Fr h₀ L h' m'
def Hold (p : Prop) : Prop := p
theorem execs_cut_at {M : Model} {Γ : Ctx} {E : Value → Pos → Shared → Prop} {env : Env} (P : Shared → Prop) {Q : Flow → Pos → Shared → Prop} : ∀ (n : Nat) {l : List Stmt} {p : Pos} {s : Shared},
    Sem.wp M Γ (execs (l.take n) env) (fun f _ s' => f = .next ∧ P s') E p s → (∀ p' s', P s' → Sem.wp M Γ (execs (l.drop n) env) Q E p' s') → Sem.wp M Γ (execs l env) Q E p s
  | 0, _, p, s, h, k => k p s (show Flow.next = Flow.next ∧ P s from h).2
  | _ + 1, [], p, s, h, k => k p s (show Flow.next = Flow.next ∧ P s from h).2
  | n + 1, a :: r, p, s, h, k => by
    rw [List.take_succ_cons, execs_cons, Sem.wp_bind'] at h
    rw [execs_cons, Sem.wp_bind']
    refine Sem.wp_mono M Γ _ (fun f p' s' h' => ?_) (fun _ _ _ h' => h') _ _ h
    cases f with
    | next => exact execs_cut_at P n h' k
    | ret v => exact absurd (show Flow.ret v = Flow.next ∧ P s' from h').1 (by intro e; cases e)
    | brk => exact absurd (show Flow.brk = Flow.next ∧ P s' from h').1 (by intro e; cases e)
    | cont => exact absurd (show Flow.cont = Flow.next ∧ P s' from h').1 (by intro e; cases e)
/-- the first n statements end in P; the rest goes on from any state of P -/
theorem execs_cut {M : Model} {A : Around} {E : Value → Shared → Prop} {env : Env} {l : List Stmt} {s : Shared} {Q : Flow → Shared → Prop} (n : Nat) (P : Shared → Prop)
    (h : wpAny M A (execs (l.take n) env) (fun f s' => Hold (f = .next ∧ P s')) E s) (k : ∀ s', P s' → wpAny M A (execs (l.drop n) env) Q E s') : wpAny M A (execs l env) Q E s :=
  fun Γ p hΓ => execs_cut_at P n (h Γ p hΓ) fun p' s' hP => k s' hP Γ p' hΓ
theorem chainN {m : Str → Option Value} : ∀ {l : List (Str × Value)}, (∀ q ∈ l, m q.1 = some q.2) → m = fun y => l.foldr (fun q r => if y = q.1 then some q.2 else r) (m y)
  | [], _ => rfl
  | q :: l, h => by
    have ih := chainN (m := m) (l := l) fun r hr => h r (.tail _ hr)
    funext y
    by_cases e : y = q.1
    · simp [List.foldr, e, h q (.head _)]
    · simp only [List.foldr, if_neg e]; exact congrFun ih y
theorem news_pick2 {h₀ h : Heap} {L : Addr} {l : List (Addr × Obj)} {a b : Addr × Obj} (N : News h₀ L h l) (h1 : a ∈ l) (h2 : b ∈ l) : News h₀ L h [a, b] := by
  intro p hp
  rcases List.mem_cons.mp hp with rfl | hp
  · exact N _ h1
  · rw [List.mem_singleton.mp hp]; exact N _ h2
theorem ints_item {vs : List Value} {ns : List Int} (h : IntsAre vs ns) {i : Nat} {v : Value} (hv : vs[i]? = some v) : ∃ x t, x ∈ ns ∧ v = .int x t := by
  have hi : i < ns.length := by rw [← h.length]; exact (List.getElem?_eq_some_iff.mp hv).1
  obtain ⟨t, ht⟩ := h.get i (ns[i]'hi) (List.getElem?_eq_getElem hi)
  rw [hv] at ht
  exact ⟨_, t, List.getElem_mem hi, Option.some.inj ht⟩
end Mine
namespace Mine
theorem nat_and_pow (n k : Nat) : n &&& 2 ^ k = 2 ^ k * (n / 2 ^ k % 2) := by
  have h1 : (n &&& 2 ^ k) / 2 ^ k = n / 2 ^ k % 2 := by
    rw [Nat.and_div_two_pow, Nat.div_self (Nat.two_pow_pos k), Nat.and_one_is_mod]
  have h2 : (n &&& 2 ^ k) % 2 ^ k = 0 := by
    rw [Nat.and_mod_two_pow, Nat.mod_self, Nat.and_zero]
  have h3 := Nat.div_add_mod (n &&& 2 ^ k) (2 ^ k)
  rw [h1, h2] at h3
  omega
theorem nat_and_type (n : Nat) : n &&& 61440 = 4096 * (n / 4096 % 16) := by
  have h1 : (n &&& 61440) / 2 ^ 12 = n / 4096 % 16 := by
    rw [Nat.and_div_two_pow]
    exact Nat.and_two_pow_sub_one_eq_mod (n / 2 ^ 12) 4
  have h2 : (n &&& 61440) % 2 ^ 12 = 0 := by
    rw [Nat.and_mod_two_pow]
    exact Nat.and_zero _
  have h3 := Nat.div_add_mod (n &&& 61440) (2 ^ 12)
  rw [h1, h2] at h3
  omega
theorem bitAnd_type (x : Int) : Builtin.bitAnd x 61440 = 4096 * (x / 4096 % 16) := by
  by_cases hx : 0 ≤ x
  · rw [bitAnd_pp hx (by decide), show (61440 : Int).toNat = 61440 from rfl, nat_and_type]; omega
  · rw [bitAnd_np hx (by decide), show (61440 : Int).toNat = 61440 from rfl, Nat.and_comm, nat_and_type]
    unfold Builtin.bitNot; omega
theorem bitAnd_pow (x : Int) (k : Nat) : Builtin.bitAnd x ((2 ^ k : Nat) : Int) = ((2 ^ k : Nat) : Int) * (x / ((2 ^ k : Nat) : Int) % 2) := by
  have hv : 0 < 2 ^ k := Nat.two_pow_pos k
  generalize hV : 2 ^ k = v at *
  have h : ∀ n : Nat, n &&& v = v * (n / v % 2) := by subst hV; exact fun n => nat_and_pow n k
  by_cases hx : 0 ≤ x
  · obtain ⟨n, rfl⟩ := Int.eq_ofNat_of_zero_le hx
    rw [bitAnd_pp hx (Int.natCast_nonneg _), Int.toNat_natCast, Int.toNat_natCast, h]
    push_cast; rfl
  · rw [bitAnd_np hx (Int.natCast_nonneg _), Int.toNat_natCast, Nat.and_comm, h]
    obtain ⟨n, rfl⟩ : ∃ n : Nat, x = -((n : Int) + 1) := ⟨(-x - 1).toNat, by omega⟩
    have e1 : (Builtin.bitNot (-((n : Int) + 1))).toNat = n := by unfold Builtin.bitNot; omega
    have e2 : (-((n : Int) + 1)) / (v : Int) = -((n : Int) / (v : Int) + 1) := Int.negSucc_ediv n (by omega)
    rw [e1, e2]
    push_cast
    generalize (n : Int) / (v : Int) = q
    have e3 : (-(q + 1)) % 2 = 1 - q % 2 := by omega
    rw [e3, Int.mul_sub, Int.mul_one]
theorem bitAnd_p0 (x : Int) : Builtin.bitAnd x 1 = 1 * (x / 1 % 2) := bitAnd_pow x 0
theorem bitAnd_p1 (x : Int) : Builtin.bitAnd x 2 = 2 * (x / 2 % 2) := bitAnd_pow x 1
theorem bitAnd_p2 (x : Int) : Builtin.bitAnd x 4 = 4 * (x / 4 % 2) := bitAnd_pow x 2
theorem bitAnd_p3 (x : Int) : Builtin.bitAnd x 8 = 8 * (x / 8 % 2) := bitAnd_pow x 3
theorem bitAnd_p4 (x : Int) : Builtin.bitAnd x 16 = 16 * (x / 16 % 2) := bitAnd_pow x 4
theorem bitAnd_p5 (x : Int) : Builtin.bitAnd x 32 = 32 * (x / 32 % 2) := bitAnd_pow x 5
theorem bitAnd_p6 (x : Int) : Builtin.bitAnd x 64 = 64 * (x / 64 % 2) := bitAnd_pow x 6
theorem bitAnd_p7 (x : Int) : Builtin.bitAnd x 128 = 128 * (x / 128 % 2) := bitAnd_pow x 7
theorem bitAnd_p8 (x : Int) : Builtin.bitAnd x 256 = 256 * (x / 256 % 2) := bitAnd_pow x 8
theorem bitAnd_p9 (x : Int) : Builtin.bitAnd x 512 = 512 * (x / 512 % 2) := bitAnd_pow x 9
theorem bitAnd_p10 (x : Int) : Builtin.bitAnd x 1024 = 1024 * (x / 1024 % 2) := bitAnd_pow x 10
theorem bitAnd_p11 (x : Int) : Builtin.bitAnd x 2048 = 2048 * (x / 2048 % 2) := bitAnd_pow x 11
theorem nat_and_2112 (n : Nat) : n &&& 2112 = 2048 * (n / 2048 % 2) + 64 * (n / 64 % 2) := by
  have e : n &&& 2112 = (n &&& 2048) ||| (n &&& 64) := by rw [← Nat.and_or_distrib_left]; rfl
  have h1 := nat_and_pow n 11
  have h2 := nat_and_pow n 6
  simp only [Nat.reducePow] at h1 h2
  rw [e, h1, h2]
  rcases Nat.mod_two_eq_zero_or_one (n / 2048) with q | q <;> rcases Nat.mod_two_eq_zero_or_one (n / 64) with r | r <;> rw [q, r] <;> rfl
theorem bitAnd_2112 (x : Int) : Builtin.bitAnd x 2112 = 2048 * (x / 2048 % 2) + 64 * (x / 64 % 2) := by
  by_cases hx : 0 ≤ x
  · rw [bitAnd_pp hx (by decide), show (2112 : Int).toNat = 2112 from rfl, nat_and_2112]; omega
  · rw [bitAnd_np hx (by decide), show (2112 : Int).toNat = 2112 from rfl, Nat.and_comm, nat_and_2112]
    unfold Builtin.bitNot; omega
theorem nat_and_1032 (n : Nat) : n &&& 1032 = 1024 * (n / 1024 % 2) + 8 * (n / 8 % 2) := by
  have e : n &&& 1032 = (n &&& 1024) ||| (n &&& 8) := by rw [← Nat.and_or_distrib_left]; rfl
  have h1 := nat_and_pow n 10
  have h2 := nat_and_pow n 3
  simp only [Nat.reducePow] at h1 h2
  rw [e, h1, h2]
  rcases Nat.mod_two_eq_zero_or_one (n / 1024) with q | q <;> rcases Nat.mod_two_eq_zero_or_one (n / 8) with r | r <;> rw [q, r] <;> rfl
theorem bitAnd_1032 (x : Int) : Builtin.bitAnd x 1032 = 1024 * (x / 1024 % 2) + 8 * (x / 8 % 2) := by
  by_cases hx : 0 ≤ x
  · rw [bitAnd_pp hx (by decide), show (1032 : Int).toNat = 1032 from rfl, nat_and_1032]; omega
  · rw [bitAnd_np hx (by decide), show (1032 : Int).toNat = 1032 from rfl, Nat.and_comm, nat_and_1032]
    unfold Builtin.bitNot; omega
theorem nat_and_513 (n : Nat) : n &&& 513 = 512 * (n / 512 % 2) + 1 * (n / 1 % 2) := by
  have e : n &&& 513 = (n &&& 512) ||| (n &&& 1) := by rw [← Nat.and_or_distrib_left]; rfl
  have h1 := nat_and_pow n 9
  have h2 := nat_and_pow n 0
  simp only [Nat.reducePow] at h1 h2
  rw [e, h1, h2]
  rcases Nat.mod_two_eq_zero_or_one (n / 512) with q | q <;> rcases Nat.mod_two_eq_zero_or_one (n / 1) with r | r <;> rw [q, r] <;> rfl
theorem bitAnd_513 (x : Int) : Builtin.bitAnd x 513 = 512 * (x / 512 % 2) + 1 * (x / 1 % 2) := by
  by_cases hx : 0 ≤ x
  · rw [bitAnd_pp hx (by decide), show (513 : Int).toNat = 513 from rfl, nat_and_513]; omega
  · rw [bitAnd_np hx (by decide), show (513 : Int).toNat = 513 from rfl, Nat.and_comm, nat_and_513]
    unfold Builtin.bitNot; omega

/-- the signs, out of the type's number and the twelve bits -/
def typeSign (k : Int) : Str :=
  if k = 10 then Str.ofString "l" else if k = 12 then Str.ofString "s" else if k = 8 then Str.ofString "-" else if k = 6 then Str.ofString "b" else if k = 4 then Str.ofString "d" else if k = 2 then Str.ofString "c" else if k = 1 then Str.ofString "p" else Str.ofString "?"
def oneSign (b : Int) (c : Str) : Str := if b = 1 then c else Str.ofString "-"
def endSign (runs above : Int) (both alone : Str) : Str := if above = 1 then (if runs = 1 then both else alone) else if runs = 1 then Str.ofString "x" else Str.ofString "-"
def sigOf (ty b0 b1 b2 b3 b4 b5 b6 b7 b8 b9 b10 b11 : Int) : List Str :=
  [typeSign ty, oneSign b8 (Str.ofString "r"), oneSign b7 (Str.ofString "w"), endSign b6 b11 (Str.ofString "s") (Str.ofString "S"),
   oneSign b5 (Str.ofString "r"), oneSign b4 (Str.ofString "w"), endSign b3 b10 (Str.ofString "s") (Str.ofString "S"),
   oneSign b2 (Str.ofString "r"), oneSign b1 (Str.ofString "w"), endSign b0 b9 (Str.ofString "t") (Str.ofString "T")]
theorem ifd {c d : Prop} [Decidable c] [Decidable d] {α : Type} {a b : α} (h : c ↔ d) : (if decide c = true then a else b) = if d then a else b := by
  by_cases hd : d
  · rw [if_pos hd, if_pos (decide_eq_true (h.mpr hd))]
  · rw [if_neg hd, if_neg (by simpa using fun hc => hd (h.mp hc))]
theorem sign0 (x : Int) : fmSign x 0 = typeSign (x / 4096 % 16) := by
  show pick (pickTest x 0) (pickDflt 0) [(40960, Str.ofString "l"), (49152, Str.ofString "s"), (32768, Str.ofString "-"), (24576, Str.ofString "b"), (16384, Str.ofString "d"), (8192, Str.ofString "c"), (4096, Str.ofString "p")] = _
  simp only [pick, pickTest, pickDflt, if_true, bitAnd_type, typeSign]
  rw [ifd (show 4096 * (x / 4096 % 16) = 40960 ↔ x / 4096 % 16 = 10 by omega), ifd (show 4096 * (x / 4096 % 16) = 49152 ↔ x / 4096 % 16 = 12 by omega), ifd (show 4096 * (x / 4096 % 16) = 32768 ↔ x / 4096 % 16 = 8 by omega), ifd (show 4096 * (x / 4096 % 16) = 24576 ↔ x / 4096 % 16 = 6 by omega), ifd (show 4096 * (x / 4096 % 16) = 16384 ↔ x / 4096 % 16 = 4 by omega), ifd (show 4096 * (x / 4096 % 16) = 8192 ↔ x / 4096 % 16 = 2 by omega), ifd (show 4096 * (x / 4096 % 16) = 4096 ↔ x / 4096 % 16 = 1 by omega)]
theorem sign1 (x : Int) : fmSign x 1 = oneSign (x / 256 % 2) (Str.ofString "r") := by
  show pick (pickTest x 1) (pickDflt 1) [(256, Str.ofString "r")] = _
  simp only [pick, pickTest, pickDflt, show (1 : Nat) = 0 ↔ False from by decide, if_false, bitAnd_p8, oneSign]
  rw [ifd (show 256 * (x / 256 % 2) = 256 ↔ x / 256 % 2 = 1 by omega)]
theorem sign2 (x : Int) : fmSign x 2 = oneSign (x / 128 % 2) (Str.ofString "w") := by
  show pick (pickTest x 2) (pickDflt 2) [(128, Str.ofString "w")] = _
  simp only [pick, pickTest, pickDflt, show (2 : Nat) = 0 ↔ False from by decide, if_false, bitAnd_p7, oneSign]
  rw [ifd (show 128 * (x / 128 % 2) = 128 ↔ x / 128 % 2 = 1 by omega)]
theorem sign4 (x : Int) : fmSign x 4 = oneSign (x / 32 % 2) (Str.ofString "r") := by
  show pick (pickTest x 4) (pickDflt 4) [(32, Str.ofString "r")] = _
  simp only [pick, pickTest, pickDflt, show (4 : Nat) = 0 ↔ False from by decide, if_false, bitAnd_p5, oneSign]
  rw [ifd (show 32 * (x / 32 % 2) = 32 ↔ x / 32 % 2 = 1 by omega)]
theorem sign5 (x : Int) : fmSign x 5 = oneSign (x / 16 % 2) (Str.ofString "w") := by
  show pick (pickTest x 5) (pickDflt 5) [(16, Str.ofString "w")] = _
  simp only [pick, pickTest, pickDflt, show (5 : Nat) = 0 ↔ False from by decide, if_false, bitAnd_p4, oneSign]
  rw [ifd (show 16 * (x / 16 % 2) = 16 ↔ x / 16 % 2 = 1 by omega)]
theorem sign7 (x : Int) : fmSign x 7 = oneSign (x / 4 % 2) (Str.ofString "r") := by
  show pick (pickTest x 7) (pickDflt 7) [(4, Str.ofString "r")] = _
  simp only [pick, pickTest, pickDflt, show (7 : Nat) = 0 ↔ False from by decide, if_false, bitAnd_p2, oneSign]
  rw [ifd (show 4 * (x / 4 % 2) = 4 ↔ x / 4 % 2 = 1 by omega)]
theorem sign8 (x : Int) : fmSign x 8 = oneSign (x / 2 % 2) (Str.ofString "w") := by
  show pick (pickTest x 8) (pickDflt 8) [(2, Str.ofString "w")] = _
  simp only [pick, pickTest, pickDflt, show (8 : Nat) = 0 ↔ False from by decide, if_false, bitAnd_p1, oneSign]
  rw [ifd (show 2 * (x / 2 % 2) = 2 ↔ x / 2 % 2 = 1 by omega)]
theorem sign3 (x : Int) : fmSign x 3 = endSign (x / 64 % 2) (x / 2048 % 2) (Str.ofString "s") (Str.ofString "S") := by
  show pick (pickTest x 3) (pickDflt 3) [(2112, Str.ofString "s"), (2048, Str.ofString "S"), (64, Str.ofString "x")] = _
  simp only [pick, pickTest, pickDflt, show (3 : Nat) = 0 ↔ False from by decide, if_false, bitAnd_p6, bitAnd_p11, bitAnd_2112, endSign]
  rw [ifd (show 2048 * (x / 2048 % 2) + 64 * (x / 64 % 2) = 2112 ↔ (x / 2048 % 2 = 1 ∧ x / 64 % 2 = 1) by omega), ifd (show 2048 * (x / 2048 % 2) = 2048 ↔ x / 2048 % 2 = 1 by omega), ifd (show 64 * (x / 64 % 2) = 64 ↔ x / 64 % 2 = 1 by omega)]
  by_cases h1 : x / 2048 % 2 = 1 <;> by_cases h2 : x / 64 % 2 = 1 <;> simp [h1, h2]
theorem sign6 (x : Int) : fmSign x 6 = endSign (x / 8 % 2) (x / 1024 % 2) (Str.ofString "s") (Str.ofString "S") := by
  show pick (pickTest x 6) (pickDflt 6) [(1032, Str.ofString "s"), (1024, Str.ofString "S"), (8, Str.ofString "x")] = _
  simp only [pick, pickTest, pickDflt, show (6 : Nat) = 0 ↔ False from by decide, if_false, bitAnd_p3, bitAnd_p10, bitAnd_1032, endSign]
  rw [ifd (show 1024 * (x / 1024 % 2) + 8 * (x / 8 % 2) = 1032 ↔ (x / 1024 % 2 = 1 ∧ x / 8 % 2 = 1) by omega), ifd (show 1024 * (x / 1024 % 2) = 1024 ↔ x / 1024 % 2 = 1 by omega), ifd (show 8 * (x / 8 % 2) = 8 ↔ x / 8 % 2 = 1 by omega)]
  by_cases h1 : x / 1024 % 2 = 1 <;> by_cases h2 : x / 8 % 2 = 1 <;> simp [h1, h2]
theorem sign9 (x : Int) : fmSign x 9 = endSign (x / 1 % 2) (x / 512 % 2) (Str.ofString "t") (Str.ofString "T") := by
  show pick (pickTest x 9) (pickDflt 9) [(513, Str.ofString "t"), (512, Str.ofString "T"), (1, Str.ofString "x")] = _
  simp only [pick, pickTest, pickDflt, show (9 : Nat) = 0 ↔ False from by decide, if_false, bitAnd_p0, bitAnd_p9, bitAnd_513, endSign]
  rw [ifd (show 512 * (x / 512 % 2) + 1 * (x / 1 % 2) = 513 ↔ (x / 512 % 2 = 1 ∧ x / 1 % 2 = 1) by omega), ifd (show 512 * (x / 512 % 2) = 512 ↔ x / 512 % 2 = 1 by omega), ifd (show 1 * (x / 1 % 2) = 1 ↔ x / 1 % 2 = 1 by omega)]
  by_cases h1 : x / 512 % 2 = 1 <;> by_cases h2 : x / 1 % 2 = 1 <;> simp [h1, h2]
theorem fmSigns_eq (x : Int) : fmSigns x = sigOf (x / 4096 % 16) (x / 1 % 2) (x / 2 % 2) (x / 4 % 2) (x / 8 % 2) (x / 16 % 2) (x / 32 % 2) (x / 64 % 2) (x / 128 % 2) (x / 256 % 2) (x / 512 % 2) (x / 1024 % 2) (x / 2048 % 2) := by
  have : fmSigns x = [fmSign x 0, fmSign x 1, fmSign x 2, fmSign x 3, fmSign x 4, fmSign x 5, fmSign x 6, fmSign x 7, fmSign x 8, fmSign x 9] := rfl
  rw [this, sign0, sign1, sign2, sign3, sign4, sign5, sign6, sign7, sign8, sign9]
  rfl
theorem half {M v A c B : Int} (h : M / v = A) (e : A = 2 * B + c) (hc : 0 ≤ c ∧ c ≤ 1) (hv : 0 ≤ v) : M / (v * 2) = B ∧ M / v % 2 = c := by
  constructor
  · rw [← Int.ediv_ediv_of_nonneg hv, h]; omega
  · rw [h]; omega
theorem bit_is {v c V L M : Int} (hv : 0 < v) (hL : 0 ≤ L) (hL' : L < v) (hc : 0 ≤ c ∧ c ≤ 1) (e : M = v * (c + 2 * V) + L) : M / v % 2 = c := by
  have : M / v = c + 2 * V := by
    rw [e, Int.add_comm, Int.add_mul_ediv_left _ _ (Int.ne_of_gt hv), Int.ediv_eq_zero_of_lt hL hL', Int.zero_add]
  rw [this]; omega
set_option maxHeartbeats 4000000 in
theorem bits_of {T c0 c1 c2 c3 c4 c5 c6 c7 c8 c9 c10 c11 M : Int} (h0 : 0 ≤ c0 ∧ c0 ≤ 1) (h1 : 0 ≤ c1 ∧ c1 ≤ 1) (h2 : 0 ≤ c2 ∧ c2 ≤ 1) (h3 : 0 ≤ c3 ∧ c3 ≤ 1) (h4 : 0 ≤ c4 ∧ c4 ≤ 1) (h5 : 0 ≤ c5 ∧ c5 ≤ 1) (h6 : 0 ≤ c6 ∧ c6 ≤ 1) (h7 : 0 ≤ c7 ∧ c7 ≤ 1) (h8 : 0 ≤ c8 ∧ c8 ≤ 1) (h9 : 0 ≤ c9 ∧ c9 ≤ 1) (h10 : 0 ≤ c10 ∧ c10 ≤ 1) (h11 : 0 ≤ c11 ∧ c11 ≤ 1) (e : M = 4096 * T + (c0 + 2 * c1 + 4 * c2 + 8 * c3 + 16 * c4 + 32 * c5 + 64 * c6 + 128 * c7 + 256 * c8 + 512 * c9 + 1024 * c10 + 2048 * c11)) :
    M / 4096 = T ∧ M / 1 % 2 = c0 ∧ M / 2 % 2 = c1 ∧ M / 4 % 2 = c2 ∧ M / 8 % 2 = c3 ∧ M / 16 % 2 = c4 ∧ M / 32 % 2 = c5 ∧ M / 64 % 2 = c6 ∧ M / 128 % 2 = c7 ∧ M / 256 % 2 = c8 ∧ M / 512 % 2 = c9 ∧ M / 1024 % 2 = c10 ∧ M / 2048 % 2 = c11 := by
  have a0 : M / 1 = M := Int.ediv_one M
  obtain ⟨a1, r0⟩ := half (B := 2048 * T + 1 * c1 + 2 * c2 + 4 * c3 + 8 * c4 + 16 * c5 + 32 * c6 + 64 * c7 + 128 * c8 + 256 * c9 + 512 * c10 + 1024 * c11) a0 (by omega) h0 (by decide)
  obtain ⟨a2, r1⟩ := half (B := 1024 * T + 1 * c2 + 2 * c3 + 4 * c4 + 8 * c5 + 16 * c6 + 32 * c7 + 64 * c8 + 128 * c9 + 256 * c10 + 512 * c11) a1 (by omega) h1 (by decide)
  obtain ⟨a3, r2⟩ := half (B := 512 * T + 1 * c3 + 2 * c4 + 4 * c5 + 8 * c6 + 16 * c7 + 32 * c8 + 64 * c9 + 128 * c10 + 256 * c11) a2 (by omega) h2 (by decide)
  obtain ⟨a4, r3⟩ := half (B := 256 * T + 1 * c4 + 2 * c5 + 4 * c6 + 8 * c7 + 16 * c8 + 32 * c9 + 64 * c10 + 128 * c11) a3 (by omega) h3 (by decide)
  obtain ⟨a5, r4⟩ := half (B := 128 * T + 1 * c5 + 2 * c6 + 4 * c7 + 8 * c8 + 16 * c9 + 32 * c10 + 64 * c11) a4 (by omega) h4 (by decide)
  obtain ⟨a6, r5⟩ := half (B := 64 * T + 1 * c6 + 2 * c7 + 4 * c8 + 8 * c9 + 16 * c10 + 32 * c11) a5 (by omega) h5 (by decide)
  obtain ⟨a7, r6⟩ := half (B := 32 * T + 1 * c7 + 2 * c8 + 4 * c9 + 8 * c10 + 16 * c11) a6 (by omega) h6 (by decide)
  obtain ⟨a8, r7⟩ := half (B := 16 * T + 1 * c8 + 2 * c9 + 4 * c10 + 8 * c11) a7 (by omega) h7 (by decide)
  obtain ⟨a9, r8⟩ := half (B := 8 * T + 1 * c9 + 2 * c10 + 4 * c11) a8 (by omega) h8 (by decide)
  obtain ⟨a10, r9⟩ := half (B := 4 * T + 1 * c10 + 2 * c11) a9 (by omega) h9 (by decide)
  obtain ⟨a11, r10⟩ := half (B := 2 * T + 1 * c11) a10 (by omega) h10 (by decide)
  obtain ⟨a12, r11⟩ := half (B := 1 * T) a11 (by omega) h11 (by decide)
  exact ⟨a12.trans (by omega), r0, r1, r2, r3, r4, r5, r6, r7, r8, r9, r10, r11⟩
theorem bitR (x v : Int) : 0 ≤ x / v % 2 ∧ x / v % 2 ≤ 1 := by omega
theorem bits_dec (M : Int) : M = 4096 * (M / 4096) + ((M / 1 % 2) + 2 * (M / 2 % 2) + 4 * (M / 4 % 2) + 8 * (M / 8 % 2) + 16 * (M / 16 % 2) + 32 * (M / 32 % 2) + 64 * (M / 64 % 2) + 128 * (M / 128 % 2) + 256 * (M / 256 % 2) + 512 * (M / 512 % 2) + 1024 * (M / 1024 % 2) + 2048 * (M / 2048 % 2)) := by
  have d0 : M / 1 = 2 * (M / 2) + M / 1 % 2 := by omega
  have d1 : M / 2 = 2 * (M / 4) + M / 2 % 2 := by omega
  have d2 : M / 4 = 2 * (M / 8) + M / 4 % 2 := by omega
  have d3 : M / 8 = 2 * (M / 16) + M / 8 % 2 := by omega
  have d4 : M / 16 = 2 * (M / 32) + M / 16 % 2 := by omega
  have d5 : M / 32 = 2 * (M / 64) + M / 32 % 2 := by omega
  have d6 : M / 64 = 2 * (M / 128) + M / 64 % 2 := by omega
  have d7 : M / 128 = 2 * (M / 256) + M / 128 % 2 := by omega
  have d8 : M / 256 = 2 * (M / 512) + M / 256 % 2 := by omega
  have d9 : M / 512 = 2 * (M / 1024) + M / 512 % 2 := by omega
  have d10 : M / 1024 = 2 * (M / 2048) + M / 1024 % 2 := by omega
  have d11 : M / 2048 = 2 * (M / 4096) + M / 2048 % 2 := by omega
  rw [Int.ediv_one] at d0
  generalize M / 2 % 2 = b1 at *
  generalize M / 4 % 2 = b2 at *
  generalize M / 8 % 2 = b3 at *
  generalize M / 16 % 2 = b4 at *
  generalize M / 32 % 2 = b5 at *
  generalize M / 64 % 2 = b6 at *
  generalize M / 128 % 2 = b7 at *
  generalize M / 256 % 2 = b8 at *
  generalize M / 512 % 2 = b9 at *
  generalize M / 1024 % 2 = b10 at *
  generalize M / 2048 % 2 = b11 at *
  rw [Int.ediv_one]
  generalize M % 2 = b0 at *
  generalize M / 2 = a1 at *
  generalize M / 4 = a2 at *
  generalize M / 8 = a3 at *
  generalize M / 16 = a4 at *
  generalize M / 32 = a5 at *
  generalize M / 64 = a6 at *
  generalize M / 128 = a7 at *
  generalize M / 256 = a8 at *
  generalize M / 512 = a9 at *
  generalize M / 1024 = a10 at *
  generalize M / 2048 = a11 at *
  generalize M / 4096 = a12 at *
  omega
end Mine
namespace Mine
section
variable {prog : Program} {w : World} {A : Around} {E : Value → Shared → Prop} {s : Shared} {env : Env} {h₀ : Heap} {target : Expr} {body orelse : List Stmt} {Q : Flow → Shared → Prop} {m : Str → Option Value} {news : List (Addr × Obj)}
/-- over a range by ones -/
theorem iter_range {x : Str} {px : Pos} {r : Addr} {a b : Int} {t u v : Tok} {n : Nat} (hh : A.handled = none) (hr : IsRange s.heap r a b 1 t u v) (hsmall : Builtin.Range.small a b 1 = true) (hsz : Builtin.Range.rangeSize a b 1 = (n : Int))
    (F : Fr h₀ env.locals s.heap m) (N : News h₀ env.locals s.heap news)
    (J : Nat → (Str → Option Value) → List (Addr × Obj) → Prop) (h0 : J 0 m news)
    (step : ∀ i k t₁ m₁ news₁ h₁ tk₁ I o, i < n → k = a + (i : Int) → J i m₁ news₁ → (∀ p ∈ news₁, p.1 ≠ I) → Fr h₀ env.locals h₁ m₁ → News h₀ env.locals h₁ ((I, o) :: news₁) → (∀ p ∈ news, p.1 < I) →
      wpAny (model prog w) A (assign (.Name x px) env (.int k t₁)) (fun _ s₂ => wpAny (model prog w) A (execs body env)
        (StepPost h₀ env.locals [I] [(I, o)] s (J (i + 1)) Q) E s₂) E { s with heap := h₁, toks := tk₁ })
    (done : ∀ h' tk m' news', Fr h₀ env.locals h' m' → News h₀ env.locals h' news' → J n m' news' → wpAny (model prog w) A (execs orelse env) Q E { s with heap := h', toks := tk })
    (hE : PassesOwn (model prog w) A env E) :
    wpAny (model prog w) A (pyIter (.ref r)) (fun it s₂ => codeAny (model prog w) A (.forLoop (.Name x px) it body orelse env) (LoopR prog w A env Q E) s₂) E s := by
  have hLs : env.locals < s.heap.objs.size := F.ns.lt
  refine wpAny_pyIter_range hr hsmall ?_
  refine my_loop (s := { s with heap := s.heap.push _ }) (ws := [s.heap.objs.size]) (KTurns.ofWalks (Walks.range hh s.heap.objs.size a 1 n) fun i v s Q E st q => wpAny_pure q) ?_ ?_ ?_ ?_ ?_ ?_ (F.push _) (fun p hp => ⟨Heap.get?_push_of_some _ (N p hp).1, (N p hp).2⟩) J h0 ?_ ?_ hE
  · intro b hb
    exact .inl hb
  · intro b hb; exact hb
  · intro b hb
    have hb' : b = s.heap.objs.size := by simpa using hb
    subst hb'
    exact ⟨base_new F (Nat.le_refl _), Nat.ne_of_gt hLs⟩
  · intro i h hst b hb
    have hb' : b = s.heap.objs.size := by simpa using hb
    subst hb'
    exact ⟨_, hst⟩
  · intro p hp hI
    have hb' : p.1 = s.heap.objs.size := by simpa using hI
    exact absurd (Heap.lt_size (N p hp).1) (hb' ▸ Nat.lt_irrefl _)
  · rw [hsz]
    show IsRangeIter _ _ (a + ((0 : Nat) : Int) * 1) ((n : Int) - ((0 : Nat) : Int)) 1
    have e1 : a + ((0 : Nat) : Int) * 1 = a := by omega
    have e2 : (n : Int) - ((0 : Nat) : Int) = n := by omega
    rw [e1, e2]
    exact Heap.get?_push_size _ rfl
  · intro i v m₁ news₁ h₁ tk₁ its hi hP hJ hoff hits F₁ N₁
    obtain ⟨o, rfl⟩ := one_of hits
    obtain ⟨t₁, rfl⟩ := hP
    exact step i _ t₁ m₁ news₁ h₁ tk₁ _ o hi (by omega) hJ (fun p hp e => hoff p hp (by simp [e])) F₁ N₁ fun p hp => Heap.lt_size (N p hp).1
  · intro h' tk m' news' F' N' _ hJ
    exact done h' tk m' news' F' N' hJ
/-- over a list that the call has made -/
theorem iter_ledger {T : Addr} {items : Array Value} (hh : A.handled = none) (hT : s.heap.IsList T items) (hT0 : h₀.get? T = none) (hTL : T ≠ env.locals) (F : Fr h₀ env.locals s.heap m) (N : News h₀ env.locals s.heap news) (hTn : ∀ p ∈ news, p.1 ≠ T)
    (J : Nat → (Str → Option Value) → List (Addr × Obj) → Prop) (h0 : J 0 m news)
    (step : ∀ i v m₁ news₁ h₁ tk₁ I o oT, items[i]? = some v → J i m₁ news₁ → (∀ p ∈ news₁, p.1 ≠ I ∧ p.1 ≠ T) → Fr h₀ env.locals h₁ m₁ → News h₀ env.locals h₁ ((I, o) :: (T, oT) :: news₁) → (∀ p ∈ news, p.1 < I) → T < I →
      wpAny (model prog w) A (assign target env v) (fun _ s₂ => wpAny (model prog w) A (execs body env)
        (StepPost h₀ env.locals [I, T] [(I, o), (T, oT)] s (J (i + 1)) Q) E s₂) E { s with heap := h₁, toks := tk₁ })
    (done : ∀ h' tk m' news', Fr h₀ env.locals h' m' → News h₀ env.locals h' news' → J items.size m' news' → wpAny (model prog w) A (execs orelse env) Q E { s with heap := h', toks := tk })
    (hE : PassesOwn (model prog w) A env E) :
    wpAny (model prog w) A (pyIter (.ref T)) (fun it s₂ => codeAny (model prog w) A (.forLoop target it body orelse env) (LoopR prog w A env Q E) s₂) E s := by
  obtain ⟨oT, hoT, hcT, nT, hdT⟩ := id hT
  have hlt : T < s.heap.objs.size := Heap.lt_size hoT
  have hne : T ≠ s.heap.objs.size := Nat.ne_of_lt hlt
  have hLs : env.locals < s.heap.objs.size := F.ns.lt
  refine wpAny_pyIter_list hT ?_
  refine my_loop (s := { s with heap := s.heap.push _ }) (ws := [s.heap.objs.size, T]) (KTurns.ofWalks (Walks.list hh s.heap.objs.size T hne items) fun i v s Q E st q => letGo_listiter st.1 q) ?_ ?_ ?_ ?_ ?_ ?_ (F.push _) (fun p hp => ⟨Heap.get?_push_of_some _ (N p hp).1, (N p hp).2⟩) J h0 ?_ ?_ hE
  · intro b hb
    exact .inl hb
  · intro b hb
    have hb' : b = s.heap.objs.size := by simpa using hb
    simp [hb']
  · intro b hb
    have hb' : b = s.heap.objs.size ∨ b = T := by simpa using hb
    rcases hb' with rfl | rfl
    · exact ⟨base_new F (Nat.le_refl _), Nat.ne_of_gt hLs⟩
    · exact ⟨hT0, hTL⟩
  · rintro i h ⟨⟨o, ho, _⟩, ⟨o', ho', _⟩⟩ b hb
    have hb' : b = s.heap.objs.size ∨ b = T := by simpa using hb
    rcases hb' with rfl | rfl
    · exact ⟨o, ho⟩
    · exact ⟨o', ho'⟩
  · intro p hp hI
    have hb' : p.1 = s.heap.objs.size ∨ p.1 = T := by simpa using hI
    rcases hb' with e | e
    · exact absurd (Heap.lt_size (N p hp).1) (e ▸ Nat.lt_irrefl _)
    · exact hTn p hp e
  · exact ⟨⟨_, Heap.get?_push_size _ rfl, rfl, rfl⟩, hT.at fun o e => Heap.get?_push_of_some _ e⟩
  · intro i v m₁ news₁ h₁ tk₁ its hi hP hJ hoff hits F₁ N₁
    obtain ⟨o, oT', rfl⟩ := two_of hits
    exact step i v m₁ news₁ h₁ tk₁ _ o oT' hP hJ (fun p hp => ⟨fun e => hoff p hp (by simp [e]), fun e => hoff p hp (by simp [e])⟩) F₁ N₁ (fun p hp => Heap.lt_size (N p hp).1) hlt
  · intro h' tk m' news' F' N' _ hJ
    exact done h' tk m' news' F' N' hJ
end
end Mine
namespace Mine
def sc (x : Int) (i : Nat) : Nat := (fmSign x i).cps.getD 0 0
theorem one_sign {x : Str} (h : x.length = 1) : x = ⟨#[x.cps.getD 0 0]⟩ := by
  obtain ⟨⟨l⟩⟩ := x
  match l, h with
  | [c], _ => rfl
theorem fmSign_sc (x : Int) (i : Nat) : fmSign x i = ⟨#[sc x i]⟩ := one_sign (fmSign_len x i)
theorem join10 (c0 c1 c2 c3 c4 c5 c6 c7 c8 c9 : Nat) : Txt.join (Str.ofString "") [⟨#[c0]⟩, ⟨#[c1]⟩, ⟨#[c2]⟩, ⟨#[c3]⟩, ⟨#[c4]⟩, ⟨#[c5]⟩, ⟨#[c6]⟩, ⟨#[c7]⟩, ⟨#[c8]⟩, ⟨#[c9]⟩] = ⟨#[c0, c1, c2, c3, c4, c5, c6, c7, c8, c9]⟩ := rfl
theorem fmText_eq (x : Int) : fmText x = ⟨#[sc x 0, sc x 1, sc x 2, sc x 3, sc x 4, sc x 5, sc x 6, sc x 7, sc x 8, sc x 9]⟩ := by
  have e : fmSigns x = [⟨#[sc x 0]⟩, ⟨#[sc x 1]⟩, ⟨#[sc x 2]⟩, ⟨#[sc x 3]⟩, ⟨#[sc x 4]⟩, ⟨#[sc x 5]⟩, ⟨#[sc x 6]⟩, ⟨#[sc x 7]⟩, ⟨#[sc x 8]⟩, ⟨#[sc x 9]⟩] := by
    have : fmSigns x = [fmSign x 0, fmSign x 1, fmSign x 2, fmSign x 3, fmSign x 4, fmSign x 5, fmSign x 6, fmSign x 7, fmSign x 8, fmSign x 9] := rfl
    rw [this]; simp only [fmSign_sc]
  rw [fmText, e]; exact join10 _ _ _ _ _ _ _ _ _ _
theorem fmText_len (x : Int) : (fmText x).length = 10 := by rw [fmText_eq]; rfl
theorem fmText_item0 (x : Int) : Txt.item (fmText x) 0 = fmSign x 0 := by rw [fmText_eq, fmSign_sc]; rfl
theorem fmText_item1 (x : Int) : Txt.item (fmText x) 1 = fmSign x 1 := by rw [fmText_eq, fmSign_sc]; rfl
theorem fmText_item2 (x : Int) : Txt.item (fmText x) 2 = fmSign x 2 := by rw [fmText_eq, fmSign_sc]; rfl
theorem fmText_item3 (x : Int) : Txt.item (fmText x) 3 = fmSign x 3 := by rw [fmText_eq, fmSign_sc]; rfl
theorem fmText_item4 (x : Int) : Txt.item (fmText x) 4 = fmSign x 4 := by rw [fmText_eq, fmSign_sc]; rfl
theorem fmText_item5 (x : Int) : Txt.item (fmText x) 5 = fmSign x 5 := by rw [fmText_eq, fmSign_sc]; rfl
theorem fmText_item6 (x : Int) : Txt.item (fmText x) 6 = fmSign x 6 := by rw [fmText_eq, fmSign_sc]; rfl
theorem fmText_item7 (x : Int) : Txt.item (fmText x) 7 = fmSign x 7 := by rw [fmText_eq, fmSign_sc]; rfl
theorem fmText_item8 (x : Int) : Txt.item (fmText x) 8 = fmSign x 8 := by rw [fmText_eq, fmSign_sc]; rfl
theorem fmText_item9 (x : Int) : Txt.item (fmText x) 9 = fmSign x 9 := by rw [fmText_eq, fmSign_sc]; rfl
end Mine
namespace Mine
section
variable {prog : Program} {w : World} {A : Around} {E : Value → Shared → Prop} {s : Shared} {h₀ : Heap} {L d : Addr} {news : List (Addr × Obj)} {o : Obj} {kvs : List (Str × Value)} {x : Str} {t : Tok}
theorem notin_at {Q : Value → Shared → Prop} (N : News h₀ L s.heap news) (hp : (d, o) ∈ news) (hd : o.IsDictOf (PySem.strKind prog w) kvs) (lo : (d == sysModules) = false) (hv : (valueAt kvs x).isSome = true) (h : Q (.bool false) { s with toks := s.toks + 1 }) :
    wpAny (model prog w) A (compareOp .NotIn (.str x t) (.ref d)) Q E s := by
  refine wpAny_notIn_of (strKind_is _ _ _ _) lo (kda_dict N hp hd).mapOf ?_
  show Q (.bool (!(valueAt kvs x).isSome)) _
  rw [hv]; exact h
theorem item_at {value slice : PySem.Expr} {v : Int} {Q : Value → Shared → Prop} (N : News h₀ L s.heap news) (hp : (d, o) ∈ news) (hd : o.IsDictOf (PySem.strKind prog w) kvs) (hv : ∃ t', valueAt kvs x = some (.int v t')) (h : ∀ t', Q (.int v t') { s with toks := s.toks + 1 })
    (hs : subscripted slice false (.ref d) (.str x t) = operate [.ref d, .str x t] (getItem (.ref d) (.str x t))) (hg : ∀ r, letTemporaryGo value (.ref d) r = pure ()) :
    wpAny (model prog w) A (subscriptTail value slice (.ref d) (.str x t)) Q E s := by
  obtain ⟨t', hv⟩ := hv
  exact kda_item N hp hd (strKind_is _ _ _ _) hv (h t') hs hg
theorem item_get {v : Int} {Q : Value → Shared → Prop} (N : News h₀ L s.heap news) (hp : (d, o) ∈ news) (hd : o.IsDictOf (PySem.strKind prog w) kvs) (hv : ∃ t', valueAt kvs x = some (.int v t')) (h : ∀ t', Q (.int v t') { s with toks := s.toks + 1 }) :
    wpAny (model prog w) A (getItem (.ref d) (.str x t)) Q E s := by
  obtain ⟨t', hv⟩ := hv
  exact wpAny_getItem_of (strKind_is _ _ _ _) (kda_dict N hp hd).mapOf hv (h t')
theorem fm_len {M : Int} {Q : Value → Shared → Prop} (h : ∀ t' k', Q (.int 10 t') { s with toks := k' }) : wpAny (model prog w) A (call (.builtin "len") [.str (fmText M) t]) Q E s := by
  have hl := fmText_len M
  refine PyProof.Rows.len_str (by rw [hl]; decide) ?_
  rw [hl]; exact h _ _
theorem ne_str_is {a b : Str} {u : Tok} {Q : Value → Shared → Prop} (e : a = b) (h : Q (.bool false) s) : wpAny (model prog w) A (compareOp .NotEq (.str a t) (.str b u)) Q E s := by
  subst e
  refine PyProof.Rows.ne_str ?_
  rw [show (a != a) = false by simp]
  exact h
theorem ne_int_is {a b : Int} {u : Tok} {Q : Value → Shared → Prop} (e : a = b) (h : Q (.bool false) s) : wpAny (model prog w) A (compareOp .NotEq (.int a t) (.int b u)) Q E s := by
  subst e
  refine ne_int ?_
  rw [show (a != a) = false by simp]
  exact h
theorem fm_item {value slice : PySem.Expr} {M i : Int} {u : Tok} {Q : Value → Shared → Prop} (h0 : 0 ≤ i) (h1 : i < 10) (h : ∀ t', Q (.str (fmSign M i.toNat) t') { s with toks := s.toks + 1 })
    (hs : subscripted slice false (.str (fmText M) t) (.int i u) = operate [.str (fmText M) t, .int i u] (getItem (.str (fmText M) t) (.int i u)))
    (hg : ∀ r, letTemporaryGo value (.str (fmText M) t) r = pure ()) :
    wpAny (model prog w) A (subscriptTail value slice (.str (fmText M) t) (.int i u)) Q E s := by
  have hl := fmText_len M
  refine KXi.item hl (by omega) h1 (by decide) (fun _ => ?_) hs hg
  have e : Txt.item (fmText M) i = fmSign M i.toNat := by
    rcases (by omega : i = 0 ∨ i = 1 ∨ i = 2 ∨ i = 3 ∨ i = 4 ∨ i = 5 ∨ i = 6 ∨ i = 7 ∨ i = 8 ∨ i = 9) with rfl | rfl | rfl | rfl | rfl | rfl | rfl | rfl | rfl | rfl
    · exact fmText_item0 M
    · exact fmText_item1 M
    · exact fmText_item2 M
    · exact fmText_item3 M
    · exact fmText_item4 M
    · exact fmText_item5 M
    · exact fmText_item6 M
    · exact fmText_item7 M
    · exact fmText_item8 M
    · exact fmText_item9 M
  rw [e]; exact h _
def HasV (kvs : List (Str × Value)) (x : Str) (v : Int) : Prop := ∃ t, valueAt kvs x = some (.int v t)
theorem fdv0 {x v : Int} (h : 0 ≤ v) : x.fdiv v = x / v := Int.fdiv_eq_ediv_of_nonneg _ h
theorem fmv0 {x v : Int} (h : 0 ≤ v) : x.fmod v = x % v := Int.fmod_eq_emod_of_nonneg _ h
theorem type_item (M : Int) : fmSign M 0 = Txt.item (Str.ofString "?pc?d?b?-?l?s???") ((M.fdiv 4096).fmod 16) := by
  rw [sign0, fdv0 (by decide), fmv0 (by decide)]
  have h1 : 0 ≤ M / 4096 % 16 := by omega
  have h2 : M / 4096 % 16 < 16 := by omega
  generalize M / 4096 % 16 = k at *
  have : ∀ n : Fin 16, typeSign ((n : Nat) : Int) = Txt.item (Str.ofString "?pc?d?b?-?l?s???") ((n : Nat) : Int) := by decide +kernel
  have h := this ⟨k.toNat, by omega⟩
  have e : ((k.toNat : Nat) : Int) = k := by omega
  simpa [e] using h
theorem mod_is' (M : Int) : M % 4096 = M.fmod 4096 := (fmv0 (by decide)).symm
theorem hasV_some {v : Int} (h : HasV kvs x v) : (valueAt kvs x).isSome = true := by
  obtain ⟨t, e⟩ := h; rw [e]; rfl
theorem hasV_at {M v : Int} {i c : Nat} (h : ∀ n, n = c → HasV kvs (fmSign M n) v) (e : i = c) : HasV kvs (fmSign M i) v := h _ e
theorem hasV_one {c : Str} {a : Int} {e1 e2 : Tok} (hc : Str.ofString "-" ≠ c) (b : Int) : HasV [(Str.ofString "-", .int 0 e1), (c, .int a e2)] (oneSign b c) (if b = 1 then a else 0) := by
  unfold oneSign HasV valueAt
  by_cases h : b = 1
  · simp [h, List.find?, hc]
  · simp [h, List.find?]
theorem hasV_end {c1 c2 : Str} {u ab : Int} {e1 e2 e3 e4 : Tok} (h1 : c1 ≠ Str.ofString "-" ∧ c1 ≠ Str.ofString "x") (h2 : c2 ≠ Str.ofString "-" ∧ c2 ≠ Str.ofString "x") (h3 : c1 ≠ c2) (b a : Int) :
    HasV [(Str.ofString "-", .int 0 e1), (Str.ofString "x", .int u e2), (c1, .int (u + ab) e3), (c2, .int ab e4)] (endSign b a c1 c2) (if a = 1 then (if b = 1 then u + ab else ab) else if b = 1 then u else 0) := by
  have hx : Str.ofString "-" ≠ Str.ofString "x" := by decide
  unfold endSign HasV valueAt
  by_cases ha : a = 1 <;> by_cases hb : b = 1 <;> simp [ha, hb, List.find?, h1.1, h1.2, h1.1.symm, h1.2.symm, h2.1, h2.2, h2.1.symm, h2.2.symm, h3, h3.symm, hx, hx.symm]
end
end Mine
namespace Mine
open PyProof.Rows.LCg
section
variable {prog : Program} {w : World} {A : Around} {E : Value → Shared → Prop} {s : Shared} {env : Env}
/-- a source of pairs, and what the turns make of them; the element's reckoning makes the heap grow, no more -/
structure PairSrc (prog : Program) (w : World) (A : Around) (env : Env) (elt : Expr) (a b : Str) (pa pb tp : Pos) (kk : Nat) (scope : Scope) (cl : List (Str × Addr)) (RR : Value → Addr → Result → Shared → Prop) (s₂ : Shared)
    (I : Addr) (fp wr : List Addr) (n : Nat) (P Md : Nat → Value → Heap → Prop) (St : Nat → Heap → Prop) (R : Nat → Value → Value → Prop) (G : Nat → Value → Prop) : Prop where
  W : KTurns prog w A (.Tuple [.Name a pa, .Name b pb] kk tp) I fp wr n P Md St
  sz : n ≤ sizeLine
  st : St 0 s₂.heap
  low : ∀ c ∈ fp, c < s₂.heap.objs.size
  self : ∀ i (s : Shared) (Q : Value → Shared → Prop) (E : Value → Shared → Prop), St i s.heap → Q (.ref I) s → wpAny (model prog w) A (pyIter (.ref I)) Q E s
  pair : ∀ i v h, i < n → P i v h → ∃ T x y, v = .ref T ∧ h.IsTuple T #[x, y] ∧ R i x y
  elt : ∀ C i x y h₃ tk₃ m₃ E', i < n → s₂.heap.objs.size < C → R i x y → h₃.Ns C m₃ → m₃ a = some x → m₃ b = some y → (∀ c o, c ∉ wr → s₂.heap.get? c = some o → h₃.get? c = some o) →
    wpAny (model prog w) A (eval elt (compEnvC scope cl C env)) (fun v s₄ => G i v ∧ Keeps { s₂ with heap := h₃, toks := tk₃ } s₄) E' { s₂ with heap := h₃, toks := tk₃ }
  fin : ∀ D C h' tk m' ys, s₂.heap.objs.size ≤ D → s₂.heap.objs.size ≤ C → C ≠ D → h'.Ns C m' → h'.get? D = some (lst ys) → ys.length = n → (∀ i v, ys[i]? = some v → G i v) → (∀ c o, c ∉ wr → s₂.heap.get? c = some o → h'.get? c = some o) →
    RR (.ref D) C (.ok .next) { s₂ with heap := h', toks := tk }
theorem pairs_block {elt iter : Expr} {a b : Str} {pa pb tp : Pos} {kk : Nat} {scope : Scope} {cl : List (Str × Addr)} {pos : Pos} {RR : Value → Addr → Result → Shared → Prop} {s₂ : Shared} {I : Addr} {fp wr : List Addr} {n : Nat} {P Md : Nat → Value → Heap → Prop} {St : Nat → Heap → Prop} {R : Nat → Value → Value → Prop} {G : Nat → Value → Prop} (hh : A.handled = none)
    (hcell : ∀ y ∈ scope.names, y.2 ≠ .cell) (hkind : scope.kind = .function) (hxa : scope.names.lookup a = some .local) (hxb : scope.names.lookup b = some .local) (hab : ¬ a = b)
    (S : PairSrc prog w A env elt a b pa pb tp kk scope cl RR s₂ I fp wr n P Md St R G) :
    wpAny (model prog w) A (newList []) (fun acc s₃ => wpAny (model prog w) A (newFunctionEnv scope env.globals cl [] env.qual none .none (some env)) (fun cenv s₄ =>
      codeAny (model prog w) A (.compStart (.ListComp elt [⟨.Tuple [.Name a pa, .Name b pb] kk tp, iter, [], 0⟩] scope pos) 0 (.ref I) acc { cenv with scope := relabel scope env }) (RR acc cenv.locals) s₄) E s₃) E s₂ := by
  refine wpAny_newObj_type (wpAny_newFunctionEnv hcell (by intro y hy; simp at hy) (fun h₁ hns₁ hsb₁ => ?_) hkind)
  dsimp only at hns₁ hsb₁ ⊢
  generalize hH2 : s₂.heap.push { cls := .type "list", dict := none, data := .seq ([] : List Value).toArray } = H2 at hns₁ hsb₁ ⊢
  have hC : H2.objs.size = s₂.heap.objs.size + 1 := by rw [← hH2, Heap.size_push]
  have hCD : H2.objs.size ≠ s₂.heap.objs.size := by rw [hC]; exact Nat.succ_ne_self _
  have low : ∀ c, c < s₂.heap.objs.size → c ≠ H2.objs.size ∧ c ≠ s₂.heap.objs.size := fun c hc => ⟨by rw [hC]; exact Nat.ne_of_lt (Nat.lt_succ_of_lt hc), Nat.ne_of_lt hc⟩
  have fpC : ∀ c ∈ fp, c ≠ H2.objs.size := fun c hc => (low c (S.low c hc)).1
  have fpD : ∀ c ∈ fp, c ≠ s₂.heap.objs.size := fun c hc => (low c (S.low c hc)).2
  have old : ∀ c o, s₂.heap.get? c = some o → h₁.get? c = some o := fun c o e => hsb₁.extBut c o (low c (Heap.lt_size e)).1 (Heap.get?_push_of_some _ (hH2 ▸ Heap.get?_push_of_some _ e))
  have acc₁ : h₁.get? s₂.heap.objs.size = some (lst []) := hsb₁.extBut _ _ (Ne.symm hCD) (Heap.get?_push_of_some _ (hH2 ▸ Heap.get?_push_size _ rfl))
  have st₁ : St 0 h₁ := S.W.frame _ _ _ S.st fun c _ o e => old c o e
  have loop : ∀ s₃ : Shared, s₃ = { s₂ with heap := h₁, toks := s₂.toks + ([] : List (Str × Value)).length } →
      codeAny (model prog w) A (.compLoop (.ListComp elt [⟨.Tuple [.Name a pa, .Name b pb] kk tp, iter, [], 0⟩] scope pos) 0 (.ref I) (.ref s₂.heap.objs.size) (compEnvC scope cl H2.objs.size env))
        (RR (.ref s₂.heap.objs.size) H2.objs.size) s₃ := by
    rintro s₃ rfl
    refine kcp_loop
      (fun k s' => ∃ h' tk i ys m', s' = { s₂ with heap := h', toks := tk } ∧ i ≤ n ∧ k = n + 1 - i ∧ ys.length = i ∧ St i h' ∧ h'.Ns H2.objs.size m' ∧ h'.get? s₂.heap.objs.size = some (lst ys) ∧ (∀ j v, ys[j]? = some v → G j v) ∧
        ∀ c o, c ∉ wr → s₂.heap.get? c = some o → h'.get? c = some o) ?_ (n + 1)
      ⟨h₁, _, 0, [], _, rfl, Nat.zero_le _, rfl, rfl, st₁, hns₁, acc₁, fun j v e => by simp at e, fun c o _ e => old c o e⟩
    rintro k s' ⟨h', tk, i, ys, m', rfl, hi, rfl, hyl, st', ns', acc', hG, keep⟩
    by_cases hlt : i < n
    · refine S.W.item i _ _ _ hlt st' fun v h₂ tk₂ hMd hk₂ => ?_
      refine S.W.go i v _ _ _ hMd fun h₃ hP st₃ hk₃ => ?_
      obtain ⟨T, x, y, rfl, hT, hR⟩ := S.pair _ _ _ hlt hP
      have up₃ : ∀ c o, c ∉ wr → h'.get? c = some o → h₃.get? c = some o := fun c o hc e => hk₃ c o hc (hk₂ c o hc e)
      have Cw : H2.objs.size ∉ wr := fun hm => fpC _ (S.W.sub _ hm) rfl
      have Dw : s₂.heap.objs.size ∉ wr := fun hm => fpD _ (S.W.sub _ hm) rfl
      refine kcp_assign (env := compEnvC scope cl H2.objs.size env) hh hT (lookup_relabel_local hxa) (lookup_relabel_local hxb) (by simp [compEnvC, relabel, hkind]) (ns'.at' fun o e => up₃ _ o Cw e) fun h₄ tk₄ ns₄ hs₄ => ?_
      refine wpAny_mono (S.elt H2.objs.size i x y h₄ tk₄ _ _ hlt (by rw [hC]; exact Nat.lt_succ_self _) hR ns₄ (by simp [hab]) (by simp) (fun c o hc e => hs₄ c o ((low c (Heap.lt_size e)).1) (up₃ c o hc (keep c o hc e)))) (fun v s₅ h₅ => ?_) fun _ _ e => e
      obtain ⟨hv, h₅, tk₅, rfl, hk₅⟩ := h₅
      have acc₅ : h₅.get? s₂.heap.objs.size = some (lst ys) := hk₅ _ _ (hs₄ _ _ (Ne.symm hCD) (up₃ _ _ Dw acc'))
      have st₅ : St (i + 1) h₅ := S.W.frame _ _ _ st₃ fun c hc o e => hk₅ c o (hs₄ c o (fpC c hc) e)
      have ns₅ := ns₄.at' fun o e => hk₅ _ o e
      refine append_at (hsz := by show ys.toArray.size ≤ sizeLine; rw [List.size_toArray, hyl]; exact Nat.le_trans hi S.sz) acc₅ fun h₆ hs₆ acc₆ => ?_
      refine ⟨n + 1 - (i + 1), by omega, h₆, tk₅, i + 1, ys ++ [v], _, rfl, hlt, rfl, by rw [List.length_append, List.length_singleton, hyl], S.W.frame _ _ _ st₅ fun c hc o e => hs₆.extBut c o (fpD c hc) e,
        ns₅.sameBut hs₆ hCD, acc₆.trans (congrArg some (lst_snoc ys v)), ?_, fun c o hc e => hs₆.extBut c o (low c (Heap.lt_size e)).2 (hk₅ c o (hs₄ c o (low c (Heap.lt_size e)).1 (up₃ c o hc (keep c o hc e))))⟩
      intro j u e
      rcases Nat.lt_or_ge j ys.length with hj | hj
      · rw [List.getElem?_append_left hj] at e; exact hG j u e
      · rw [List.getElem?_append_right hj] at e
        have hj0 : j - ys.length = 0 := by
          have := (List.getElem?_eq_some_iff.mp e).1
          simp at this; omega
        rw [hj0] at e
        have : j = i := by omega
        subst this
        cases e; exact hv
    · obtain rfl : i = n := Nat.le_antisymm hi (Nat.not_lt.mp hlt)
      refine S.W.done _ _ _ st' fun h₂ tk₂ hk₂ => ?_
      have Cw : H2.objs.size ∉ wr := fun hm => fpC _ (S.W.sub _ hm) rfl
      have Dw : s₂.heap.objs.size ∉ wr := fun hm => fpD _ (S.W.sub _ hm) rfl
      exact S.fin _ _ h₂ tk₂ _ ys (Nat.le_refl _) (by rw [hC]; exact Nat.le_succ _) hCD (ns'.at' fun o e => hk₂ _ o Cw e) (hk₂ _ _ Dw acc') hyl hG fun c o hc e => hk₂ c o hc (keep c o hc e)
  exact codeAny_compStart_list (loop _ rfl) (S.self 0 _ _ _ st₁ (loop _ rfl))
theorem comp_pairs {elt iter : Expr} {a b : Str} {pa pb tp : Pos} {kk : Nat} {scope : Scope} {cl : List (Str × Addr)} {pos : Pos} {Q : Value → Shared → Prop} (hh : A.handled = none)
    (hclos : closureFor scope env = pure cl) (hcell : ∀ y ∈ scope.names, y.2 ≠ .cell) (hkind : scope.kind = .function)
    (hnames : ∀ y ∈ scope.names, y.2 = .local → scope.names.lookup y.1 = some .local) (hxa : scope.names.lookup a = some .local) (hxb : scope.names.lookup b = some .local) (hab : ¬ a = b)
    (h : wpAny (model prog w) A (eval iter env) (fun xv s₁ => wpAny (model prog w) A (pyIter xv) (fun it s₂ => ∃ I fp wr n P Md St R G, it = .ref I ∧ PairSrc prog w A env elt a b pa pb tp kk scope cl (compPost (model prog w) A E none Q) s₂ I fp wr n P Md St R G) E s₁) E s)
    (hs : ∀ x, foldedSetIterable iter env x = pure x := by intro _; rfl) :
    wpAny (model prog w) A (eval (.ListComp elt [⟨.Tuple [.Name a pa, .Name b pb] kk tp, iter, [], 0⟩] scope pos) env) Q E s := by
  rw [eval_ListComp]
  refine wpAny_comprehension_free (use := none) rfl hs hclos hkind hnames (wpAny_mono h (fun xv s₁ h₁ => wpAny_mono h₁ (fun it s₂ h₂ => ?_) fun _ _ e => e) fun _ _ e => e)
  obtain ⟨I, fp, wr, n, P, Md, St, R, G, rfl, S⟩ := h₂
  exact pairs_block hh hcell hkind hxa hxb hab S
theorem comp_pairsA {elt iter : Expr} {a b z : Str} {pa pb tp pz : Pos} {kk : Nat} {scope : Scope} {cl : List (Str × Addr)} {pos spos : Pos} {Q : Flow → Shared → Prop} (hh : A.handled = none)
    (hsw : swapsWith (.ListComp elt [⟨.Tuple [.Name a pa, .Name b pb] kk tp, iter, [], 0⟩] scope pos) (some (.Name z pz)) spos.line env = pure true)
    (hclos : closureFor scope env = pure cl) (hcell : ∀ y ∈ scope.names, y.2 ≠ .cell) (hkind : scope.kind = .function)
    (hnames : ∀ y ∈ scope.names, y.2 = .local → scope.names.lookup y.1 = some .local) (hxa : scope.names.lookup a = some .local) (hxb : scope.names.lookup b = some .local) (hab : ¬ a = b)
    (h : wpAny (model prog w) A (eval iter env) (fun xv s₁ => wpAny (model prog w) A (pyIter xv) (fun it s₂ => ∃ I fp wr n P Md St R G, it = .ref I ∧ PairSrc prog w A env elt a b pa pb tp kk scope cl (compPost (model prog w) A E (some (assign (.Name z pz) env)) (fun _ s' => Q .next s')) s₂ I fp wr n P Md St R G) E s₁) E s)
    (hs : ∀ x, foldedSetIterable iter env x = pure x := by intro _; rfl) :
    wpAny (model prog w) A (exec (.Assign [.Name z pz] (.ListComp elt [⟨.Tuple [.Name a pa, .Name b pb] kk tp, iter, [], 0⟩] scope pos) spos) env) Q E s := by
  rw [exec_Assign_Name_used _ _ _ _ hsw]
  refine wpAny_bind (wpAny_standAt (wpAny_bind ?_))
  show wpAny _ A (do let _ ← comprehension (.ListComp elt [⟨.Tuple [.Name a pa, .Name b pb] kk tp, iter, [], 0⟩] scope pos) scope env _ (newList []) false (eval iter env) (some (assign (.Name z pz) env))) _ _ s
  refine wpAny_bind (wpAny_mono (wpAny_comprehension_free (use := some (assign (.Name z pz) env)) (Q := fun _ s' => Q .next s') rfl hs hclos hkind hnames
    (wpAny_mono h (fun xv s₁ h₁ => wpAny_mono h₁ (fun it s₂ h₂ => ?_) fun _ _ e => e) fun _ _ e => e)) (fun _ s' hq => wpAny_pure (wpAny_pure hq)) fun _ _ e => e)
  obtain ⟨I, fp, wr, n, P, Md, St, R, G, rfl, S⟩ := h₂
  exact pairs_block hh hcell hkind hxa hxb hab S
end
/-- what a comprehension's end hands on -/
def FinOk (RR : Value → Addr → Result → Shared → Prop) (h₀ : Heap) (L : Addr) (m : Str → Option Value) (news : List (Addr × Obj)) (s : Shared) (n : Nat) (G : Nat → Value → Prop) : Prop :=
  ∀ D C h tk m' ys, Fr h₀ L h m → News h₀ L h ((D, lst ys) :: news) → (∀ p ∈ news, p.1 < D) → (∀ p ∈ (D, lst ys) :: news, p.1 ≠ C) → C ≠ L → h₀.get? C = none → h.Ns C m' → ys.length = n → (∀ i v, ys[i]? = some v → G i v) → RR (.ref D) C (.ok .next) { s with heap := h, toks := tk }
section
variable {prog : Program} {w : World} {A : Around} {E : Value → Shared → Prop} {s : Shared} {env : Env} {h₀ : Heap} {L : Addr} {m : Str → Option Value} {news : List (Addr × Obj)} {n : Nat} {G : Nat → Value → Prop}
theorem FinOk.plain {Q : Value → Shared → Prop} (hq : ∀ D ys h tk, Fr h₀ L h m → News h₀ L h ((D, lst ys) :: news) → (∀ p ∈ news, p.1 < D) → ys.length = n → (∀ i v, ys[i]? = some v → G i v) → Q (.ref D) { s with heap := h, toks := tk }) :
    FinOk (compPost (model prog w) A E none Q) h₀ L m news s n G := by
  intro D C h tk m' ys F N l off hCL hC₀ ns hy hG
  exact ⟨m', ns, fun h' hs => hq D ys h' tk (F.change hs hCL hC₀) (fun p hp => ⟨hs.extBut _ _ (off p hp) (N p hp).1, (N p hp).2⟩) l hy hG⟩
theorem FinOk.assign {z : Str} {pz : Pos} {QN : Shared → Prop} (hL : env.locals = L) (hz : env.kindOf z = some .local) (hk : (env.scope.kind == .class || (env.scope.kind == .module && env.locals != env.globals)) = false)
    (hq : ∀ D ys h tk, Fr h₀ L h (fun y => if y = z then some (.ref D) else m y) → News h₀ L h ((D, lst ys) :: news) → (∀ p ∈ news, p.1 < D) → ys.length = n → (∀ i v, ys[i]? = some v → G i v) → QN { s with heap := h, toks := tk }) :
    FinOk (compPost (model prog w) A E (some (assign (.Name z pz) env)) (fun _ s' => QN s')) h₀ L m news s n G := by
  subst hL
  intro D C h tk m' ys F N l off hCL hC₀ ns hy hG
  show wpAny _ _ (PySem.assign (.Name z pz) env (.ref D)) _ _ _
  refine wpAny_assign_Name (wpAny_storeName_local hz F.ns (fun h₁ ns₁ hs₁ => ?_) hk)
  refine ⟨m', ns.at' fun o e => hs₁.extBut _ _ hCL e, fun h' hs => ?_⟩
  have F₁ : Fr h₀ env.locals h₁ (fun y => if y = z then some (.ref D) else m y) := ⟨ns₁, fun b o e => hs₁.extBut b o (fun q => by rw [q] at e; exact absurd (Heap.lt_size e) (Nat.not_lt.mpr F.above)) (F.keep b o e), F.above⟩
  exact hq D ys h' _ (F₁.change hs hCL hC₀) (fun p hp => ⟨hs.extBut _ _ (off p hp) (hs₁.extBut _ _ (N p hp).2.1 (N p hp).1), (N p hp).2⟩) l hy hG
end
/-- call_pure, the frame's count of tokens hidden -/
theorem call_pureT {prog : Program} {w : World} {A A₀ : Around} {E : Value → Shared → Prop} {s : Shared} {K : Frag} {L : Addr} {h₀ base : Heap} {m mg mb : Str → Option Value} {p : Program} {loose : List Str} {mean : ExcName → Option Value} {Q : Value → Shared → Prop}
    {env : Env} {outer : List Env} {name qual : Str} {params : Arguments} {body : List Stmt} {scope : Scope} {dV kV doc pm cdv ct oc : Value} {an od : Option Addr} {osl : Array (Option Value)} {f : Addr} {vals : List Value} {binds : List (Str × Value)}
    (B : Below A₀ base outer h₀) (F : Fr h₀ L s.heap m) (X₀ : K.In h₀) (T : Top p loose mean mg mb h₀) (hA : A.frames = some (env :: outer)) (hf : env.frame = some L) (hke : env.scope.kind = .function)
    (ho : K.lookup f = some ⟨oc, od, .func (fnOf name qual params body scope dV kV doc pm an cdv ct), osl⟩) (hcd : codeIn K cdv qual = true) (hroom : A.depth < recursionLimit)
    (hbind : BindsTo s (fnOf name qual params body scope dV kV doc pm an cdv ct) ⟨vals, []⟩ binds) (hloc : ∀ y ∈ binds, scope.names.lookup y.1 = some .local)
    (h : ∀ L' h₁ tk, Fr s.heap L' h₁ (fun y => binds.reverse.lookup y) → News s.heap L' h₁ [] → Below A base (env :: outer) s.heap → K.In s.heap → Top p loose mean mg mb s.heap →
      wpAny (model prog w) (A.deeper (envOf qual scope L' f cdv)) (execs body (envOf qual scope L' f cdv))
        (fun fl s' => Q (match fl with | .ret v => v | _ => .none) s') (fun _ _ => False) { s with heap := h₁, toks := tk })
    (hco : scope.isCoroutine = false) (hgen : scope.isGenerator = false) (hk : scope.kind = .function)
    (hcell : ∀ x ∈ scope.names, x.2 ≠ .cell) : wpAny (model prog w) A (call (.ref f) vals) Q E s :=
  call_pure B F X₀ T hA hf hke ho hcd hroom hbind hloc (fun L' h₁ a b c d e => h L' h₁ _ a b c d e) hco hgen hk hcell
theorem hold_intro {p : Prop} (h : Hold p) : p := h
/-- the text behind the first sign -/
def fmTail (M : Int) : Str := ⟨#[sc M 1, sc M 2, sc M 3, sc M 4, sc M 5, sc M 6, sc M 7, sc M 8, sc M 9]⟩
theorem fm_slice1 (M : Int) : Txt.slice (fmText M) (some 1) none = fmTail M := by
  rw [fmText_eq]
  have e : Builtin.Str.strSliceIndices (some 1) none 1 10 = [1, 2, 3, 4, 5, 6, 7, 8, 9] := by decide +kernel
  unfold Txt.slice
  simp only [Str.length, List.size_toArray, List.length_cons, List.length_nil, Nat.zero_add, Nat.reduceAdd, e]
  rfl
theorem fmTail_at (M : Int) {i c : Nat} (h : (fmTail M).cps[i]? = some c) : i < 9 ∧ (⟨#[c]⟩ : Str) = fmSign M (i + 1) := by
  match i, h with
  | 0, h => cases h; exact ⟨by decide, (fmSign_sc M 1).symm⟩
  | 1, h => cases h; exact ⟨by decide, (fmSign_sc M 2).symm⟩
  | 2, h => cases h; exact ⟨by decide, (fmSign_sc M 3).symm⟩
  | 3, h => cases h; exact ⟨by decide, (fmSign_sc M 4).symm⟩
  | 4, h => cases h; exact ⟨by decide, (fmSign_sc M 5).symm⟩
  | 5, h => cases h; exact ⟨by decide, (fmSign_sc M 6).symm⟩
  | 6, h => cases h; exact ⟨by decide, (fmSign_sc M 7).symm⟩
  | 7, h => cases h; exact ⟨by decide, (fmSign_sc M 8).symm⟩
  | 8, h => cases h; exact ⟨by decide, (fmSign_sc M 9).symm⟩
  | _ + 9, h => cases h
section
variable {prog : Program} {w : World} {A : Around} {E : Value → Shared → Prop} {s : Shared} {h₀ : Heap} {L : Addr} {m : Str → Option Value} {news : List (Addr × Obj)} {value slice : PySem.Expr} {M : Int} {t : Tok} {Q : Value → Shared → Prop}
theorem fm_slice {ui : Tok} (hF : Fr h₀ L s.heap m) (hN : News h₀ L s.heap news) (h : ∀ h' t' k, Fr h₀ L h' m → News h₀ L h' news → Q (.str (fmTail M) t') { s with heap := h', toks := k })
    (hs : subscripted slice false (.str (fmText M) t) (.ref s.heap.objs.size) = operate [.ref s.heap.objs.size, .str (fmText M) t] (getItem (.str (fmText M) t) (.ref s.heap.objs.size)))
    (ht : ∀ r, letTemporaryGo value (.str (fmText M) t) r = pure ()) :
    wpAny (model prog w) A (subscriptTail value slice (.str (fmText M) t) (.ref s.heap.objs.size)) Q E { s with heap := s.heap.push { cls := .type "slice", data := .fields #[.int 1 ui, .none, .none] } } :=
  slice_strN_sn hF hN (fun h' t' k a b => by rw [fm_slice1]; exact h h' t' k a b) hs ht (by rw [fmText_len]; decide)
end
section
variable {prog : Program} {w : World} {A : Around} {E : Value → Shared → Prop} {s : Shared} {t u : Tok} {Q : Value → Shared → Prop}
theorem eq_str_is {a b : Str} (e : a = b) (h : Q (.bool true) s) : wpAny (model prog w) A (compareOp .Eq (.str a t) (.str b u)) Q E s := by
  subst e
  refine PyProof.Rows.eq_str ?_
  rw [show (a == a) = true by simp]
  exact h
end
def tailL (M : Int) : List Str := (List.range 9).map fun i => fmSign M (i + 1)
theorem tail_weight (M : Int) : ((tailL M).map (·.length)).sum + (tailL M).length ≤ 1048576 := by
  have : (tailL M).map (·.length) = List.replicate 9 1 := by
    simp only [tailL, List.map_map]
    rw [List.eq_replicate_iff]
    refine ⟨by simp, ?_⟩
    intro b hb
    simp only [List.mem_map, Function.comp] at hb
    obtain ⟨i, _, rfl⟩ := hb
    exact fmSign_len M _
  rw [this]
  simp [tailL]
theorem join9 (c1 c2 c3 c4 c5 c6 c7 c8 c9 : Nat) : Txt.join (Str.ofString "") [⟨#[c1]⟩, ⟨#[c2]⟩, ⟨#[c3]⟩, ⟨#[c4]⟩, ⟨#[c5]⟩, ⟨#[c6]⟩, ⟨#[c7]⟩, ⟨#[c8]⟩, ⟨#[c9]⟩] = ⟨#[c1, c2, c3, c4, c5, c6, c7, c8, c9]⟩ := rfl
theorem cat9 (c0 c1 c2 c3 c4 c5 c6 c7 c8 c9 : Nat) : (⟨#[c0]⟩ : Str) ++ (⟨#[c1, c2, c3, c4, c5, c6, c7, c8, c9]⟩ : Str) = ⟨#[c0, c1, c2, c3, c4, c5, c6, c7, c8, c9]⟩ := by
  show (⟨#[c0] ++ #[c1, c2, c3, c4, c5, c6, c7, c8, c9]⟩ : Str) = _
  simp
theorem tail_text (M : Int) : fmText M = Txt.item (Str.ofString "?pc?d?b?-?l?s???") ((M.fdiv 4096).fmod 16) ++ Txt.join (Str.ofString "") (tailL M) := by
  rw [← type_item, fmText_eq]
  have e : tailL M = [⟨#[sc M 1]⟩, ⟨#[sc M 2]⟩, ⟨#[sc M 3]⟩, ⟨#[sc M 4]⟩, ⟨#[sc M 5]⟩, ⟨#[sc M 6]⟩, ⟨#[sc M 7]⟩, ⟨#[sc M 8]⟩, ⟨#[sc M 9]⟩] := by
    have : tailL M = [fmSign M 1, fmSign M 2, fmSign M 3, fmSign M 4, fmSign M 5, fmSign M 6, fmSign M 7, fmSign M 8, fmSign M 9] := rfl
    rw [this]; simp only [fmSign_sc]
  rw [e, fmSign_sc]; rw [join9, cat9]
end Mine
namespace Mine
open PyProof.Rows.LCg
open Sem (wp)
/-- zip's own things and what its two sources stand on, apart -/
structure ZipOff (z TI TO i1 i2 : Addr) (fp1 fp2 : List Addr) : Prop where
  TIz : TI ≠ z
  TOz : TO ≠ z
  TITO : TI ≠ TO
  in1 : i1 ∈ fp1
  in2 : i2 ∈ fp2
  z1 : z ∉ fp1
  z2 : z ∉ fp2
  TO1 : TO ∉ fp1
  TO2 : TO ∉ fp2
  TI1 : TI ≠ i1
  TI2 : TI ≠ i2
  i12 : i1 ∉ fp2
  i21 : i2 ∉ fp1
section
variable {prog : Program} {w : World} {A : Around} {E : Value → Shared → Prop} {s : Shared}
variable {z TI TO i1 i2 : Addr} {fp1 fp2 : List Addr} {n1 n2 : Nat} {P1 P2 : Nat → Value → Prop} {St1 St2 : Nat → Heap → Prop}
theorem ne_of_mem {a b : Addr} {l : List Addr} (h : a ∈ l) (k : b ∉ l) : a ≠ b := fun e => k (e ▸ h)
theorem stay {it : Addr} {fp : List Addr} {h h' : Heap} (hs : Heap.SameBut it h h') (hn : it ∉ fp) : ∀ b ∈ fp, ∀ o, h.get? b = some o → h'.get? b = some o := fun b hb o e => hs.extBut b o (ne_of_mem hb hn) e

theorem zipD_item {i : Nat} {a b : Value} {Q : Value → Shared → Prop} (D1 : Draws prog w A i1 fp1 n1 P1 St1) (D2 : Draws prog w A i2 fp2 n2 P2 St2) (Ap : ZipOff z TI TO i1 i2 fp1 fp2)
    (hz : IsZip s.heap z TI TO .none) (hTI : IsPair s.heap TI (.ref i1) (.ref i2)) (hTO : IsPair s.heap TO a b) (h1 : St1 i s.heap) (h2 : St2 i s.heap) (hi1 : i < n1) (hi2 : i < n2)
    (hQ : ∀ x y h' tk, P1 i x → P2 i y → IsZip h' z TI TO (rawInt s.heap.objs.size) → IsPair h' TO x y → St1 (i + 1) h' → St2 (i + 1) h' → IsPair h' s.heap.objs.size x y →
      (∀ c o, c ≠ z → c ≠ TO → c ≠ i1 → c ≠ i2 → s.heap.get? c = some o → h'.get? c = some o) → Q (.ref s.heap.objs.size) { s with heap := h', toks := tk }) :
    wpAny (model prog w) A (Builtin.«zip.__next__» ⟨[.ref z], []⟩) (fun fin s' => ∃ v, fin = .done (.ret v) ∧ Q v s') E s := by
  have i1z : i1 ≠ z := ne_of_mem Ap.in1 Ap.z1
  have i2z : i2 ≠ z := ne_of_mem Ap.in2 Ap.z2
  have TOi1 : TO ≠ i1 := (ne_of_mem Ap.in1 Ap.TO1).symm
  have TOi2 : TO ≠ i2 := (ne_of_mem Ap.in2 Ap.TO2).symm
  have i12 : i1 ≠ i2 := ne_of_mem Ap.in1 Ap.i21
  show wpAny _ _ (field (.ref z) 2 >>= _) _ _ _
  refine wpAny_bind (wpAny_field hz rfl (x := .bool false) rfl ?_)
  show wpAny _ _ (field (.ref z) 3 >>= _) _ _ _
  refine wpAny_bind (wpAny_field hz rfl (x := .ref TI) rfl ?_)
  refine wpAny_bind (wpAny_seqItems hTI rfl ?_)
  show wpAny _ _ (Builtin.SmallTypes.ownedTupleIsFree (.ref z) >>= _) _ _ _
  refine wpAny_bind ?_
  unfold Builtin.SmallTypes.ownedTupleIsFree
  refine wpAny_bind (wpAny_field hz rfl (x := .none) rfl (wpAny_pure ?_))
  simp only [if_true]
  refine wpAny_bind (wpAny_rule ?_)
  refine wpAny_bind (wpAny_field hz rfl (x := .ref TO) rfl ?_)
  refine wpAny_bind (wpAny_setField_rec hz (by simp) fun g₁ hz₁ hs₁ => ?_)
  replace hz₁ : IsZip g₁ z TI TO .ellipsis := hz₁
  refine wpAny_bind ?_
  simp only [List.zipIdx_cons, List.zipIdx_nil, List.forIn_cons, List.forIn_nil]
  have a1 := D1.frame _ _ _ h1 (stay hs₁ Ap.z1)
  have a2 := D2.frame _ _ _ h2 (stay hs₁ Ap.z2)
  refine wpAny_bind (wpAny_bind (wpAny_onRaise ?_))
  show wpAny _ _ (Builtin.SmallTypes.nextOf (.ref i1) >>= _) _ _ _
  refine wpAny_bind (D1.item i _ _ _ hi1 a1 fun x g₂ tk₂ hx b1 hs₂ => wpAny_pure ?_)
  have b2 := D2.frame _ _ _ a2 (stay hs₂ Ap.i12)
  have hTO₂ : IsPair g₂ TO a b := hs₂.extBut _ _ TOi1 (hs₁.extBut _ _ Ap.TOz hTO)
  refine wpAny_bind (wpAny_seqItems hTO₂ rfl ?_)
  refine wpAny_bind (wpAny_updateSeq_pair hTO₂ fun g₃ hTO₃ hs₃ => ?_)
  replace hTO₃ : IsPair g₃ TO x b := hTO₃
  have c1 := D1.frame _ _ _ b1 (stay hs₃ Ap.TO1)
  have c2 := D2.frame _ _ _ b2 (stay hs₃ Ap.TO2)
  refine wpAny_bind (wpAny_letGo (wpAny_pure ?_))
  refine wpAny_bind (wpAny_bind (wpAny_onRaise ?_))
  show wpAny _ _ (Builtin.SmallTypes.nextOf (.ref i2) >>= _) _ _ _
  refine wpAny_bind (D2.item i _ _ _ hi2 c2 fun y g₄ tk₄ hy d2 hs₄ => wpAny_pure ?_)
  have d1 := D1.frame _ _ _ c1 (stay hs₄ Ap.i21)
  have hTO₄ : IsPair g₄ TO x b := hs₄.extBut _ _ TOi2 hTO₃
  refine wpAny_bind (wpAny_seqItems hTO₄ rfl ?_)
  refine wpAny_bind (wpAny_updateSeq_pair hTO₄ fun g₅ hTO₅ hs₅ => ?_)
  replace hTO₅ : IsPair g₅ TO x y := hTO₅
  have e1 := D1.frame _ _ _ d1 (stay hs₅ Ap.TO1)
  have e2 := D2.frame _ _ _ d2 (stay hs₅ Ap.TO2)
  refine wpAny_bind (wpAny_letGo (wpAny_pure (wpAny_pure ?_)))
  refine wpAny_bind (wpAny_seqItems hTO₅ rfl ?_)
  refine wpAny_bind (wpAny_newTuple ?_)
  have hsz : g₅.objs.size = s.heap.objs.size := by rw [hs₅.1, hs₄.1, hs₃.1, hs₂.1, hs₁.1]
  have hz₅ : IsZip g₅ z TI TO .ellipsis := hs₅.extBut _ _ Ap.TOz.symm (hs₄.extBut _ _ i2z.symm (hs₃.extBut _ _ Ap.TOz.symm (hs₂.extBut _ _ i1z.symm hz₁)))
  have hk₅ : ∀ c o, c ≠ z → c ≠ TO → c ≠ i1 → c ≠ i2 → s.heap.get? c = some o → g₅.get? c = some o := fun c o q1 q2 q3 q4 e =>
    hs₅.extBut _ _ q2 (hs₄.extBut _ _ q4 (hs₃.extBut _ _ q2 (hs₂.extBut _ _ q3 (hs₁.extBut _ _ q1 e))))
  have hzlt : z < g₅.objs.size := Heap.lt_size hz₅
  show wpAny _ _ (Builtin.SmallTypes.ownedTupleHandOut (.ref z) (.ref g₅.objs.size) >>= _) _ _ _
  refine wpAny_bind ?_
  unfold Builtin.SmallTypes.ownedTupleHandOut
  have hz₆ : IsZip (g₅.push { cls := .type "tuple", data := .seq #[x, y] }) z TI TO .ellipsis := Heap.get?_push_of_some _ hz₅
  refine wpAny_bind (wpAny_setField_rec hz₆ (by simp) fun g₇ hz₇ hs₇ => ?_)
  replace hz₇ : IsZip g₇ z TI TO (rawInt g₅.objs.size) := hz₇
  refine wpAny_setField_rec hz₇ (by simp) fun g₈ hz₈ hs₈ => ?_
  replace hz₈ : IsZip g₈ z TI TO (rawInt g₅.objs.size) := hz₈
  have up : ∀ c o, c ≠ z → g₅.get? c = some o → g₈.get? c = some o := fun c o q1 e => hs₈.extBut _ _ q1 (hs₇.extBut _ _ q1 (Heap.get?_push_of_some _ e))
  have hT₈ : IsPair g₈ g₅.objs.size x y := hs₈.extBut _ _ (Nat.ne_of_gt hzlt) (hs₇.extBut _ _ (Nat.ne_of_gt hzlt) (Heap.get?_push_size _ rfl))
  rw [hsz] at hz₈ hT₈
  refine wpAny_pure ⟨_, rfl, ?_⟩
  show Q (.ref g₅.objs.size) _
  rw [hsz]
  exact hQ x y g₈ _ hx hy hz₈ (up _ _ Ap.TOz hTO₅) (D1.frame _ _ _ e1 fun c hc o e => up c o (ne_of_mem hc Ap.z1) e) (D2.frame _ _ _ e2 fun c hc o e => up c o (ne_of_mem hc Ap.z2) e) hT₈
    fun c o q1 q2 q3 q4 e => up c o q1 (hk₅ c o q1 q2 q3 q4 e)

theorem zipD_end {i : Nat} {a b : Value} {Q : Fin → Shared → Prop} (D1 : Draws prog w A i1 fp1 n1 P1 St1) (D2 : Draws prog w A i2 fp2 n2 P2 St2) (Ap : ZipOff z TI TO i1 i2 fp1 fp2)
    (hz : IsZip s.heap z TI TO .none) (hTI : IsPair s.heap TI (.ref i1) (.ref i2)) (hTO : IsPair s.heap TO a b) (h1 : St1 i s.heap) (h2 : St2 i s.heap) (hend : i = n1 ∨ (i < n1 ∧ i = n2))
    (hE : ∀ h' e tk, (∀ c o, c ≠ z → c ≠ TO → c ≠ i1 → c ≠ i2 → s.heap.get? c = some o → h'.get? c = some o) → (∃ o, h'.get? e = some o ∧ o.cls = .type "StopIteration") → E (.ref e) { s with heap := h', toks := tk }) :
    wpAny (model prog w) A (Builtin.«zip.__next__» ⟨[.ref z], []⟩) Q E s := by
  have i1z : i1 ≠ z := ne_of_mem Ap.in1 Ap.z1
  have i2z : i2 ≠ z := ne_of_mem Ap.in2 Ap.z2
  have TOi1 : TO ≠ i1 := (ne_of_mem Ap.in1 Ap.TO1).symm
  show wpAny _ _ (field (.ref z) 2 >>= _) _ _ _
  refine wpAny_bind (wpAny_field hz rfl (x := .bool false) rfl ?_)
  show wpAny _ _ (field (.ref z) 3 >>= _) _ _ _
  refine wpAny_bind (wpAny_field hz rfl (x := .ref TI) rfl ?_)
  refine wpAny_bind (wpAny_seqItems hTI rfl ?_)
  show wpAny _ _ (Builtin.SmallTypes.ownedTupleIsFree (.ref z) >>= _) _ _ _
  refine wpAny_bind ?_
  unfold Builtin.SmallTypes.ownedTupleIsFree
  refine wpAny_bind (wpAny_field hz rfl (x := .none) rfl (wpAny_pure ?_))
  simp only [if_true]
  refine wpAny_bind (wpAny_rule ?_)
  refine wpAny_bind (wpAny_field hz rfl (x := .ref TO) rfl ?_)
  refine wpAny_bind (wpAny_setField_rec hz (by simp) fun g₁ hz₁ hs₁ => ?_)
  replace hz₁ : IsZip g₁ z TI TO .ellipsis := hz₁
  refine wpAny_bind ?_
  simp only [List.zipIdx_cons, List.zipIdx_nil, List.forIn_cons, List.forIn_nil]
  have a1 := D1.frame _ _ _ h1 (stay hs₁ Ap.z1)
  have a2 := D2.frame _ _ _ h2 (stay hs₁ Ap.z2)
  refine wpAny_bind (wpAny_bind (wpAny_onRaise ?_))
  show wpAny _ _ (Builtin.SmallTypes.nextOf (.ref i1) >>= _) _ _ _
  rcases hend with rfl | ⟨hlt, rfl⟩
  · refine wpAny_bind (D1.done _ _ _ a1 fun g₂ e hs₂ he => ?_)
    obtain ⟨oe, hoe, hce⟩ := he
    have hz₂ : IsZip g₂ z TI TO .ellipsis := hs₂ _ _ i1z.symm hz₁
    have hez : e ≠ z := fun x => by subst x; rw [hz₂] at hoe; cases hoe; simp at hce
    exact wpAny_setField_rec hz₂ (by simp) fun g₃ _ hs₃ => hE g₃ e _ (fun c o q1 _ q3 _ x => hs₃.extBut _ _ q1 (hs₂ _ _ q3 (hs₁.extBut _ _ q1 x))) ⟨oe, hs₃.extBut _ _ hez hoe, hce⟩
  · refine wpAny_bind (D1.item i _ _ _ hlt a1 fun x g₂ tk₂ hx b1 hs₂ => wpAny_pure ?_)
    have b2 := D2.frame _ _ _ a2 (stay hs₂ Ap.i12)
    have hTO₂ : IsPair g₂ TO a b := hs₂.extBut _ _ TOi1 (hs₁.extBut _ _ Ap.TOz hTO)
    refine wpAny_bind (wpAny_seqItems hTO₂ rfl ?_)
    refine wpAny_bind (wpAny_updateSeq_pair hTO₂ fun g₃ hTO₃ hs₃ => ?_)
    have c2 := D2.frame _ _ _ b2 (stay hs₃ Ap.TO2)
    refine wpAny_bind (wpAny_letGo (wpAny_pure ?_))
    refine wpAny_bind (wpAny_bind (wpAny_onRaise ?_))
    show wpAny _ _ (Builtin.SmallTypes.nextOf (.ref i2) >>= _) _ _ _
    refine wpAny_bind (D2.done _ _ _ c2 fun g₄ e hs₄ he => ?_)
    obtain ⟨oe, hoe, hce⟩ := he
    have hz₄ : IsZip g₄ z TI TO .ellipsis := hs₄ _ _ i2z.symm (hs₃.extBut _ _ Ap.TOz.symm (hs₂.extBut _ _ i1z.symm hz₁))
    have hez : e ≠ z := fun x => by subst x; rw [hz₄] at hoe; cases hoe; simp at hce
    exact wpAny_setField_rec hz₄ (by simp) fun g₅ _ hs₅ => hE g₅ e _ (fun c o q1 q2 q3 q4 x => hs₅.extBut _ _ q1 (hs₄ _ _ q4 (hs₃.extBut _ _ q2 (hs₂.extBut _ _ q3 (hs₁.extBut _ _ q1 x))))) ⟨oe, hs₅.extBut _ _ hez hoe, hce⟩
end
theorem zipWalks {prog : Program} {w : World} {A : Around} {z TI TO i1 i2 : Addr} {fp1 fp2 : List Addr} {n1 n2 : Nat} {P1 P2 : Nat → Value → Prop} {St1 St2 : Nat → Heap → Prop}
    (D1 : Draws prog w A.in1 i1 fp1 n1 P1 St1) (D2 : Draws prog w A.in1 i2 fp2 n2 P2 St2) (Ap : ZipOff z TI TO i1 i2 fp1 fp2) (hn : n1 = n2) :
    WalksU prog w A z (z :: TI :: TO :: (fp1 ++ fp2)) [z, TO, i1, i2] n1 (fun i vals => ∃ x y, P1 i x ∧ P2 i y ∧ vals = #[x, y])
      (fun i h => IsZip h z TI TO .none ∧ IsPair h TI (.ref i1) (.ref i2) ∧ (∃ a b, IsPair h TO a b) ∧ St1 i h ∧ St2 i h)
      (fun i T h => IsZip h z TI TO (rawInt T) ∧ IsPair h TI (.ref i1) (.ref i2) ∧ (∃ a b, IsPair h TO a b) ∧ St1 (i + 1) h ∧ St2 (i + 1) h ∧ T ≠ z ∧ T ≠ TO ∧ T ≠ i1 ∧ T ≠ i2) where
  sub := fun c hc => by
    have hc' : c = z ∨ c = TO ∨ c = i1 ∨ c = i2 := by simpa using hc
    rcases hc' with rfl | rfl | rfl | rfl
    · simp
    · simp
    · simp [Ap.in1]
    · simp [Ap.in2]
  frame := fun i h h' hst hk => by
    obtain ⟨hz, hTI, ⟨a, b, hTO⟩, h1, h2⟩ := hst
    exact ⟨hk z (by simp) _ hz, hk TI (by simp) _ hTI, ⟨a, b, hk TO (by simp) _ hTO⟩, D1.frame _ _ _ h1 fun c hc o e => hk c (by simp [hc]) o e, D2.frame _ _ _ h2 fun c hc o e => hk c (by simp [hc]) o e⟩
  item := fun i s Q E hi hst hQ => by
    obtain ⟨hz, hTI, ⟨a, b, hTO⟩, h1, h2⟩ := hst
    have hT : s.TypeIs (.ref z) "zip" := ⟨_, hz, rfl⟩
    unfold pyNext
    refine wpAny_bind (wpAny_attempt (wpAny_callSpecial?_slot (name := Str.ofString "__next__") hT F.slot_zip_next
      (wpAny_call_entry F.slot_zip_next hT F.entry_zip_next (zipD_item D1 D2 Ap hz hTI hTO h1 h2 hi (hn ▸ hi) fun x y h' tk hx hy b1 b2 b3 b4 b5 b6 => wpAny_pure ?_) (F.args_zip_next_1 _))))
    have lt : ∀ {c o}, s.heap.get? c = some o → s.heap.objs.size ≠ c := fun e => Nat.ne_of_gt (Heap.lt_size e)
    obtain ⟨o1, ho1⟩ := D1.live _ _ h1
    obtain ⟨o2, ho2⟩ := D2.live _ _ h2
    exact hQ s.heap.objs.size #[x, y] h' tk ⟨x, y, hx, hy, rfl⟩ ⟨_, b5, rfl, _, rfl⟩ ⟨b1, b6 _ _ Ap.TIz Ap.TITO Ap.TI1 Ap.TI2 hTI, ⟨_, _, b2⟩, b3, b4, lt hz, lt hTO, lt ho1, lt ho2⟩
      fun c o hc e => b6 c o (fun x => hc (by simp [x])) (fun x => hc (by simp [x])) (fun x => hc (by simp [x])) (fun x => hc (by simp [x])) e
  go := fun elts k pos i T s Q E hm hQ => by
    obtain ⟨hz, hTI, ⟨a, b, hTO⟩, h1, h2, _⟩ := hm
    refine wpAny_letOwnedTupleGo_zip hz fun h' hz' hs' => hQ h' ⟨hz', hs'.extBut _ _ Ap.TIz hTI, ⟨a, b, hs'.extBut _ _ Ap.TOz hTO⟩, D1.frame _ _ _ h1 (stay hs' Ap.z1), D2.frame _ _ _ h2 (stay hs' Ap.z2)⟩
      fun c o hc e => hs'.extBut _ _ (fun x => hc (by simp [x])) e
  apart := fun i T h hm hT => by
    obtain ⟨_, _, _, _, _, t1, t2, t3, t4⟩ := hm
    have hT' : T = z ∨ T = TO ∨ T = i1 ∨ T = i2 := by simpa using hT
    rcases hT' with e | e | e | e
    · exact t1 e
    · exact t2 e
    · exact t3 e
    · exact t4 e
  done := fun s Q E hst hQ => by
    obtain ⟨hz, hTI, ⟨a, b, hTO⟩, h1, h2⟩ := hst
    have hT : s.TypeIs (.ref z) "zip" := ⟨_, hz, rfl⟩
    unfold pyNext
    refine wpAny_bind (wpAny_attempt (wpAny_callSpecial?_slot (name := Str.ofString "__next__") hT F.slot_zip_next
      (wpAny_call_entry F.slot_zip_next hT F.entry_zip_next (zipD_end D1 D2 Ap hz hTI hTO h1 h2 (.inl rfl) fun h' e tk hk he => ?_) (F.args_zip_next_1 _))))
    obtain ⟨o, ho, hc⟩ := he
    refine wpAny_bind (wpAny_isInstance (T := "StopIteration") (b := true) ⟨o, ho, hc⟩ isSubtype_stop ?_)
    exact wpAny_pure (hQ _ _ fun c o hc e => hk c o (fun x => hc (by simp [x])) (fun x => hc (by simp [x])) (fun x => hc (by simp [x])) (fun x => hc (by simp [x])) e)
  self := fun i s Q E hst hQ => wpAny_pyIter_zip hst.1 hQ
/-- the frame's side: what stood ahead of zip stands in each turn -/
theorem zip_core {prog : Program} {w : World} {A : Around} {E : Value → Shared → Prop} {s : Shared} {env : Env} {h₀ h' : Heap} {L : Addr} {m : Str → Option Value} {news : List (Addr × Obj)} {elt : Expr} {a b : Str} {pa pb tp : Pos} {kk : Nat} {scope : Scope} {cl : List (Str × Addr)} {RR : Value → Addr → Result → Shared → Prop}
    {z TI TO i1 i2 : Addr} {fp1 fp2 : List Addr} {n : Nat} {P1 P2 : Nat → Value → Prop} {St1 St2 : Nat → Heap → Prop} (F : Fr h₀ L s.heap m) (N : News h₀ L s.heap news)
    (D1 : Draws prog w A.in1 i1 fp1 n P1 St1) (D2 : Draws prog w A.in1 i2 fp2 n P2 St2) (Ap : ZipOff z TI TO i1 i2 fp1 fp2) (hn : n ≤ sizeLine)
    (hz : IsZip h' z TI TO .none) (hTI : IsPair h' TI (.ref i1) (.ref i2)) (hTO : IsPair h' TO .none .none) (st1 : St1 0 h') (st2 : St2 0 h') (low : ∀ c ∈ z :: TI :: TO :: (fp1 ++ fp2), c < h'.objs.size)
    (new : ∀ c ∈ [z, TO, i1, i2], s.heap.objs.size ≤ c) (hk : ∀ c o, s.heap.get? c = some o → h'.get? c = some o) (hle : s.heap.objs.size ≤ h'.objs.size) (G : Nat → Value → Prop)
    (hel : ∀ i x y C oC m₃ h tk E', i < n → P1 i x → P2 i y → Fr h₀ L h m → News h₀ L h ((C, oC) :: news) → (∀ p ∈ news, p.1 < C) → NsObj oC m₃ → m₃ a = some x → m₃ b = some y →
      wpAny (model prog w) A (eval elt (compEnvC scope cl C env)) (fun v s₄ => Hold (G i v ∧ Keeps { s with heap := h, toks := tk } s₄)) E' { s with heap := h, toks := tk })
    (hfin : FinOk RR h₀ L m news s n G) :
    wpAny (model prog w) A (pyIter (.ref z)) (fun it s₂ => ∃ I fp wr n P Md St R G, it = .ref I ∧ PairSrc prog w A env elt a b pa pb tp kk scope cl RR s₂ I fp wr n P Md St R G) E { s with heap := h' } := by
  have W := zipWalks (A := A) D1 D2 Ap rfl
  have oldN : ∀ c o, s.heap.get? c = some o → c ∉ [z, TO, i1, i2] := fun c o e hc => absurd (Heap.lt_size e) (Nat.not_lt.mpr (new c hc))
  refine wpAny_pyIter_zip hz ⟨z, _, _, n, _, _, _, fun i x y => P1 i x ∧ P2 i y, G, rfl, ⟨KTurns.ofWalksU W, hn, ⟨hz, hTI, ⟨_, _, hTO⟩, st1, st2⟩, low, W.self, ?_, ?_, ?_⟩⟩
  · rintro i v h hi ⟨T, vals, rfl, ⟨x, y, hx, hy, rfl⟩, hT⟩
    exact ⟨T, x, y, rfl, hT, hx, hy⟩
  · intro C i x y h₃ tk₃ m₃ E' hi hC hR ns ma mb keep
    have up : ∀ c o, s.heap.get? c = some o → h₃.get? c = some o := fun c o e => keep c o (oldN c o e) (hk c o e)
    obtain ⟨oC, hoC, hNs⟩ := ns_obj ns
    have hC' : s.heap.objs.size ≤ C := Nat.le_of_lt (Nat.lt_of_le_of_lt hle hC)
    refine hel i x y C oC m₃ h₃ tk₃ E' hi hR.1 hR.2 (F.keeps up) (fun p hp => ?_) (fun p hp => Nat.lt_of_lt_of_le (Heap.lt_size (N p hp).1) hC') hNs ma mb
    rcases List.mem_cons.mp hp with rfl | hp
    · exact ⟨hoC, fun e => absurd F.ns.lt (Nat.not_lt.mpr (e ▸ hC')), base_new F hC'⟩
    · exact N.grown up p hp
  · intro D C h₃ tk₃ m₃ ys hD hC hCD ns hg hlen hG keep
    have up : ∀ c o, s.heap.get? c = some o → h₃.get? c = some o := fun c o e => keep c o (oldN c o e) (hk c o e)
    have hD' : s.heap.objs.size ≤ D := Nat.le_trans hle hD
    have hC' : s.heap.objs.size ≤ C := Nat.le_trans hle hC
    refine hfin D C h₃ tk₃ m₃ ys (F.keeps up) (fun p hp => ?_) (fun p hp => Nat.lt_of_lt_of_le (Heap.lt_size (N p hp).1) hD') (fun p hp => ?_) (fun e => absurd F.ns.lt (Nat.not_lt.mpr (e ▸ hC'))) (base_new F hC') ns hlen hG
    · rcases List.mem_cons.mp hp with rfl | hp
      · exact ⟨hg, fun e => absurd F.ns.lt (Nat.not_lt.mpr (e ▸ hD')), base_new F hD'⟩
      · exact N.grown up p hp
    · rcases List.mem_cons.mp hp with rfl | hp
      · exact Ne.symm hCD
      · exact Nat.ne_of_lt (Nat.lt_of_lt_of_le (Heap.lt_size (N p hp).1) hC')
theorem zipOff_ls (B l : Nat) (h : l < B) : ZipOff (B + 4) (B + 2) (B + 3) B (B + 1) [B, l] [B + 1] where
  TIz := (show @Ne Nat (B + 2) (B + 4) by omega)
  TOz := (show @Ne Nat (B + 3) (B + 4) by omega)
  TITO := (show @Ne Nat (B + 2) (B + 3) by omega)
  in1 := .head _
  in2 := .head _
  z1 := nmem1 (show @Ne Nat _ _ by omega) (nmem1 (show @Ne Nat _ _ by omega) nmem0)
  z2 := nmem1 (show @Ne Nat _ _ by omega) nmem0
  TO1 := nmem1 (show @Ne Nat _ _ by omega) (nmem1 (show @Ne Nat _ _ by omega) nmem0)
  TO2 := nmem1 (show @Ne Nat _ _ by omega) nmem0
  TI1 := (show @Ne Nat (B + 2) B by omega)
  TI2 := (show @Ne Nat (B + 2) (B + 1) by omega)
  i12 := nmem1 (show @Ne Nat _ _ by omega) nmem0
  i21 := nmem1 (show @Ne Nat _ _ by omega) (nmem1 (show @Ne Nat _ _ by omega) nmem0)
theorem zipOff_ll (B l l' : Nat) (h : l < B) (h' : l' < B) : ZipOff (B + 4) (B + 2) (B + 3) B (B + 1) [B, l] [B + 1, l'] where
  TIz := (show @Ne Nat (B + 2) (B + 4) by omega)
  TOz := (show @Ne Nat (B + 3) (B + 4) by omega)
  TITO := (show @Ne Nat (B + 2) (B + 3) by omega)
  in1 := .head _
  in2 := .head _
  z1 := nmem1 (show @Ne Nat _ _ by omega) (nmem1 (show @Ne Nat _ _ by omega) nmem0)
  z2 := nmem1 (show @Ne Nat _ _ by omega) (nmem1 (show @Ne Nat _ _ by omega) nmem0)
  TO1 := nmem1 (show @Ne Nat _ _ by omega) (nmem1 (show @Ne Nat _ _ by omega) nmem0)
  TO2 := nmem1 (show @Ne Nat _ _ by omega) (nmem1 (show @Ne Nat _ _ by omega) nmem0)
  TI1 := (show @Ne Nat (B + 2) B by omega)
  TI2 := (show @Ne Nat (B + 2) (B + 1) by omega)
  i12 := nmem1 (show @Ne Nat _ _ by omega) (nmem1 (show @Ne Nat _ _ by omega) nmem0)
  i21 := nmem1 (show @Ne Nat _ _ by omega) (nmem1 (show @Ne Nat _ _ by omega) nmem0)
abbrev zs1 (h : Heap) (l1 : Addr) : Heap := h.push { cls := .type "list_iterator", data := .fields #[.ref l1, .int 0 0] }
abbrev zs2 (h : Heap) (l1 : Addr) (x : Str) (t : Tok) : Heap := (zs1 h l1).push { cls := .type (strIterType x), data := .fields #[.str x t, .int 0 0] }
abbrev zs3 (h : Heap) (l1 : Addr) (x : Str) (t : Tok) : Heap := (zs2 h l1 x t).push { cls := .type "tuple", data := .seq #[.ref h.objs.size, .ref (zs1 h l1).objs.size] }
abbrev zs4 (h : Heap) (l1 : Addr) (x : Str) (t : Tok) : Heap := (zs3 h l1 x t).push { cls := .type "tuple", data := .seq #[.none, .none] }
abbrev zs5 (h : Heap) (l1 : Addr) (x : Str) (t : Tok) : Heap := (zs4 h l1 x t).push { cls := .type "zip", data := .fields #[.none, .bool false, .bool false, .ref (zs2 h l1 x t).objs.size, .ref (zs3 h l1 x t).objs.size] }
set_option maxHeartbeats 2000000 in
/-- zip of a list and a text -/
theorem meets_zip_newS (l1 : Addr) (x : Str) (t : Tok) (xs : Array Value) :
    Meets (Builtin.«zip.__new__» ⟨[.type "zip", .ref l1, .str x t], []⟩) (fun _ R s => s.heap.IsList l1 xs ∧ R (.ok (.ret (.ref (zs4 s.heap l1 x t).objs.size))) { s with heap := zs5 s.heap l1 x t }) :=
  .of_wp fun prog w A R s h => by
    obtain ⟨hp, g, d, tk, os⟩ := s; obtain ⟨hl1, h⟩ := h
    have hsub := sub_zip
    have hL1 : Heap.IsList (Shared.heap ⟨hp, g, d, tk, os⟩) l1 xs := hl1
    wp_walk using wpAny_pyIter_list hL1, wpAny_pyIter_strU
    exact ⟨_, rfl, h⟩
section
variable {prog : Program} {w : World} {A : Around} {E : Value → Shared → Prop} {s : Shared} {env : Env} {h₀ h' : Heap} {L l1 : Addr} {m : Str → Option Value} {news : List (Addr × Obj)} {elt : Expr} {a b : Str} {pa pb tp : Pos} {kk : Nat} {scope : Scope} {cl : List (Str × Addr)} {RR : Value → Addr → Result → Shared → Prop}
theorem zip_ls {x : Str} {t : Tok} {xs : List Value} (hh : A.handled = none) (F : Fr h₀ L s.heap m) (N : News h₀ L s.heap news) (hl : s.heap.IsList l1 xs.toArray) (hlen : xs.length = x.cps.size) (hsz : xs.length ≤ sizeLine) (G : Nat → Value → Prop)
    (hel : ∀ i v c u C oC m₃ h tk E', xs[i]? = some v → x.cps[i]? = some c → Fr h₀ L h m → News h₀ L h ((C, oC) :: news) → (∀ p ∈ news, p.1 < C) → NsObj oC m₃ → m₃ a = some v → m₃ b = some (.str ⟨#[c]⟩ u) →
      wpAny (model prog w) A (eval elt (compEnvC scope cl C env)) (fun v s₄ => Hold (G i v ∧ Keeps { s with heap := h, toks := tk } s₄)) E' { s with heap := h, toks := tk })
    (hfin : FinOk RR h₀ L m news s xs.length G) :
    wpAny (model prog w) A (call (.type "zip") [.ref l1, .str x t]) (fun xv s₁ => wpAny (model prog w) A (pyIter xv) (fun it s₂ => ∃ I fp wr n P Md St R G, it = .ref I ∧ PairSrc prog w A env elt a b pa pb tp kk scope cl RR s₂ I fp wr n P Md St R G) E s₁) E s := by
  refine callType_new PySem.F.called_zip (by decide) (PySem.F.typeCall_zip_2 _ _) (PySem.F.newCall_zip_2 _ _) (fun obj => PySem.F.args_object_init_3 obj _ _) PySem.F.entry_zip_new (meets_zip_newS l1 x t xs.toArray) ⟨hl, ?_⟩
  have z1 : (zs1 s.heap l1).objs.size = s.heap.objs.size + 1 := Heap.size_push ..
  have z2 : (zs2 s.heap l1 x t).objs.size = s.heap.objs.size + 2 := by rw [Heap.size_push, z1]
  have z3 : (zs3 s.heap l1 x t).objs.size = s.heap.objs.size + 3 := by rw [Heap.size_push, z2]
  have z4 : (zs4 s.heap l1 x t).objs.size = s.heap.objs.size + 4 := by rw [Heap.size_push, z3]
  have z5 : (zs5 s.heap l1 x t).objs.size = s.heap.objs.size + 5 := by rw [Heap.size_push, z4]
  have g5 : (zs5 s.heap l1 x t).get? (zs4 s.heap l1 x t).objs.size = some _ := Heap.get?_push_size _ rfl
  have g4 : (zs5 s.heap l1 x t).get? (zs3 s.heap l1 x t).objs.size = some _ := Heap.get?_push_of_some _ (Heap.get?_push_size _ rfl)
  have g3 : (zs5 s.heap l1 x t).get? (zs2 s.heap l1 x t).objs.size = some _ := Heap.get?_push_of_some _ (Heap.get?_push_of_some _ (Heap.get?_push_size _ rfl))
  have g2 : (zs5 s.heap l1 x t).get? (zs1 s.heap l1).objs.size = some _ := Heap.get?_push_of_some _ (Heap.get?_push_of_some _ (Heap.get?_push_of_some _ (Heap.get?_push_size _ rfl)))
  have g1 : (zs5 s.heap l1 x t).get? s.heap.objs.size = some _ := Heap.get?_push_of_some _ (Heap.get?_push_of_some _ (Heap.get?_push_of_some _ (Heap.get?_push_of_some _ (Heap.get?_push_size _ rfl))))
  have gk : ∀ c o, s.heap.get? c = some o → (zs5 s.heap l1 x t).get? c = some o := fun c o e =>
    Heap.get?_push_of_some _ (Heap.get?_push_of_some _ (Heap.get?_push_of_some _ (Heap.get?_push_of_some _ (Heap.get?_push_of_some _ e))))
  have hl5 : (zs5 s.heap l1 x t).IsList l1 xs.toArray := hl.at fun o e => gk _ o e
  have hlt : l1 < s.heap.objs.size := by obtain ⟨o, e, _⟩ := hl; exact Heap.lt_size e
  show _ ∧ _
  rw [z2, z3, z4] at g5
  rw [z1, z2] at g3
  rw [z3] at g4
  rw [z1] at g2
  rw [z4]
  refine ⟨⟨_, g5, rfl⟩, ?_⟩
  generalize zs5 s.heap l1 x t = H5 at *
  have Ap : ZipOff (s.heap.objs.size + 4) (s.heap.objs.size + 2) (s.heap.objs.size + 3) s.heap.objs.size (s.heap.objs.size + 1) [s.heap.objs.size, l1] [s.heap.objs.size + 1] := zipOff_ls _ _ hlt
  have low : ∀ c ∈ (s.heap.objs.size + 4) :: (s.heap.objs.size + 2) :: (s.heap.objs.size + 3) :: ([s.heap.objs.size, l1] ++ [s.heap.objs.size + 1]), c < H5.objs.size := by
    have hlt' : @LT.lt Nat _ l1 s.heap.objs.size := hlt
    intro c hc
    simp at hc
    show @LT.lt Nat _ c H5.objs.size
    rw [z5]
    rcases hc with e | e | e | e | e | e <;> (have e' : @Eq Nat c _ := e; omega)
  have new : ∀ c ∈ [s.heap.objs.size + 4, s.heap.objs.size + 3, s.heap.objs.size, s.heap.objs.size + 1], s.heap.objs.size ≤ c := by
    intro c hc
    simp at hc
    show @LE.le Nat _ s.heap.objs.size c
    rcases hc with e | e | e | e <;> (have e' : @Eq Nat c _ := e; omega)
  have hes : xs.toArray.size = x.cps.size := by rw [List.size_toArray]; exact hlen
  have D1 := Draws.list (prog := prog) (w := w) (A := A.in1) hh s.heap.objs.size l1 (Nat.ne_of_lt hlt) xs.toArray
  rw [hes] at D1
  have hel' : ∀ i x' y C oC m₃ h tk E', i < x.cps.size → xs.toArray[i]? = some x' → (∃ c u, x.cps[i]? = some c ∧ y = .str ⟨#[c]⟩ u) → Fr h₀ L h m → News h₀ L h ((C, oC) :: news) → (∀ p ∈ news, p.1 < C) → NsObj oC m₃ → m₃ a = some x' → m₃ b = some y →
      wpAny (model prog w) A (eval elt (compEnvC scope cl C env)) (fun v s₄ => Hold (G i v ∧ Keeps { s with heap := h, toks := tk } s₄)) E' { s with heap := h, toks := tk } := by
    rintro i x' y C oC m₃ h tk E' _ hx ⟨c, u, hc, rfl⟩ F' N' l hn ha hb
    exact hel i x' c u C oC m₃ h tk E' (by simpa using hx) hc F' N' l hn ha hb
  rw [hlen] at hfin
  have hle : s.heap.objs.size ≤ H5.objs.size := by rw [z5]; exact Nat.le_add_right _ _
  cases ha : x.cps.all (· < 128) with
  | false =>
    have D2 := Draws.strWide (prog := prog) (w := w) (A := A.in1) hh (s.heap.objs.size + 1) x t
    exact zip_core F N D1 D2 Ap (hlen ▸ hsz) g5 g3 g4 ⟨⟨_, g1, rfl, rfl⟩, hl5⟩ ⟨_, g2, by simp [strIterType, ha], rfl⟩ low new gk hle G hel' hfin
  | true =>
    have D2 := Draws.strAscii (prog := prog) (w := w) (A := A.in1) hh (s.heap.objs.size + 1) x t
    exact zip_core F N D1 D2 Ap (hlen ▸ hsz) g5 g3 g4 ⟨⟨_, g1, rfl, rfl⟩, hl5⟩ ⟨_, g2, by simp [strIterType, ha], rfl⟩ low new gk hle G hel' hfin
/-- zip of two lists -/
theorem zip_ll {l2 : Addr} {xs ys : List Value} (hh : A.handled = none) (F : Fr h₀ L s.heap m) (N : News h₀ L s.heap news) (hl : s.heap.IsList l1 xs.toArray) (hl' : s.heap.IsList l2 ys.toArray) (hlen : xs.length = ys.length) (hsz : xs.length ≤ sizeLine) (G : Nat → Value → Prop)
    (hel : ∀ i v u C oC m₃ h tk E', xs[i]? = some v → ys[i]? = some u → Fr h₀ L h m → News h₀ L h ((C, oC) :: news) → (∀ p ∈ news, p.1 < C) → NsObj oC m₃ → m₃ a = some v → m₃ b = some u →
      wpAny (model prog w) A (eval elt (compEnvC scope cl C env)) (fun v s₄ => Hold (G i v ∧ Keeps { s with heap := h, toks := tk } s₄)) E' { s with heap := h, toks := tk })
    (hfin : FinOk RR h₀ L m news s xs.length G) :
    wpAny (model prog w) A (call (.type "zip") [.ref l1, .ref l2]) (fun xv s₁ => wpAny (model prog w) A (pyIter xv) (fun it s₂ => ∃ I fp wr n P Md St R G, it = .ref I ∧ PairSrc prog w A env elt a b pa pb tp kk scope cl RR s₂ I fp wr n P Md St R G) E s₁) E s := by
  refine call_zip_2 hl hl' fun H5 g5 g3 g4 g1 g2 z5 gk => ?_
  have hl5 : H5.IsList l1 xs.toArray := hl.at fun o e => gk _ o e
  have hl5' : H5.IsList l2 ys.toArray := hl'.at fun o e => gk _ o e
  have hlt : @LT.lt Nat _ l1 s.heap.objs.size := by obtain ⟨o, e, _⟩ := hl; exact Heap.lt_size e
  have hlt2 : @LT.lt Nat _ l2 s.heap.objs.size := by obtain ⟨o, e, _⟩ := hl'; exact Heap.lt_size e
  have Ap : ZipOff (s.heap.objs.size + 4) (s.heap.objs.size + 2) (s.heap.objs.size + 3) s.heap.objs.size (s.heap.objs.size + 1) [s.heap.objs.size, l1] [s.heap.objs.size + 1, l2] := zipOff_ll _ _ _ hlt hlt2
  have low : ∀ c ∈ (s.heap.objs.size + 4) :: (s.heap.objs.size + 2) :: (s.heap.objs.size + 3) :: ([s.heap.objs.size, l1] ++ [s.heap.objs.size + 1, l2]), c < H5.objs.size := by
    intro c hc
    simp at hc
    show @LT.lt Nat _ c H5.objs.size
    rw [z5]
    rcases hc with e | e | e | e | e | e | e <;> (have e' : @Eq Nat c _ := e; omega)
  have new : ∀ c ∈ [s.heap.objs.size + 4, s.heap.objs.size + 3, s.heap.objs.size, s.heap.objs.size + 1], s.heap.objs.size ≤ c := by
    intro c hc
    simp at hc
    show @LE.le Nat _ s.heap.objs.size c
    rcases hc with e | e | e | e <;> (have e' : @Eq Nat c _ := e; omega)
  have D1 := Draws.list (prog := prog) (w := w) (A := A.in1) hh s.heap.objs.size l1 (Nat.ne_of_lt hlt) xs.toArray
  have D2 := Draws.list (prog := prog) (w := w) (A := A.in1) hh (s.heap.objs.size + 1) l2 (Nat.ne_of_lt (Nat.lt_succ_of_lt hlt2)) ys.toArray
  have q1 : xs.toArray.size = xs.length := List.size_toArray
  have q2 : ys.toArray.size = xs.length := by rw [List.size_toArray, hlen]
  rw [q1] at D1
  rw [q2] at D2
  refine zip_core F N D1 D2 Ap hsz g5 g3 g4 ⟨g1, hl5⟩ ⟨g2, hl5'⟩ low new gk (by rw [z5]; exact Nat.le_add_right _ _) G ?_ hfin
  intro i x' y C oC m₃ h tk E' _ hx hy F' N' l hn ha hb
  exact hel i x' y C oC m₃ h tk E' (by simpa using hx) (by simpa using hy) F' N' l hn ha hb
end
end Mine
namespace Mine
open PyProof.Rows.LCg
section
variable {prog : Program} {w : World} {A : Around} {E : Value → Shared → Prop} {s : Shared} {env : Env}
theorem letGo_name {x : Str} {px : Pos} {it v : Value} {Q : Unit → Shared → Prop} (h : Q () s) : wpAny (model prog w) A (letOwnedTupleGo (.Name x px) it v) Q E s := wpAny_pure h
/-- a source of single things; the element may be a new thing of the heap -/
structure OneSrc (prog : Program) (w : World) (A : Around) (env : Env) (elt : Expr) (a : Str) (pa : Pos) (scope : Scope) (cl : List (Str × Addr)) (RR : Value → Addr → Result → Shared → Prop) (s₂ : Shared)
    (I : Addr) (fp wr : List Addr) (n : Nat) (P : Nat → Value → Prop) (St : Nat → Heap → Prop) (G : Nat → Value → Heap → List Addr → Prop) : Prop where
  W : Walks prog w A I fp wr n P St
  sz : n ≤ sizeLine
  st : St 0 s₂.heap
  low : ∀ c ∈ fp, c < s₂.heap.objs.size
  live : ∀ i h, St i h → ∀ c ∈ wr, ∃ o, h.get? c = some o
  stab : ∀ i v h h' off, G i v h off → (∀ c o, c ∉ off → h.get? c = some o → h'.get? c = some o) → G i v h' off
  elt : ∀ C i x h₃ tk₃ m₃ E' off, i < n → s₂.heap.objs.size < C → P i x → h₃.Ns C m₃ → m₃ a = some x → (∀ c ∈ off, ∃ o, h₃.get? c = some o) → (∀ c o, c ∉ wr → s₂.heap.get? c = some o → h₃.get? c = some o) →
    wpAny (model prog w) A (eval elt (compEnvC scope cl C env)) (fun v s₄ => G i v s₄.heap off ∧ Keeps { s₂ with heap := h₃, toks := tk₃ } s₄) E' { s₂ with heap := h₃, toks := tk₃ }
  fin : ∀ D C h' tk m' ys off, s₂.heap.objs.size ≤ D → s₂.heap.objs.size ≤ C → C ≠ D → h'.Ns C m' → h'.get? D = some (lst ys) → ys.length = n → (∀ i v, ys[i]? = some v → G i v h' off) → C ∈ off → (∀ c o, c ∉ wr → s₂.heap.get? c = some o → h'.get? c = some o) →
    RR (.ref D) C (.ok .next) { s₂ with heap := h', toks := tk }
theorem one_block {elt iter : Expr} {a : Str} {pa : Pos} {scope : Scope} {cl : List (Str × Addr)} {pos : Pos} {RR : Value → Addr → Result → Shared → Prop} {s₂ : Shared} {I : Addr} {fp wr : List Addr} {n : Nat} {P : Nat → Value → Prop} {St : Nat → Heap → Prop} {G : Nat → Value → Heap → List Addr → Prop}
    (hcell : ∀ y ∈ scope.names, y.2 ≠ .cell) (hkind : scope.kind = .function) (hxa : scope.names.lookup a = some .local)
    (S : OneSrc prog w A env elt a pa scope cl RR s₂ I fp wr n P St G) :
    wpAny (model prog w) A (newList []) (fun acc s₃ => wpAny (model prog w) A (newFunctionEnv scope env.globals cl [] env.qual none .none (some env)) (fun cenv s₄ =>
      codeAny (model prog w) A (.compStart (.ListComp elt [⟨.Name a pa, iter, [], 0⟩] scope pos) 0 (.ref I) acc { cenv with scope := relabel scope env }) (RR acc cenv.locals) s₄) E s₃) E s₂ := by
  refine wpAny_newObj_type (wpAny_newFunctionEnv hcell (by intro y hy; simp at hy) (fun h₁ hns₁ hsb₁ => ?_) hkind)
  dsimp only at hns₁ hsb₁ ⊢
  generalize hH2 : s₂.heap.push { cls := .type "list", dict := none, data := .seq ([] : List Value).toArray } = H2 at hns₁ hsb₁ ⊢
  have hC : H2.objs.size = s₂.heap.objs.size + 1 := by rw [← hH2, Heap.size_push]
  have hCD : H2.objs.size ≠ s₂.heap.objs.size := by rw [hC]; exact Nat.succ_ne_self _
  have low : ∀ c, c < s₂.heap.objs.size → c ≠ H2.objs.size ∧ c ≠ s₂.heap.objs.size := fun c hc => ⟨by rw [hC]; exact Nat.ne_of_lt (Nat.lt_succ_of_lt hc), Nat.ne_of_lt hc⟩
  have fpC : ∀ c ∈ fp, c ≠ H2.objs.size := fun c hc => (low c (S.low c hc)).1
  have fpD : ∀ c ∈ fp, c ≠ s₂.heap.objs.size := fun c hc => (low c (S.low c hc)).2
  have old : ∀ c o, s₂.heap.get? c = some o → h₁.get? c = some o := fun c o e => hsb₁.extBut c o (low c (Heap.lt_size e)).1 (Heap.get?_push_of_some _ (hH2 ▸ Heap.get?_push_of_some _ e))
  have acc₁ : h₁.get? s₂.heap.objs.size = some (lst []) := hsb₁.extBut _ _ (Ne.symm hCD) (Heap.get?_push_of_some _ (hH2 ▸ Heap.get?_push_size _ rfl))
  have st₁ : St 0 h₁ := S.W.frame _ _ _ S.st fun c _ o e => old c o e
  have loop : ∀ s₃ : Shared, s₃ = { s₂ with heap := h₁, toks := s₂.toks + ([] : List (Str × Value)).length } →
      codeAny (model prog w) A (.compLoop (.ListComp elt [⟨.Name a pa, iter, [], 0⟩] scope pos) 0 (.ref I) (.ref s₂.heap.objs.size) (compEnvC scope cl H2.objs.size env))
        (RR (.ref s₂.heap.objs.size) H2.objs.size) s₃ := by
    rintro s₃ rfl
    refine kcp_loop
      (fun k s' => ∃ h' tk i ys m', s' = { s₂ with heap := h', toks := tk } ∧ i ≤ n ∧ k = n + 1 - i ∧ ys.length = i ∧ St i h' ∧ h'.Ns H2.objs.size m' ∧ h'.get? s₂.heap.objs.size = some (lst ys) ∧ (∀ j v, ys[j]? = some v → G j v h' (s₂.heap.objs.size :: H2.objs.size :: wr)) ∧
        ∀ c o, c ∉ wr → s₂.heap.get? c = some o → h'.get? c = some o) ?_ (n + 1)
      ⟨h₁, _, 0, [], _, rfl, Nat.zero_le _, rfl, rfl, st₁, hns₁, acc₁, fun j v e => by simp at e, fun c o _ e => old c o e⟩
    rintro k s' ⟨h', tk, i, ys, m', rfl, hi, rfl, hyl, st', ns', acc', hG, keep⟩
    by_cases hlt : i < n
    · refine S.W.item i _ _ _ hlt st' fun v h₃ tk₃ hP st₃ hk₃ => ?_
      refine letGo_name ?_
      have up₃ : ∀ c o, c ∉ wr → h'.get? c = some o → h₃.get? c = some o := hk₃
      have Cw : H2.objs.size ∉ wr := fun hm => fpC _ (S.W.sub _ hm) rfl
      have Dw : s₂.heap.objs.size ∉ wr := fun hm => fpD _ (S.W.sub _ hm) rfl
      refine wpAny_assign_Name (wpAny_storeName_local (lookup_relabel_local hxa) (ns'.at' fun o e => up₃ _ o Cw e) (fun h₄ ns₄ hsb₄ => ?_) (by simp [compEnvC, relabel, hkind]))
      have hs₄ : ∀ c o, c ≠ H2.objs.size → h₃.get? c = some o → h₄.get? c = some o := fun c o hc e => hsb₄.extBut c o hc e
      have acc₄ : h₄.get? s₂.heap.objs.size = some (lst ys) := hs₄ _ _ (Ne.symm hCD) (up₃ _ _ Dw acc')
      refine wpAny_mono (S.elt H2.objs.size i v h₄ _ _ _ (s₂.heap.objs.size :: H2.objs.size :: wr) hlt (by rw [hC]; exact Nat.lt_succ_self _) hP ns₄ (by simp) (fun c hc => ?_) (fun c o hc e => hs₄ c o ((low c (Heap.lt_size e)).1) (up₃ c o hc (keep c o hc e)))) (fun v s₅ h₅ => ?_) fun _ _ e => e
      · rcases List.mem_cons.mp hc with rfl | hc
        · exact ⟨_, acc₄⟩
        · rcases List.mem_cons.mp hc with rfl | hc
          · obtain ⟨o, _, _, ho, _⟩ := ns₄; exact ⟨o, ho⟩
          · obtain ⟨o, ho⟩ := S.live _ _ st₃ c hc
            exact ⟨o, hs₄ c o (fpC c (S.W.sub _ hc)) ho⟩
      obtain ⟨hv, h₅, tk₅, rfl, hk₅⟩ := h₅
      have acc₅ : h₅.get? s₂.heap.objs.size = some (lst ys) := hk₅ _ _ acc₄
      have st₅ : St (i + 1) h₅ := S.W.frame _ _ _ st₃ fun c hc o e => hk₅ c o (hs₄ c o (fpC c hc) e)
      have ns₅ := ns₄.at' fun o e => hk₅ _ o e
      refine append_at (hsz := by show ys.toArray.size ≤ sizeLine; rw [List.size_toArray, hyl]; exact Nat.le_trans hi S.sz) acc₅ fun h₆ hs₆ acc₆ => ?_
      have off6 : ∀ c o, c ∉ s₂.heap.objs.size :: H2.objs.size :: wr → h'.get? c = some o → h₆.get? c = some o := fun c o hc e =>
        hs₆.extBut c o (fun q => hc (by rw [q]; exact .head _)) (hk₅ c o (hs₄ c o (fun q => hc (by rw [q]; exact .tail _ (.head _))) (up₃ c o (fun q => hc (.tail _ (.tail _ q))) e)))
      refine ⟨n + 1 - (i + 1), by omega, h₆, tk₅, i + 1, ys ++ [v], _, rfl, hlt, rfl, by rw [List.length_append, List.length_singleton, hyl], S.W.frame _ _ _ st₅ fun c hc o e => hs₆.extBut c o (fpD c hc) e,
        ns₅.sameBut hs₆ hCD, acc₆.trans (congrArg some (lst_snoc ys v)), ?_, fun c o hc e => hs₆.extBut c o (low c (Heap.lt_size e)).2 (hk₅ c o (hs₄ c o (low c (Heap.lt_size e)).1 (up₃ c o hc (keep c o hc e))))⟩
      intro j u e
      rcases Nat.lt_or_ge j ys.length with hj | hj
      · rw [List.getElem?_append_left hj] at e; exact S.stab _ _ _ _ _ (hG j u e) off6
      · rw [List.getElem?_append_right hj] at e
        have hj0 : j - ys.length = 0 := by
          have := (List.getElem?_eq_some_iff.mp e).1
          simp at this; omega
        rw [hj0] at e
        have : j = i := by omega
        subst this
        cases e; exact S.stab _ _ _ _ _ hv fun c o hc e => hs₆.extBut c o (fun q => hc (by rw [q]; exact .head _)) e
    · obtain rfl : i = n := Nat.le_antisymm hi (Nat.not_lt.mp hlt)
      refine S.W.done _ _ _ st' fun h₂ tk₂ hk₂ => ?_
      have Cw : H2.objs.size ∉ wr := fun hm => fpC _ (S.W.sub _ hm) rfl
      have Dw : s₂.heap.objs.size ∉ wr := fun hm => fpD _ (S.W.sub _ hm) rfl
      exact S.fin _ _ h₂ tk₂ _ ys _ (Nat.le_refl _) (by rw [hC]; exact Nat.le_succ _) hCD (ns'.at' fun o e => hk₂ _ o Cw e) (hk₂ _ _ Dw acc') hyl
        (fun j v e => S.stab _ _ _ _ _ (hG j v e) fun c o hc e => hk₂ c o (fun q => hc (.tail _ (.tail _ q))) e) (.tail _ (.head _)) fun c o hc e => hk₂ c o hc (keep c o hc e)
  exact codeAny_compStart_list (loop _ rfl) (S.W.self 0 _ _ _ st₁ (loop _ rfl))
theorem comp_one {elt iter : Expr} {a : Str} {pa : Pos} {scope : Scope} {cl : List (Str × Addr)} {pos : Pos} {Q : Value → Shared → Prop}
    (hclos : closureFor scope env = pure cl) (hcell : ∀ y ∈ scope.names, y.2 ≠ .cell) (hkind : scope.kind = .function)
    (hnames : ∀ y ∈ scope.names, y.2 = .local → scope.names.lookup y.1 = some .local) (hxa : scope.names.lookup a = some .local)
    (h : wpAny (model prog w) A (eval iter env) (fun xv s₁ => wpAny (model prog w) A (pyIter xv) (fun it s₂ => ∃ I fp wr n P St G, it = .ref I ∧ OneSrc prog w A env elt a pa scope cl (compPost (model prog w) A E none Q) s₂ I fp wr n P St G) E s₁) E s)
    (hs : ∀ x, foldedSetIterable iter env x = pure x := by intro _; rfl) :
    wpAny (model prog w) A (eval (.ListComp elt [⟨.Name a pa, iter, [], 0⟩] scope pos) env) Q E s := by
  rw [eval_ListComp]
  refine wpAny_comprehension_free (use := none) rfl hs hclos hkind hnames (wpAny_mono h (fun xv s₁ h₁ => wpAny_mono h₁ (fun it s₂ h₂ => ?_) fun _ _ e => e) fun _ _ e => e)
  obtain ⟨I, fp, wr, n, P, St, G, rfl, S⟩ := h₂
  exact one_block hcell hkind hxa S
theorem comp_oneA {elt iter : Expr} {a z : Str} {pa pz : Pos} {scope : Scope} {cl : List (Str × Addr)} {pos spos : Pos} {Q : Flow → Shared → Prop}
    (hsw : swapsWith (.ListComp elt [⟨.Name a pa, iter, [], 0⟩] scope pos) (some (.Name z pz)) spos.line env = pure true)
    (hclos : closureFor scope env = pure cl) (hcell : ∀ y ∈ scope.names, y.2 ≠ .cell) (hkind : scope.kind = .function)
    (hnames : ∀ y ∈ scope.names, y.2 = .local → scope.names.lookup y.1 = some .local) (hxa : scope.names.lookup a = some .local)
    (h : wpAny (model prog w) A (eval iter env) (fun xv s₁ => wpAny (model prog w) A (pyIter xv) (fun it s₂ => ∃ I fp wr n P St G, it = .ref I ∧ OneSrc prog w A env elt a pa scope cl (compPost (model prog w) A E (some (assign (.Name z pz) env)) (fun _ s' => Q .next s')) s₂ I fp wr n P St G) E s₁) E s)
    (hs : ∀ x, foldedSetIterable iter env x = pure x := by intro _; rfl) :
    wpAny (model prog w) A (exec (.Assign [.Name z pz] (.ListComp elt [⟨.Name a pa, iter, [], 0⟩] scope pos) spos) env) Q E s := by
  rw [exec_Assign_Name_used _ _ _ _ hsw]
  refine wpAny_bind (wpAny_standAt (wpAny_bind ?_))
  show wpAny _ A (do let _ ← comprehension (.ListComp elt [⟨.Name a pa, iter, [], 0⟩] scope pos) scope env _ (newList []) false (eval iter env) (some (assign (.Name z pz) env))) _ _ s
  refine wpAny_bind (wpAny_mono (wpAny_comprehension_free (use := some (assign (.Name z pz) env)) (Q := fun _ s' => Q .next s') rfl hs hclos hkind hnames
    (wpAny_mono h (fun xv s₁ h₁ => wpAny_mono h₁ (fun it s₂ h₂ => ?_) fun _ _ e => e) fun _ _ e => e)) (fun _ s' hq => wpAny_pure (wpAny_pure hq)) fun _ _ e => e)
  obtain ⟨I, fp, wr, n, P, St, G, rfl, S⟩ := h₂
  exact one_block hcell hkind hxa S
end
/-- the same, where the elements may be new things -/
def FinOk1 (RR : Value → Addr → Result → Shared → Prop) (h₀ : Heap) (L : Addr) (m : Str → Option Value) (news : List (Addr × Obj)) (s : Shared) (n : Nat) (G : Nat → Value → Heap → List Addr → Prop) : Prop :=
  ∀ D C h tk m' ys off, Fr h₀ L h m → News h₀ L h ((D, lst ys) :: news) → (∀ p ∈ news, p.1 < D) → (∀ p ∈ (D, lst ys) :: news, p.1 ≠ C) → C ≠ L → h₀.get? C = none → h.Ns C m' → ys.length = n → (∀ i v, ys[i]? = some v → G i v h off) → C ∈ off →
    RR (.ref D) C (.ok .next) { s with heap := h, toks := tk }
section
variable {prog : Program} {w : World} {A : Around} {E : Value → Shared → Prop} {s : Shared} {env : Env} {h₀ : Heap} {L : Addr} {m : Str → Option Value} {news : List (Addr × Obj)} {n : Nat}
theorem FinOk1.of {RR : Value → Addr → Result → Shared → Prop} {G : Nat → Value → Prop} (h : FinOk RR h₀ L m news s n G) : FinOk1 RR h₀ L m news s n (fun i v _ _ => G i v) :=
  fun D C h' tk m' ys _ F N l off hCL hC₀ ns hy hG _ => h D C h' tk m' ys F N l off hCL hC₀ ns hy hG
theorem FinOk1.assign {G : Nat → Value → Heap → List Addr → Prop} {z : Str} {pz : Pos} {QN : Shared → Prop} (hL : env.locals = L) (hz : env.kindOf z = some .local) (hk : (env.scope.kind == .class || (env.scope.kind == .module && env.locals != env.globals)) = false)
    (stab : ∀ i v h h' off, G i v h off → (∀ c o, c ∉ off → c ≠ L → h.get? c = some o → h'.get? c = some o) → G i v h' off)
    (hq : ∀ D ys h tk off, Fr h₀ L h (fun y => if y = z then some (.ref D) else m y) → News h₀ L h ((D, lst ys) :: news) → (∀ p ∈ news, p.1 < D) → ys.length = n → (∀ i v, ys[i]? = some v → G i v h off) → QN { s with heap := h, toks := tk }) :
    FinOk1 (compPost (model prog w) A E (some (assign (.Name z pz) env)) (fun _ s' => QN s')) h₀ L m news s n G := by
  subst hL
  intro D C h tk m' ys offs F N l off hCL hC₀ ns hy hG hCo
  show wpAny _ _ (PySem.assign (.Name z pz) env (.ref D)) _ _ _
  refine wpAny_assign_Name (wpAny_storeName_local hz F.ns (fun h₁ ns₁ hs₁ => ?_) hk)
  refine ⟨m', ns.at' fun o e => hs₁.extBut _ _ hCL e, fun h' hs => ?_⟩
  have F₁ : Fr h₀ env.locals h₁ (fun y => if y = z then some (.ref D) else m y) := ⟨ns₁, fun b o e => hs₁.extBut b o (fun q => by rw [q] at e; exact absurd (Heap.lt_size e) (Nat.not_lt.mpr F.above)) (F.keep b o e), F.above⟩
  exact hq D ys h' _ offs (F₁.change hs hCL hC₀) (fun p hp => ⟨hs.extBut _ _ (off p hp) (hs₁.extBut _ _ (N p hp).2.1 (N p hp).1), (N p hp).2⟩) l hy
    (fun i v e => stab _ _ _ _ _ (hG i v e) fun c o hc hcL e => hs.extBut c o (fun q => hc (q ▸ hCo)) (hs₁.extBut c o hcL e))
end
section
variable {prog : Program} {w : World} {A : Around} {E : Value → Shared → Prop} {s : Shared} {env : Env} {h₀ : Heap} {L : Addr} {m : Str → Option Value} {news : List (Addr × Obj)} {elt : Expr} {x : Str} {px : Pos} {scope : Scope} {cl : List (Str × Addr)} {RR : Value → Addr → Result → Shared → Prop}
theorem one_core {I : Addr} {oI : Obj} {n : Nat} {P : Nat → Value → Prop} {St : Nat → Heap → Prop} {fp : List Addr} (F : Fr h₀ L s.heap m) (N : News h₀ L s.heap news) (hI : I = s.heap.objs.size) (W : Walks prog w A I fp [I] n P St) (st : St 0 (s.heap.push oI)) (hn : n ≤ sizeLine)
    (low : ∀ c ∈ fp, c < (s.heap.push oI).objs.size) (live : ∀ i h, St i h → ∃ o, h.get? I = some o) (G : Nat → Value → Heap → List Addr → Prop) (stab : ∀ i v h h' off, G i v h off → (∀ c o, c ∉ off → h.get? c = some o → h'.get? c = some o) → G i v h' off)
    (hel : ∀ i v C oC m₃ h tk E' off, i < n → P i v → Fr h₀ L h m → News h₀ L h ((C, oC) :: news) → (∀ p ∈ news, p.1 < C) → NsObj oC m₃ → m₃ x = some v → (∀ c ∈ off, ∃ o, h.get? c = some o) →
      wpAny (model prog w) A (eval elt (compEnvC scope cl C env)) (fun v s₄ => G i v s₄.heap off ∧ Keeps { s with heap := h, toks := tk } s₄) E' { s with heap := h, toks := tk })
    (hfin : FinOk1 RR h₀ L m news s n G) :
    ∃ I' fp wr n P St G, Value.ref I = .ref I' ∧ OneSrc prog w A env elt x px scope cl RR { s with heap := s.heap.push oI } I' fp wr n P St G := by
  subst hI
  have oldN : ∀ c o, s.heap.get? c = some o → c ∉ [s.heap.objs.size] := fun c o e hc => absurd (Heap.lt_size e) (by rw [List.mem_singleton.mp hc]; exact Nat.lt_irrefl _)
  have hsz : (s.heap.push oI).objs.size = s.heap.objs.size + 1 := Heap.size_push ..
  refine ⟨_, fp, [s.heap.objs.size], n, P, St, G, rfl, ⟨W, hn, st, low, ?_, stab, ?_, ?_⟩⟩
  · intro i h hst c hc
    rw [List.mem_singleton.mp hc]
    exact live i h hst
  · intro C i v h₃ tk₃ m₃ E' off hi hC hP ns ma hoff keep
    have up : ∀ c o, s.heap.get? c = some o → h₃.get? c = some o := fun c o e => keep c o (oldN c o e) (Heap.get?_push_of_some _ e)
    obtain ⟨oC, hoC, hNs⟩ := ns_obj ns
    have hC' : s.heap.objs.size ≤ C := by
      have : (s.heap.push oI).objs.size < C := hC
      rw [hsz] at this
      exact Nat.le_of_lt (Nat.lt_of_succ_lt this)
    refine hel i v C oC m₃ h₃ tk₃ E' off hi hP (F.keeps up) (fun p hp => ?_) (fun p hp => Nat.lt_of_lt_of_le (Heap.lt_size (N p hp).1) hC') hNs ma hoff
    rcases List.mem_cons.mp hp with rfl | hp
    · exact ⟨hoC, fun e => absurd F.ns.lt (Nat.not_lt.mpr (e ▸ hC')), base_new F hC'⟩
    · exact N.grown up p hp
  · intro D C h₃ tk₃ m₃ ys off hD hC hCD ns hg hlen hG hCo keep
    have up : ∀ c o, s.heap.get? c = some o → h₃.get? c = some o := fun c o e => keep c o (oldN c o e) (Heap.get?_push_of_some _ e)
    have hD' : s.heap.objs.size ≤ D := by
      have : (s.heap.push oI).objs.size ≤ D := hD
      rw [hsz] at this
      exact Nat.le_of_lt this
    have hC' : s.heap.objs.size ≤ C := by
      have : (s.heap.push oI).objs.size ≤ C := hC
      rw [hsz] at this
      exact Nat.le_of_lt this
    refine hfin D C h₃ tk₃ m₃ ys off (F.keeps up) (fun p hp => ?_) (fun p hp => Nat.lt_of_lt_of_le (Heap.lt_size (N p hp).1) hD') (fun p hp => ?_) (fun e => absurd F.ns.lt (Nat.not_lt.mpr (e ▸ hC'))) (base_new F hC') ns hlen hG hCo
    · rcases List.mem_cons.mp hp with rfl | hp
      · exact ⟨hg, fun e => absurd F.ns.lt (Nat.not_lt.mpr (e ▸ hD')), base_new F hD'⟩
      · exact N.grown up p hp
    · rcases List.mem_cons.mp hp with rfl | hp
      · exact Ne.symm hCD
      · exact Nat.ne_of_lt (Nat.lt_of_lt_of_le (Heap.lt_size (N p hp).1) hC')
theorem range_core {r : Addr} {a b : Int} {t u v : Tok} {n : Nat} (hh : A.handled = none) (F : Fr h₀ L s.heap m) (N : News h₀ L s.heap news) (hr : IsRange s.heap r a b 1 t u v) (hsmall : Builtin.Range.small a b 1 = true) (hsz : Builtin.Range.rangeSize a b 1 = (n : Int)) (hn : n ≤ sizeLine)
    (G : Nat → Value → Heap → List Addr → Prop) (stab : ∀ i v h h' off, G i v h off → (∀ c o, c ∉ off → h.get? c = some o → h'.get? c = some o) → G i v h' off)
    (hel : ∀ i k t C oC m₃ h tk E' off, i < n → k = a + (i : Int) → Fr h₀ L h m → News h₀ L h ((C, oC) :: news) → (∀ p ∈ news, p.1 < C) → NsObj oC m₃ → m₃ x = some (.int k t) → (∀ c ∈ off, ∃ o, h.get? c = some o) →
      wpAny (model prog w) A (eval elt (compEnvC scope cl C env)) (fun v s₄ => G i v s₄.heap off ∧ Keeps { s with heap := h, toks := tk } s₄) E' { s with heap := h, toks := tk })
    (hfin : FinOk1 RR h₀ L m news s n G) :
    wpAny (model prog w) A (pyIter (.ref r)) (fun it s₂ => ∃ I fp wr n P St G, it = .ref I ∧ OneSrc prog w A env elt x px scope cl RR s₂ I fp wr n P St G) E s := by
  refine wpAny_pyIter_range hr hsmall ?_
  refine one_core (I := s.heap.objs.size) F N rfl (Walks.range hh s.heap.objs.size a 1 n) ?_ hn ?_ ?_ G stab ?_ hfin
  · rw [hsz]
    show IsRangeIter _ _ (a + ((0 : Nat) : Int) * 1) ((n : Int) - ((0 : Nat) : Int)) 1
    have e1 : a + ((0 : Nat) : Int) * 1 = a := by omega
    have e2 : (n : Int) - ((0 : Nat) : Int) = n := by omega
    rw [e1, e2]
    exact Heap.get?_push_size _ rfl
  · intro c hc
    rw [List.mem_singleton.mp hc, Heap.size_push]; exact Nat.lt_succ_self _
  · exact fun i h st => ⟨_, st⟩
  · rintro i v C oC m₃ h tk E' off hi ⟨t', rfl⟩ F' N' l hNs ma hoff
    exact hel i _ t' C oC m₃ h tk E' off hi (by omega) F' N' l hNs ma hoff
/-- over a range: the elements are plain values -/
theorem range_vals {r : Addr} {a b : Int} {t u v : Tok} {n : Nat} (hh : A.handled = none) (F : Fr h₀ L s.heap m) (N : News h₀ L s.heap news) (hr : IsRange s.heap r a b 1 t u v) (hsmall : Builtin.Range.small a b 1 = true) (hsz : Builtin.Range.rangeSize a b 1 = (n : Int)) (hn : n ≤ sizeLine)
    (G : Nat → Value → Prop)
    (hel : ∀ i k t C oC m₃ h tk E', i < n → k = a + (i : Int) → Fr h₀ L h m → News h₀ L h ((C, oC) :: news) → (∀ p ∈ news, p.1 < C) → NsObj oC m₃ → m₃ x = some (.int k t) →
      wpAny (model prog w) A (eval elt (compEnvC scope cl C env)) (fun v s₄ => Hold (G i v ∧ Keeps { s with heap := h, toks := tk } s₄)) E' { s with heap := h, toks := tk })
    (hfin : FinOk RR h₀ L m news s n G) :
    wpAny (model prog w) A (pyIter (.ref r)) (fun it s₂ => ∃ I fp wr n P St G, it = .ref I ∧ OneSrc prog w A env elt x px scope cl RR s₂ I fp wr n P St G) E s :=
  range_core hh F N hr hsmall hsz hn (fun i v _ _ => G i v) (fun _ _ _ _ _ h _ => h) (fun i k t C oC m₃ h tk E' _ hi hk F' N' l hNs ma _ => hel i k t C oC m₃ h tk E' hi hk F' N' l hNs ma) (FinOk1.of hfin)
/-- over a range: the elements are new things -/
theorem range_objsA {z : Str} {pz : Pos} {QN : Shared → Prop} {r : Addr} {a b : Int} {t u v : Tok} {n : Nat} (hh : A.handled = none) (F : Fr h₀ L s.heap m) (N : News h₀ L s.heap news) (hr : IsRange s.heap r a b 1 t u v) (hsmall : Builtin.Range.small a b 1 = true) (hsz : Builtin.Range.rangeSize a b 1 = (n : Int)) (hn : n ≤ sizeLine)
    (hLe : env.locals = L) (hz : env.kindOf z = some .local) (hkk : (env.scope.kind == .class || (env.scope.kind == .module && env.locals != env.globals)) = false) (G : Nat → Obj → Prop)
    (hel : ∀ i k t C oC m₃ h tk E', i < n → k = a + (i : Int) → Fr h₀ L h m → News h₀ L h ((C, oC) :: news) → (∀ p ∈ news, p.1 < C) → NsObj oC m₃ → m₃ x = some (.int k t) →
      wpAny (model prog w) A (eval elt (compEnvC scope cl C env)) (fun v s₄ => Hold ((∃ d o, v = .ref d ∧ h.get? d = none ∧ s₄.heap.get? d = some o ∧ G i o) ∧ Keeps { s with heap := h, toks := tk } s₄)) E' { s with heap := h, toks := tk })
    (hfin : ∀ D ds h tk, Fr h₀ L h (fun y => if y = z then some (.ref D) else m y) → News h₀ L h ((D, lst (ds.map fun p => .ref p.1)) :: news) → News h₀ L h ds → (∀ p ∈ news, p.1 < D) → ds.length = n → (∀ i p, ds[i]? = some p → G i p.2) → QN { s with heap := h, toks := tk }) :
    wpAny (model prog w) A (pyIter (.ref r)) (fun it s₂ => ∃ I fp wr n P St G, it = .ref I ∧ OneSrc prog w A env elt x px scope cl (compPost (model prog w) A E (some (assign (.Name z pz) env)) (fun _ s' => QN s')) s₂ I fp wr n P St G) E s := by
  refine range_core hh F N hr hsmall hsz hn (fun i v h off => ∃ d o, v = .ref d ∧ d ∉ off ∧ h₀.get? d = none ∧ d ≠ L ∧ h.get? d = some o ∧ G i o) ?_ ?_ (FinOk1.assign hLe hz hkk ?_ ?_)
  · rintro i v h h' off ⟨d, o, rfl, hd, h1, h2, h3, h4⟩ hk
    exact ⟨d, o, rfl, hd, h1, h2, hk d o hd h3, h4⟩
  · intro i k t' C oC m₃ h tk E' off hi hk F' N' l hNs ma hoff
    refine wpAny_mono (hel i k t' C oC m₃ h tk E' hi hk F' N' l hNs ma) (fun v s₄ h₄ => ?_) fun _ _ e => e
    obtain ⟨⟨d, o, rfl, hd, hg, hG⟩, hK⟩ := h₄
    refine ⟨⟨d, o, rfl, fun hm => ?_, ?_, fun e => ?_, hg, hG⟩, hK⟩
    · obtain ⟨o', ho'⟩ := hoff d hm; rw [hd] at ho'; cases ho'
    · cases e : h₀.get? d with
      | none => rfl
      | some o' => have := F'.keep _ _ e; rw [hd] at this; cases this
    · obtain ⟨o', _, _, ho', _⟩ := F'.ns
      rw [← e, hd] at ho'; cases ho'
  · rintro i v h h' off ⟨d, o, rfl, hd, h1, h2, h3, h4⟩ hk
    exact ⟨d, o, rfl, hd, h1, h2, hk d o hd h2 h3, h4⟩
  · intro D ys h tk off F' N' l hy hG
    have : ∃ ds : List (Addr × Obj), ys = ds.map (fun p => Value.ref p.1) ∧ News h₀ L h ds ∧ ∀ i p, ds[i]? = some p → G i p.2 := by
      clear hfin hel hy N'
      clear hsz
      have gen : ∀ (ys : List Value) (j : Nat), (∀ i v, ys[i]? = some v → ∃ d o, v = .ref d ∧ d ∉ off ∧ h₀.get? d = none ∧ d ≠ L ∧ h.get? d = some o ∧ G (j + i) o) →
          ∃ ds : List (Addr × Obj), ys = ds.map (fun p => Value.ref p.1) ∧ News h₀ L h ds ∧ ∀ i p, ds[i]? = some p → G (j + i) p.2 := by
        intro ys
        induction ys with
        | nil => intro j _; exact ⟨[], rfl, News.nil, fun i p e => by simp at e⟩
        | cons y r ih =>
          intro j hG
          obtain ⟨d, o, rfl, _, h1, h2, h3, h4⟩ := hG 0 y rfl
          obtain ⟨ds, rfl, hN, hds⟩ := ih (j + 1) fun i v hv => by
            obtain ⟨d, o, a1, a2, a3, a4, a5, a6⟩ := hG (i + 1) v (by simpa using hv)
            exact ⟨d, o, a1, a2, a3, a4, a5, by rw [show j + 1 + i = j + (i + 1) by omega]; exact a6⟩
          refine ⟨(d, o) :: ds, rfl, fun p hp => ?_, fun i p e => ?_⟩
          · rcases List.mem_cons.mp hp with rfl | hp
            · exact ⟨h3, h2, h1⟩
            · exact hN p hp
          · cases i with
            | zero => cases e; exact h4
            | succ i => rw [show j + (i + 1) = j + 1 + i by omega]; exact hds i p (by simpa using e)
      obtain ⟨ds, e, hN, hds⟩ := gen ys 0 fun i v hv => by rw [Nat.zero_add]; exact hG i v hv
      exact ⟨ds, e, hN, fun i p hp => by have := hds i p hp; rwa [Nat.zero_add] at this⟩
    obtain ⟨ds, rfl, hN, hds⟩ := this
    exact hfin D ds h tk F' N' hN l (by simpa using hy) hds
end
section
variable {prog : Program} {w : World} {A : Around} {E : Value → Shared → Prop} {s : Shared} {env : Env} {h₀ : Heap} {target : Expr} {body orelse : List Stmt} {Q : Flow → Shared → Prop} {m : Str → Option Value} {news : List (Addr × Obj)}
/-- over a range by any step -/
theorem iter_rangeC {x : Str} {px : Pos} {r : Addr} {a b c : Int} {t u v : Tok} {n : Nat} (hh : A.handled = none) (hr : IsRange s.heap r a b c t u v) (hsmall : Builtin.Range.small a b c = true) (hsz : Builtin.Range.rangeSize a b c = (n : Int))
    (F : Fr h₀ env.locals s.heap m) (N : News h₀ env.locals s.heap news)
    (J : Nat → (Str → Option Value) → List (Addr × Obj) → Prop) (h0 : J 0 m news)
    (step : ∀ i k t₁ m₁ news₁ h₁ tk₁ I o, i < n → k = a + (i : Int) * c → J i m₁ news₁ → (∀ p ∈ news₁, p.1 ≠ I) → Fr h₀ env.locals h₁ m₁ → News h₀ env.locals h₁ ((I, o) :: news₁) → (∀ p ∈ news, p.1 < I) →
      wpAny (model prog w) A (assign (.Name x px) env (.int k t₁)) (fun _ s₂ => wpAny (model prog w) A (execs body env)
        (StepPost h₀ env.locals [I] [(I, o)] s (J (i + 1)) Q) E s₂) E { s with heap := h₁, toks := tk₁ })
    (done : ∀ h' tk m' news', Fr h₀ env.locals h' m' → News h₀ env.locals h' news' → J n m' news' → wpAny (model prog w) A (execs orelse env) Q E { s with heap := h', toks := tk })
    (hE : PassesOwn (model prog w) A env E) :
    wpAny (model prog w) A (pyIter (.ref r)) (fun it s₂ => codeAny (model prog w) A (.forLoop (.Name x px) it body orelse env) (LoopR prog w A env Q E) s₂) E s := by
  have hLs : env.locals < s.heap.objs.size := F.ns.lt
  refine wpAny_pyIter_range hr hsmall ?_
  refine my_loop (s := { s with heap := s.heap.push _ }) (ws := [s.heap.objs.size]) (KTurns.ofWalks (Walks.range hh s.heap.objs.size a c n) fun i v s Q E st q => wpAny_pure q) ?_ ?_ ?_ ?_ ?_ ?_ (F.push _) (fun p hp => ⟨Heap.get?_push_of_some _ (N p hp).1, (N p hp).2⟩) J h0 ?_ ?_ hE
  · intro b hb
    exact .inl hb
  · intro b hb; exact hb
  · intro b hb
    have hb' : b = s.heap.objs.size := by simpa using hb
    subst hb'
    exact ⟨base_new F (Nat.le_refl _), Nat.ne_of_gt hLs⟩
  · intro i h hst b hb
    have hb' : b = s.heap.objs.size := by simpa using hb
    subst hb'
    exact ⟨_, hst⟩
  · intro p hp hI
    have hb' : p.1 = s.heap.objs.size := by simpa using hI
    exact absurd (Heap.lt_size (N p hp).1) (hb' ▸ Nat.lt_irrefl _)
  · rw [hsz]
    show IsRangeIter _ _ (a + ((0 : Nat) : Int) * c) ((n : Int) - ((0 : Nat) : Int)) c
    have e1 : a + ((0 : Nat) : Int) * c = a := by simp
    have e2 : (n : Int) - ((0 : Nat) : Int) = n := by omega
    rw [e1, e2]
    exact Heap.get?_push_size _ rfl
  · intro i v m₁ news₁ h₁ tk₁ its hi hP hJ hoff hits F₁ N₁
    obtain ⟨o, rfl⟩ := one_of hits
    obtain ⟨t₁, rfl⟩ := hP
    exact step i _ t₁ m₁ news₁ h₁ tk₁ _ o hi rfl hJ (fun p hp e => hoff p hp (by simp [e])) F₁ N₁ fun p hp => Heap.lt_size (N p hp).1
  · intro h' tk m' news' F' N' _ hJ
    exact done h' tk m' news' F' N' hJ
end
end Mine
namespace Mine
open PyProof.Rows.LCg
open PySem.SeqAt
section
variable {prog : Program} {w : World} {A : Around} {E : Value → Shared → Prop} {s : Shared} {l b : Addr} {xs ys : List Value} {Q : Value → Shared → Prop}
theorem ne_lists_same (hl : s.heap.IsList l xs.toArray) (hb : s.heap.IsList b ys.toArray) (hlen : xs.length = ys.length) (hu : A.units < cLine) (he : ∀ (j : Nat) x y, xs[j]? = some x → ys[j]? = some y → EqAt A.in1 s x y true)
    (h : Q (.bool false) s) : wpAny (model prog w) A (compareOp .NotEq (.ref l) (.ref b)) Q E s := by
  refine RcNeAt.lists (e := fun _ => true) hl hb (by simpa using hlen) hu (fun j h1 h2 => he j _ _ ?_ ?_) prog w E Q ?_
  · simp at h1; simp [h1]
  · simp at h2; simp [h2]
  · have e : (List.range xs.toArray.size).all (fun _ => true) = true := List.all_eq_true.mpr fun _ _ => rfl
    rw [e]; exact h
theorem ne_strs {ss : List Str} (hl : s.heap.IsList l xs.toArray) (hb : s.heap.IsList b ys.toArray) (hx : StrsAre xs ss) (hy : StrsAre ys ss) (hu : A.units < cLine)
    (h : Q (.bool false) s) : wpAny (model prog w) A (compareOp .NotEq (.ref l) (.ref b)) Q E s := by
  refine ne_lists_same hl hb (by rw [hx.length, hy.length]) hu (fun j x y e1 e2 => ?_) h
  have hj : j < ss.length := by rw [← hx.length]; exact (List.getElem?_eq_some_iff.mp e1).1
  obtain ⟨t, ht⟩ := hx.get j (ss[j]'hj) (List.getElem?_eq_getElem hj)
  obtain ⟨u, hu'⟩ := hy.get j (ss[j]'hj) (List.getElem?_eq_getElem hj)
  rw [e1] at ht; rw [e2] at hu'
  cases ht; cases hu'
  have := EqAt.str_str (A := A.in1) (s := s) (ss[j]'hj) t (ss[j]'hj) u
  simpa using this
theorem in_bools {bs : List Bool} {a : Bool} (hl : s.heap.IsList l xs.toArray) (hx : xs = bs.map Value.bool) (h : Q (.bool (bs.any (· == a))) s) : wpAny (model prog w) A (compareOp .In (.bool a) (.ref l)) Q E s := by
  subst hx
  refine in_listAt (fun v => match v with | .bool b => b == a | _ => false) hl (fun y hy => ?_) ?_
  · obtain ⟨c, _, rfl⟩ : ∃ c ∈ bs, Value.bool c = y := by simpa using hy
    exact EqAt.bool_bool c a
  · have : (List.toArray (bs.map Value.bool)).any (fun v => match v with | .bool b => b == a | _ => false) = bs.any (· == a) := by
      rw [List.any_toArray, List.any_map]; rfl
    rw [this]; exact h
end
end Mine
namespace Mine
theorem nat_and_half (m n : Nat) : m &&& n = 2 * (m / 2 &&& n / 2) + (m % 2) * (n % 2) := by
  have h1 : (m &&& n) / 2 = m / 2 &&& n / 2 := by simpa using Nat.and_div_two_pow (a := m) (b := n) (n := 1)
  have h2 : (m &&& n) % 2 = (m % 2) * (n % 2) := by
    have := Nat.and_mod_two_pow (a := m) (b := n) (n := 1)
    simp only [Nat.pow_one] at this
    rw [this]
    rcases Nat.mod_two_eq_zero_or_one m with p | p <;> rcases Nat.mod_two_eq_zero_or_one n with q | q <;> rw [p, q] <;> rfl
  have h3 := Nat.div_add_mod (m &&& n) 2
  rw [h1, h2] at h3
  omega
theorem nat_or_half (m n : Nat) : m ||| n = 2 * (m / 2 ||| n / 2) + (m % 2 + n % 2 - (m % 2) * (n % 2)) := by
  have h1 : (m ||| n) / 2 = m / 2 ||| n / 2 := by simpa using Nat.or_div_two_pow (a := m) (b := n) (n := 1)
  have h2 : (m ||| n) % 2 = m % 2 + n % 2 - (m % 2) * (n % 2) := by
    have := Nat.or_mod_two_pow (a := m) (b := n) (n := 1)
    simp only [Nat.pow_one] at this
    rw [this]
    rcases Nat.mod_two_eq_zero_or_one m with p | p <;> rcases Nat.mod_two_eq_zero_or_one n with q | q <;> rw [p, q] <;> rfl
  have h3 := Nat.div_add_mod (m ||| n) 2
  rw [h1, h2] at h3
  omega
theorem neg_form {x : Int} (h : ¬ 0 ≤ x) : ∃ n : Nat, x = -((n : Int) + 1) := ⟨(-x - 1).toNat, by omega⟩
theorem and_half (x y : Int) : Builtin.bitAnd x y = 2 * Builtin.bitAnd (x / 2) (y / 2) + (x % 2) * (y % 2) := by
  by_cases hx : 0 ≤ x
  · obtain ⟨m, rfl⟩ := Int.eq_ofNat_of_zero_le hx
    by_cases hy : 0 ≤ y
    · obtain ⟨n, rfl⟩ := Int.eq_ofNat_of_zero_le hy
      rw [bitAnd_pp hx hy, bitAnd_pp (by omega) (by omega), Int.toNat_natCast, Int.toNat_natCast, show ((m : Int) / 2).toNat = m / 2 by omega, show ((n : Int) / 2).toNat = n / 2 by omega, nat_and_half m n]
      push_cast; rfl
    · obtain ⟨n, rfl⟩ := neg_form hy
      have e1 : (Builtin.bitNot (-((n : Int) + 1))).toNat = n := by unfold Builtin.bitNot; omega
      have e2 : (Builtin.bitNot (-((n : Int) + 1) / 2)).toNat = n / 2 := by unfold Builtin.bitNot; omega
      rw [bitAnd_pn hx hy, bitAnd_pn (by omega) (by omega), e1, e2, Int.toNat_natCast, show ((m : Int) / 2).toNat = m / 2 by omega, nat_and_half m n]
      generalize m / 2 &&& n / 2 = q
      have r1 : (-((n : Int) + 1)) % 2 = 1 - ((n % 2 : Nat) : Int) := by omega
      rw [r1]
      rcases Nat.mod_two_eq_zero_or_one m with p | p <;> rcases Nat.mod_two_eq_zero_or_one n with p' | p' <;> rw [p, p'] <;> push_cast <;> omega
  · obtain ⟨m, rfl⟩ := neg_form hx
    have a1 : (Builtin.bitNot (-((m : Int) + 1))).toNat = m := by unfold Builtin.bitNot; omega
    have a2 : (Builtin.bitNot (-((m : Int) + 1) / 2)).toNat = m / 2 := by unfold Builtin.bitNot; omega
    have r0 : (-((m : Int) + 1)) % 2 = 1 - ((m % 2 : Nat) : Int) := by omega
    by_cases hy : 0 ≤ y
    · obtain ⟨n, rfl⟩ := Int.eq_ofNat_of_zero_le hy
      rw [bitAnd_np hx hy, bitAnd_np (by omega) (by omega), a1, a2, Int.toNat_natCast, show ((n : Int) / 2).toNat = n / 2 by omega, nat_and_half n m, r0]
      generalize n / 2 &&& m / 2 = q
      rcases Nat.mod_two_eq_zero_or_one m with p | p <;> rcases Nat.mod_two_eq_zero_or_one n with p' | p' <;> rw [p, p'] <;> push_cast <;> omega
    · obtain ⟨n, rfl⟩ := neg_form hy
      have e1 : (Builtin.bitNot (-((n : Int) + 1))).toNat = n := by unfold Builtin.bitNot; omega
      have e2 : (Builtin.bitNot (-((n : Int) + 1) / 2)).toNat = n / 2 := by unfold Builtin.bitNot; omega
      have r1 : (-((n : Int) + 1)) % 2 = 1 - ((n % 2 : Nat) : Int) := by omega
      rw [bitAnd_nn hx hy, bitAnd_nn (by omega) (by omega), a1, a2, e1, e2, nat_or_half m n, r0, r1]
      generalize m / 2 ||| n / 2 = q
      unfold Builtin.bitNot
      rcases Nat.mod_two_eq_zero_or_one m with p | p <;> rcases Nat.mod_two_eq_zero_or_one n with p' | p' <;> rw [p, p'] <;> simp <;> omega
theorem prod01 {p q : Int} (hp : p = 0 ∨ p = 1) (hq : q = 0 ∨ q = 1) : 0 ≤ p * q ∧ p * q ≤ 1 := by
  rcases hp with rfl | rfl <;> rcases hq with rfl | rfl <;> decide
theorem mod01 (x : Int) : x % 2 = 0 ∨ x % 2 = 1 := by omega
theorem pow_half (x : Int) (k : Nat) : x / ((2 ^ (k + 1) : Nat) : Int) = x / 2 / ((2 ^ k : Nat) : Int) := by
  rw [Int.ediv_ediv_of_nonneg (by decide)]
  congr 1
  rw [Nat.pow_succ]; push_cast; rw [Int.mul_comm]
theorem and_bit (k : Nat) : ∀ x y : Int, Builtin.bitAnd x y / ((2 ^ k : Nat) : Int) % 2 = (x / ((2 ^ k : Nat) : Int) % 2) * (y / ((2 ^ k : Nat) : Int) % 2) := by
  induction k with
  | zero =>
    intro x y
    have h := and_half x y
    have hp := prod01 (mod01 x) (mod01 y)
    simp only [Nat.pow_zero, Int.natCast_one, Int.ediv_one]
    generalize (x % 2) * (y % 2) = p at *
    omega
  | succ k ih =>
    intro x y
    have h := and_half x y
    have hp := prod01 (mod01 x) (mod01 y)
    have e : Builtin.bitAnd x y / 2 = Builtin.bitAnd (x / 2) (y / 2) := by
      generalize (x % 2) * (y % 2) = p at *
      omega
    rw [pow_half, pow_half, pow_half, e, ih]
theorem not_bit (k : Nat) : ∀ x : Int, Builtin.bitNot x / ((2 ^ k : Nat) : Int) % 2 = 1 - x / ((2 ^ k : Nat) : Int) % 2 := by
  induction k with
  | zero => intro x; simp only [Nat.pow_zero, Int.natCast_one, Int.ediv_one]; unfold Builtin.bitNot; omega
  | succ k ih =>
    intro x
    have e : Builtin.bitNot x / 2 = Builtin.bitNot (x / 2) := by unfold Builtin.bitNot; omega
    rw [pow_half, pow_half, e, ih]
theorem or_bit (k : Nat) (x y : Int) : Builtin.bitOr x y / ((2 ^ k : Nat) : Int) % 2 = 1 - (1 - x / ((2 ^ k : Nat) : Int) % 2) * (1 - y / ((2 ^ k : Nat) : Int) % 2) := by
  unfold Builtin.bitOr
  rw [not_bit, and_bit, not_bit, not_bit]
theorem xor_half (x y : Int) : Builtin.bitXor x y = 2 * Builtin.bitXor (x / 2) (y / 2) + (x % 2 + y % 2 - 2 * ((x % 2) * (y % 2))) := by
  rw [bitXor_and, bitXor_and, and_half x y]
  generalize (x % 2) * (y % 2) = p at *
  omega
theorem xor_bit (k : Nat) : ∀ x y : Int, Builtin.bitXor x y / ((2 ^ k : Nat) : Int) % 2 = x / ((2 ^ k : Nat) : Int) % 2 + y / ((2 ^ k : Nat) : Int) % 2 - 2 * ((x / ((2 ^ k : Nat) : Int) % 2) * (y / ((2 ^ k : Nat) : Int) % 2)) := by
  induction k with
  | zero =>
    intro x y
    have h := xor_half x y
    simp only [Nat.pow_zero, Int.natCast_one, Int.ediv_one]
    rcases mod01 x with p | p <;> rcases mod01 y with q | q <;> rw [p, q] at h ⊢ <;> omega
  | succ k ih =>
    intro x y
    have h := xor_half x y
    have e : Builtin.bitXor x y / 2 = Builtin.bitXor (x / 2) (y / 2) := by
      rcases mod01 x with p | p <;> rcases mod01 y with q | q <;> rw [p, q] at h <;> omega
    rw [pow_half, pow_half, pow_half, e, ih]
def bitI (M : Int) (k : Nat) : Int := M / ((2 ^ k : Nat) : Int) % 2
theorem bit01 (M : Int) (k : Nat) : bitI M k = 0 ∨ bitI M k = 1 := mod01 _
def valB (M : Int) : Nat → Int
  | 0 => bitI M 8
  | 1 => bitI M 7
  | 2 => bitI M 6 + 2 * bitI M 11
  | 3 => bitI M 5
  | 4 => bitI M 4
  | 5 => bitI M 3 + 2 * bitI M 10
  | 6 => bitI M 2
  | 7 => bitI M 1
  | 8 => bitI M 0 + 2 * bitI M 9
  | _ => 0
def tabsL : List Str := [Str.ofString "-r", Str.ofString "-w", Str.ofString "-xSs", Str.ofString "-r", Str.ofString "-w", Str.ofString "-xSs", Str.ofString "-r", Str.ofString "-w", Str.ofString "-xTt"]
def valsL (M : Int) : List Int := (List.range 9).map (valB M)
theorem nine {P : Nat → Prop} (h0 : P 0) (h1 : P 1) (h2 : P 2) (h3 : P 3) (h4 : P 4) (h5 : P 5) (h6 : P 6) (h7 : P 7) (h8 : P 8) : ∀ i, i < 9 → P i := by
  intro i hi
  match i, hi with
  | 0, _ => exact h0
  | 1, _ => exact h1
  | 2, _ => exact h2
  | 3, _ => exact h3
  | 4, _ => exact h4
  | 5, _ => exact h5
  | 6, _ => exact h6
  | 7, _ => exact h7
  | 8, _ => exact h8
theorem one_or {p q : Int} (hp : p = 0 ∨ p = 1) (hq : q = 0 ∨ q = 1) : 1 - (1 - p) * (1 - q) = Builtin.bitOr p q := by rcases hp with rfl | rfl <;> rcases hq with rfl | rfl <;> decide
theorem two_or {p q r t : Int} (hp : p = 0 ∨ p = 1) (hq : q = 0 ∨ q = 1) (hr : r = 0 ∨ r = 1) (ht : t = 0 ∨ t = 1) : (1 - (1 - p) * (1 - q)) + 2 * (1 - (1 - r) * (1 - t)) = Builtin.bitOr (p + 2 * r) (q + 2 * t) := by
  rcases hp with rfl | rfl <;> rcases hq with rfl | rfl <;> rcases hr with rfl | rfl <;> rcases ht with rfl | rfl <;> decide
theorem one_and {p q : Int} (hp : p = 0 ∨ p = 1) (hq : q = 0 ∨ q = 1) : p * q = Builtin.bitAnd p q := by rcases hp with rfl | rfl <;> rcases hq with rfl | rfl <;> decide
theorem two_and {p q r t : Int} (hp : p = 0 ∨ p = 1) (hq : q = 0 ∨ q = 1) (hr : r = 0 ∨ r = 1) (ht : t = 0 ∨ t = 1) : p * q + 2 * (r * t) = Builtin.bitAnd (p + 2 * r) (q + 2 * t) := by
  rcases hp with rfl | rfl <;> rcases hq with rfl | rfl <;> rcases hr with rfl | rfl <;> rcases ht with rfl | rfl <;> decide
theorem one_xor {p q : Int} (hp : p = 0 ∨ p = 1) (hq : q = 0 ∨ q = 1) : p + q - 2 * (p * q) = Builtin.bitXor p q := by rcases hp with rfl | rfl <;> rcases hq with rfl | rfl <;> decide
theorem two_xor {p q r t : Int} (hp : p = 0 ∨ p = 1) (hq : q = 0 ∨ q = 1) (hr : r = 0 ∨ r = 1) (ht : t = 0 ∨ t = 1) : (p + q - 2 * (p * q)) + 2 * (r + t - 2 * (r * t)) = Builtin.bitXor (p + 2 * r) (q + 2 * t) := by
  rcases hp with rfl | rfl <;> rcases hq with rfl | rfl <;> rcases hr with rfl | rfl <;> rcases ht with rfl | rfl <;> decide
theorem one_sub {p q : Int} (hp : p = 0 ∨ p = 1) (hq : q = 0 ∨ q = 1) : p * (1 - q) = p - Builtin.bitAnd p q := by rcases hp with rfl | rfl <;> rcases hq with rfl | rfl <;> decide
theorem two_sub {p q r t : Int} (hp : p = 0 ∨ p = 1) (hq : q = 0 ∨ q = 1) (hr : r = 0 ∨ r = 1) (ht : t = 0 ∨ t = 1) : p * (1 - q) + 2 * (r * (1 - t)) = (p + 2 * r) - Builtin.bitAnd (p + 2 * r) (q + 2 * t) := by
  rcases hp with rfl | rfl <;> rcases hq with rfl | rfl <;> rcases hr with rfl | rfl <;> rcases ht with rfl | rfl <;> decide
theorem bitI_or (x y : Int) (k : Nat) : bitI (Builtin.bitOr x y) k = 1 - (1 - bitI x k) * (1 - bitI y k) := or_bit k x y
theorem bitI_and (x y : Int) (k : Nat) : bitI (Builtin.bitAnd x y) k = bitI x k * bitI y k := and_bit k x y
theorem bitI_xor (x y : Int) (k : Nat) : bitI (Builtin.bitXor x y) k = bitI x k + bitI y k - 2 * (bitI x k * bitI y k) := xor_bit k x y
theorem bitI_not (x : Int) (k : Nat) : bitI (Builtin.bitNot x) k = 1 - bitI x k := not_bit k x
theorem valB_or (x y : Int) : ∀ i, i < 9 → valB (Builtin.bitOr x y) i = Builtin.bitOr (valB x i) (valB y i) := by
  refine nine ?_ ?_ ?_ ?_ ?_ ?_ ?_ ?_ ?_ <;> simp only [valB, bitI_or] <;> first | exact one_or (bit01 _ _) (bit01 _ _) | exact two_or (bit01 _ _) (bit01 _ _) (bit01 _ _) (bit01 _ _)
theorem valB_and (x y : Int) : ∀ i, i < 9 → valB (Builtin.bitAnd x y) i = Builtin.bitAnd (valB x i) (valB y i) := by
  refine nine ?_ ?_ ?_ ?_ ?_ ?_ ?_ ?_ ?_ <;> simp only [valB, bitI_and] <;> first | exact one_and (bit01 _ _) (bit01 _ _) | exact two_and (bit01 _ _) (bit01 _ _) (bit01 _ _) (bit01 _ _)
theorem valB_xor (x y : Int) : ∀ i, i < 9 → valB (Builtin.bitXor x y) i = Builtin.bitXor (valB x i) (valB y i) := by
  refine nine ?_ ?_ ?_ ?_ ?_ ?_ ?_ ?_ ?_ <;> simp only [valB, bitI_xor] <;> first | exact one_xor (bit01 _ _) (bit01 _ _) | exact two_xor (bit01 _ _) (bit01 _ _) (bit01 _ _) (bit01 _ _)
theorem valB_sub (x y : Int) : ∀ i, i < 9 → valB (Builtin.bitAnd x (Builtin.bitNot y)) i = valB x i - Builtin.bitAnd (valB x i) (valB y i) := by
  refine nine ?_ ?_ ?_ ?_ ?_ ?_ ?_ ?_ ?_ <;> simp only [valB, bitI_and, bitI_not] <;> first | exact one_sub (bit01 _ _) (bit01 _ _) | exact two_sub (bit01 _ _) (bit01 _ _) (bit01 _ _) (bit01 _ _)
theorem valB_not (x : Int) : ∀ i, i < 9 → valB (Builtin.bitNot x) i = ((tabsL.getD i (Str.ofString "")).length : Int) - 1 - valB x i := by
  refine nine ?_ ?_ ?_ ?_ ?_ ?_ ?_ ?_ ?_ <;> simp only [valB, bitI_not]
  · show _ = (2 : Int) - 1 - _; omega
  · show _ = (2 : Int) - 1 - _; omega
  · show _ = (4 : Int) - 1 - _; omega
  · show _ = (2 : Int) - 1 - _; omega
  · show _ = (2 : Int) - 1 - _; omega
  · show _ = (4 : Int) - 1 - _; omega
  · show _ = (2 : Int) - 1 - _; omega
  · show _ = (2 : Int) - 1 - _; omega
  · show _ = (4 : Int) - 1 - _; omega
theorem bitI_at {M v b : Int} {k : Nat} (h : M / v % 2 = b) (e : ((2 ^ k : Nat) : Int) = v) : bitI M k = b := by unfold bitI; rw [e]; exact h
theorem find_one {b : Int} {c x : Str} (hb : b = 0 ∨ b = 1) (h0 : Txt.find x (Str.ofString "-") = 0) (h1 : Txt.find x c = 1) : Txt.find x (oneSign b c) = b := by
  rcases hb with rfl | rfl
  · simpa [oneSign] using h0
  · simpa [oneSign] using h1
theorem find_end {b a : Int} {c1 c2 x : Str} (hb : b = 0 ∨ b = 1) (ha : a = 0 ∨ a = 1) (h0 : Txt.find x (Str.ofString "-") = 0) (h1 : Txt.find x (Str.ofString "x") = 1) (h2 : Txt.find x c2 = 2) (h3 : Txt.find x c1 = 3) : Txt.find x (endSign b a c1 c2) = b + 2 * a := by
  rcases hb with rfl | rfl <;> rcases ha with rfl | rfl
  · simpa [endSign] using h0
  · simpa [endSign] using h2
  · simpa [endSign] using h1
  · simpa [endSign] using h3
theorem find_val (M : Int) : ∀ i, i < 9 → Txt.find (tabsL.getD i (Str.ofString "")) (fmSign M (i + 1)) = valB M i := by
  refine nine ?_ ?_ ?_ ?_ ?_ ?_ ?_ ?_ ?_
  · rw [sign1]; exact find_one (bit01 M 8) (by decide +kernel) (by decide +kernel)
  · rw [sign2]; exact find_one (bit01 M 7) (by decide +kernel) (by decide +kernel)
  · rw [sign3]; exact find_end (bit01 M 6) (bit01 M 11) (by decide +kernel) (by decide +kernel) (by decide +kernel) (by decide +kernel)
  · rw [sign4]; exact find_one (bit01 M 5) (by decide +kernel) (by decide +kernel)
  · rw [sign5]; exact find_one (bit01 M 4) (by decide +kernel) (by decide +kernel)
  · rw [sign6]; exact find_end (bit01 M 3) (bit01 M 10) (by decide +kernel) (by decide +kernel) (by decide +kernel) (by decide +kernel)
  · rw [sign7]; exact find_one (bit01 M 2) (by decide +kernel) (by decide +kernel)
  · rw [sign8]; exact find_one (bit01 M 1) (by decide +kernel) (by decide +kernel)
  · rw [sign9]; exact find_end (bit01 M 0) (bit01 M 9) (by decide +kernel) (by decide +kernel) (by decide +kernel) (by decide +kernel)
theorem item_one {b : Int} {c x : Str} (hb : b = 0 ∨ b = 1) (h0 : Txt.item x 0 = Str.ofString "-") (h1 : Txt.item x 1 = c) : Txt.item x b = oneSign b c := by
  rcases hb with rfl | rfl
  · simpa [oneSign] using h0
  · simpa [oneSign] using h1
theorem item_end {b a : Int} {c1 c2 x : Str} (hb : b = 0 ∨ b = 1) (ha : a = 0 ∨ a = 1) (h0 : Txt.item x 0 = Str.ofString "-") (h1 : Txt.item x 1 = Str.ofString "x") (h2 : Txt.item x 2 = c2) (h3 : Txt.item x 3 = c1) : Txt.item x (b + 2 * a) = endSign b a c1 c2 := by
  rcases hb with rfl | rfl <;> rcases ha with rfl | rfl
  · simpa [endSign] using h0
  · simpa [endSign] using h2
  · simpa [endSign] using h1
  · simpa [endSign] using h3
theorem item_val (M : Int) : ∀ i, i < 9 → Txt.item (tabsL.getD i (Str.ofString "")) (valB M i) = fmSign M (i + 1) := by
  refine nine ?_ ?_ ?_ ?_ ?_ ?_ ?_ ?_ ?_
  · rw [sign1]; exact item_one (bit01 M 8) (by decide +kernel) (by decide +kernel)
  · rw [sign2]; exact item_one (bit01 M 7) (by decide +kernel) (by decide +kernel)
  · rw [sign3]; exact item_end (bit01 M 6) (bit01 M 11) (by decide +kernel) (by decide +kernel) (by decide +kernel) (by decide +kernel)
  · rw [sign4]; exact item_one (bit01 M 5) (by decide +kernel) (by decide +kernel)
  · rw [sign5]; exact item_one (bit01 M 4) (by decide +kernel) (by decide +kernel)
  · rw [sign6]; exact item_end (bit01 M 3) (bit01 M 10) (by decide +kernel) (by decide +kernel) (by decide +kernel) (by decide +kernel)
  · rw [sign7]; exact item_one (bit01 M 2) (by decide +kernel) (by decide +kernel)
  · rw [sign8]; exact item_one (bit01 M 1) (by decide +kernel) (by decide +kernel)
  · rw [sign9]; exact item_end (bit01 M 0) (bit01 M 9) (by decide +kernel) (by decide +kernel) (by decide +kernel) (by decide +kernel)
theorem valB_range (M : Int) : ∀ i, i < 9 → 0 ≤ valB M i ∧ valB M i < ((tabsL.getD i (Str.ofString "")).length : Int) := by
  have b := fun k => bit01 M k
  refine nine ?_ ?_ ?_ ?_ ?_ ?_ ?_ ?_ ?_
  · show 0 ≤ bitI M 8 ∧ bitI M 8 < 2; have := b 8; omega
  · show 0 ≤ bitI M 7 ∧ bitI M 7 < 2; have := b 7; omega
  · show 0 ≤ bitI M 6 + 2 * bitI M 11 ∧ bitI M 6 + 2 * bitI M 11 < 4; have := b 6; have := b 11; omega
  · show 0 ≤ bitI M 5 ∧ bitI M 5 < 2; have := b 5; omega
  · show 0 ≤ bitI M 4 ∧ bitI M 4 < 2; have := b 4; omega
  · show 0 ≤ bitI M 3 + 2 * bitI M 10 ∧ bitI M 3 + 2 * bitI M 10 < 4; have := b 3; have := b 10; omega
  · show 0 ≤ bitI M 2 ∧ bitI M 2 < 2; have := b 2; omega
  · show 0 ≤ bitI M 1 ∧ bitI M 1 < 2; have := b 1; omega
  · show 0 ≤ bitI M 0 + 2 * bitI M 9 ∧ bitI M 0 + 2 * bitI M 9 < 4; have := b 0; have := b 9; omega
/-- one more bit laid over -/
theorem laid_more {a : Int} {j : Nat} (h : bitI a j = 1) : Builtin.bitOr (a % ((2 ^ j : Nat) : Int)) ((2 ^ j : Nat) : Int) = a % ((2 ^ (j + 1) : Nat) : Int) := by
  have hv : (0 : Int) < ((2 ^ j : Nat) : Int) := by have := Nat.two_pow_pos j; omega
  have e2 : ((2 ^ (j + 1) : Nat) : Int) = ((2 ^ j : Nat) : Int) * 2 := by rw [Nat.pow_succ]; push_cast; rfl
  rw [bitOr_and, bitAnd_pow, e2]
  unfold bitI at h
  generalize ((2 ^ j : Nat) : Int) = v at *
  have h1 : a % v / v = 0 := Int.ediv_eq_zero_of_lt (Int.emod_nonneg _ (Int.ne_of_gt hv)) (Int.emod_lt_of_pos _ hv)
  rw [h1]
  have h2 : a % (v * 2) = a % v + v * (a / v % 2) := by
    have d1 := Int.emod_add_mul_ediv a v
    have d2 := Int.emod_add_mul_ediv (a / v) 2
    have hr := Int.emod_nonneg a (Int.ne_of_gt hv)
    have hr' := Int.emod_lt_of_pos a hv
    have e3 : a = (a % v + v * (a / v % 2)) + (v * 2) * (a / v / 2) := by
      rw [Int.mul_assoc, Int.add_assoc, ← Int.mul_add, d2, d1]
    have e4 : a % (v * 2) = (a % v + v * (a / v % 2)) % (v * 2) := by
      conv => lhs; rw [e3]
      rw [Int.add_mul_emod_self_left]
    rw [e4, h, Int.mul_one, Int.emod_eq_of_lt (by omega) (by omega)]
  rw [h2, h]; omega
theorem laid_same {a : Int} {j : Nat} (h : bitI a j = 0) : a % ((2 ^ j : Nat) : Int) = a % ((2 ^ (j + 1) : Nat) : Int) := by
  have hv : (0 : Int) < ((2 ^ j : Nat) : Int) := by have := Nat.two_pow_pos j; omega
  have e2 : ((2 ^ (j + 1) : Nat) : Int) = ((2 ^ j : Nat) : Int) * 2 := by rw [Nat.pow_succ]; push_cast; rfl
  rw [e2]
  unfold bitI at h
  generalize ((2 ^ j : Nat) : Int) = v at *
  have d1 := Int.emod_add_mul_ediv a v
  have d2 := Int.emod_add_mul_ediv (a / v) 2
  have hr := Int.emod_nonneg a (Int.ne_of_gt hv)
  have hr' := Int.emod_lt_of_pos a hv
  have e3 : a = a % v + (v * 2) * (a / v / 2) := by
    have : a / v = 2 * (a / v / 2) := by omega
    rw [Int.mul_assoc, ← this, d1]
  have e4 : a % (v * 2) = a % v % (v * 2) := by
    conv => lhs; rw [e3]
    rw [Int.add_mul_emod_self_left]
  rw [e4, Int.emod_eq_of_lt hr (by omega)]
theorem valB_low (a : Int) : ∀ i, i < 9 → valB (a % ((2 ^ 12 : Nat) : Int)) i = valB a i := by
  have e : ((2 ^ 12 : Nat) : Int) = 4096 := rfl
  rw [e]
  refine nine ?_ ?_ ?_ ?_ ?_ ?_ ?_ ?_ ?_
  · show a % 4096 / 256 % 2 = a / 256 % 2; omega
  · show a % 4096 / 128 % 2 = a / 128 % 2; omega
  · show a % 4096 / 64 % 2 + 2 * (a % 4096 / 2048 % 2) = a / 64 % 2 + 2 * (a / 2048 % 2); omega
  · show a % 4096 / 32 % 2 = a / 32 % 2; omega
  · show a % 4096 / 16 % 2 = a / 16 % 2; omega
  · show a % 4096 / 8 % 2 + 2 * (a % 4096 / 1024 % 2) = a / 8 % 2 + 2 * (a / 1024 % 2); omega
  · show a % 4096 / 4 % 2 = a / 4 % 2; omega
  · show a % 4096 / 2 % 2 = a / 2 % 2; omega
  · show a % 4096 / 1 % 2 + 2 * (a % 4096 / 512 % 2) = a / 1 % 2 + 2 * (a / 512 % 2); omega
end Mine
namespace Mine
open_top hd for PySem.Challenge.rw_dn0160_03
end Mine
namespace Mine
def tabRows : List (Addr × List (Addr × Int × Str)) :=
  [(29, [(22, 40960, Str.ofString "l"), (23, 49152, Str.ofString "s"), (24, 32768, Str.ofString "-"), (25, 24576, Str.ofString "b"), (26, 16384, Str.ofString "d"), (27, 8192, Str.ofString "c"), (28, 4096, Str.ofString "p")]),
   (31, [(30, 256, Str.ofString "r")]), (33, [(32, 128, Str.ofString "w")]), (37, [(34, 2112, Str.ofString "s"), (35, 2048, Str.ofString "S"), (36, 64, Str.ofString "x")]),
   (39, [(38, 32, Str.ofString "r")]), (41, [(40, 16, Str.ofString "w")]), (45, [(42, 1032, Str.ofString "s"), (43, 1024, Str.ofString "S"), (44, 8, Str.ofString "x")]),
   (47, [(46, 4, Str.ofString "r")]), (49, [(48, 2, Str.ofString "w")]), (53, [(50, 513, Str.ofString "t"), (51, 512, Str.ofString "T"), (52, 1, Str.ofString "x")])]
theorem tab_is (w : World) {h : Heap} (X : (hd.heap_39 w.params).In h) : TabIs h 54 tabRows := by
  refine TabIs.of X rfl ?_ rfl
  intro r hr
  simp only [tabRows, List.mem_cons, List.not_mem_nil, or_false] at hr
  rcases hr with rfl | rfl | rfl | rfl | rfl | rfl | rfl | rfl | rfl | rfl
  all_goals
    refine ⟨rfl, ?_⟩
    intro q hq
    simp only [List.mem_cons, List.not_mem_nil, or_false] at hq
    repeat' (first | (rcases hq with rfl | hq) | (subst hq))
    all_goals exact ⟨_, _, rfl⟩
local macro_rules | `(tactic| walk_at "MyEnter") => `(tactic| (k_dflt ((case kA => exact rfl); (case kF => exact rfl); (case kK => assumption); (case ho => k_is); (case hcd => k_is); (case hroom => ktr_room); (case hb => exact BindsTo.of_eq rfl); (case hl => exact locs rfl); (case c1 => exact rfl); (case c2 => exact rfl); (case c3 => exact rfl); (case c4 => decide); k_whole)))
local macro_rules | `(tactic| walk_at "MyOff") => `(tactic| repeat' (first | exact off0 | exact nmem0 | (refine off1 ?_ ?_) | (refine nmem1 (by k_ne) ?_)))
local macro_rules | `(tactic| walk_at "exec For Tuple Call cons nil") => `(tactic| (k_here; (with_reducible refine wpAny_For ?_ ?hs); (case hs => (intro _; rfl))))
local macro_rules | `(tactic| walk_at "exec For Tuple Name cons cons") => `(tactic| (k_here; (with_reducible refine wpAny_For ?_ ?hs); (case hs => (intro _; rfl))))
theorem ifmt_contract {w : World} {p : Program} {loose : List Str} {mean : ExcName → Option Value} {mg mb : Str → Option Value} {x : Int} {tx : Tok}
   {dp un : Nat} {gd : Option (List Code)} {cn : Str} {cs : Scope} {a : Addr} {ccd : Value} {cl : List (Str × Addr)} {outer : List Env} {A₀ : Around} {base h₀ : Heap} {L : Addr} {m : Str → Option Value} {s : Shared} {Q E : Value → Shared → Prop}
    (B : Below A₀ base outer h₀) (F : Fr h₀ L s.heap m) (X : (hd.heap_39 w.params).In h₀) (T : Top p loose mean mg mb h₀) (hcs : cs.kind = .function)
    (hdp : dp + 1 < recursionLimit) (hun : un + 10 < cLine)
    (hret : ∀ (t : Tok) (h' : Heap) (tk' : Nat), (∀ b o, s.heap.get? b = some o → h'.get? b = some o) → Q (.int (Builtin.bitAnd x 61440) t) { s with heap := h', toks := tk' }) :
    wpAny (model PySem.Challenge.rw_dn0160_03.row.prog w) (ktrTop dp un gd cn cs L a ccd cl outer) (call (.ref 21) [.int x tx]) Q E s := by
  w_top off
  revert X; k_fill; intro X
  refine' call_pure B F X T ?kA ?kF ?kK ?ho ?hcd ?hroom ?hb ?hl ?_ ?c1 ?c2 ?c3 ?c4
  walk_at "MyEnter"
  intro L' h₁ F' N' B' X' T'
  clear B F X T
  replace F' : Fr s.heap L' h₁ (fun y => List.lookup y [(Str.ofString "mode", Value.int x tx)]) := F'
  k_steps
  rename Fr _ _ _ _ => F1
  exact hret _ _ _ F1.keep
local macro_rules | `(tactic| walk_at "call ref") => `(tactic| (k_here; (with_reducible show wpAny _ _ (call (Value.ref 21) [Value.int _ _]) _ _ _); k_dflt (refine' ifmt_contract ?k1 ?k2 ?k3 ?k5 ?kK ?kd ?ku ?_; (case k1 => k_asm); (case k2 => k_asm); (case k3 => k_asm); (case k5 => k_asm); (case kK => first | exact rfl | assumption); (case kd => ktr_room); (case ku => ktr_units)); (rename Fr _ _ _ _ => kF9); (rename News _ _ _ _ => kN9); intro t9 h9 tk9 hk9; (have F9 := Fr.keeps kF9 hk9); (have N9 := News.grown kN9 hk9); clear kF9 kN9 hk9; (try dsimp only)))
theorem fm_contract {w : World} {p : Program} {loose : List Str} {mean : ExcName → Option Value} {mg mb : Str → Option Value} {x : Int} {tx : Tok} 
   {dp un : Nat} {gd : Option (List Code)} {cn : Str} {cs : Scope} {a : Addr} {ccd : Value} {cl : List (Str × Addr)} {outer : List Env} {A₀ : Around} {base h₀ : Heap} {L : Addr} {m : Str → Option Value} {s : Shared} {Q E : Value → Shared → Prop}
    (B : Below A₀ base outer h₀) (F : Fr h₀ L s.heap m) (X : (hd.heap_39 w.params).In h₀) (T : Top p loose mean mg mb h₀) (hcs : cs.kind = .function)
    (hdp : dp + 3 < recursionLimit) (hun : un + 40 < cLine)
    (hret : ∀ (h' : Heap) (tk' : Nat), (∀ b o, s.heap.get? b = some o → h'.get? b = some o) → ∀ (t : Tok), Q (.str (fmText x) t) { s with heap := h', toks := tk' }) :
    wpAny (model PySem.Challenge.rw_dn0160_03.row.prog w) (ktrTop dp un gd cn cs L a ccd cl outer) (call (.ref 61) [.int x tx]) Q E s := by
  w_top off
  revert X; k_fill; intro X
  refine' call_pure B F X T ?kA ?kF ?kK ?ho ?hcd ?hroom ?hb ?hl ?_ ?c1 ?c2 ?c3 ?c4
  walk_at "MyEnter"
  intro L' h₁ F' N' B' X' T'
  have TB := tab_is w X'
  clear B F X T
  replace F' : Fr s.heap L' h₁ (fun y => List.lookup y [(Str.ofString "mode", Value.int x tx)]) := F'
  k_steps
  rename Fr _ _ _ _ => F1
  rename News _ _ _ _ => N1
  rename_i pa _ _ _
  refine iter_enumTuple (items := (tabRows.map fun r => Value.ref r.1).toArray) rfl TB.1 F1 N1
    (fun i m₁ news₁ => m₁ (Str.ofString "mode") = some (.int x tx) ∧ m₁ (Str.ofString "perm") = some (.ref pa) ∧ ∃ vs n, news₁ = [(pa, listOf vs.toArray n)] ∧ StrsAre vs ((fmSigns x).take i)) ?_ ?_ ?_ PassesOwn.never
  · exact ⟨rfl, rfl, [], 0, rfl, by simpa using StrsAre.nil⟩
  · clear F1 N1
    intro i v t U m₁ news₁ h₂ tk₁ e oe I o hv hJ hoff hU F2 N2 hlt hIe
    obtain ⟨hm1, hm2, vs, n, rfl, hvs⟩ := hJ
    obtain ⟨S, ps, rfl, hR, htab, hi⟩ := TB.item hv
    rw [chain2 hm1 hm2] at F2
    have hp1 := hlt (pa, _) (.head _)
    have hp2 := ltN hp1
    have hp3 := ltN hIe
    clear hp1 hlt hoff hm1 hm2
    dsimp only at hp2
    k_steps
    clear hU
    rename Fr _ _ _ _ => F3
    rename News _ _ _ _ => N3
    refine iter_tuple (items := (ps.map fun q => Value.ref q.1).toArray) rfl hR.1 F3 N3
      (fun j m₂ news₂ => m₂ (Str.ofString "mode") = some (.int x tx) ∧ m₂ (Str.ofString "perm") = some (.ref pa) ∧ m₂ (Str.ofString "index") = some (.int (i : Int) t) ∧ news₂ = [(e, oe), (I, o), (pa, listOf vs.toArray n)] ∧ ∀ k q, k < j → ps[k]? = some q → pickTest x i q.2.1 = false) ?_ ?_ ?_ PassesOwn.never
    · exact ⟨rfl, rfl, rfl, rfl, fun k q hk => absurd hk (Nat.not_lt_zero _)⟩
    · clear F3 N3
      intro j v m₂ news₂ h₃ tk₃ I₂ o₂ hv₂ hJ hoff F3 N3 hlt₂
      obtain ⟨hm1, hm2, hm3, rfl, hno⟩ := hJ
      obtain ⟨q, hq, rfl⟩ : ∃ q, ps[j]? = some q ∧ Value.ref q.1 = v := by
        have h' : ps[j]?.map (fun q => Value.ref q.1) = some v := by simpa using hv₂
        exact Option.map_eq_some_iff.mp h'
      obtain ⟨tb, tc, hpair⟩ := hR.2 q (List.mem_of_getElem? hq)
      obtain ⟨pr, b, c⟩ := q
      have hpr : IsTup h₃ pr #[.int b tb, .str c tc] := by
        obtain ⟨o', ho', r⟩ := hpair
        exact ⟨o', F3.keep _ _ ho', r⟩
      rw [chain3 hm1 hm2 hm3] at F3
      have l1 := ltN (hlt₂ (e, oe) (.head _))
      have l2 := ltN (hlt₂ (I, o) (.tail _ (.head _)))
      have l3 := ltN (hlt₂ (pa, _) (.tail _ (.tail _ (.head _))))
      dsimp only at l1 l2 l3
      have hfit := signs_fit hvs
      replace F3 : Fr s.heap L' h₃ _ := F3
      replace N3 : News s.heap L' h₃ _ := N3
      clear hlt₂ hoff hm1 hm2 hm3 hv₂
      rcases Nat.eq_zero_or_pos i with hi0 | hi0
      · subst hi0
        k_steps
        · (change wpAny _ _ (execs [] _) _ _ _); k_steps
          rename News _ _ _ _ => N4
          refine step_next (its := [(e, oe), (I, o)]) (news₂ := [(pa, listOf (vs ++ [Value.str c tc]).toArray (n + 1))]) (by k_asm) (by rw [← List.push_toArray]; exact news_tail N4) ?_ ?_
          · walk_at "MyOff"
          · refine ⟨rfl, rfl, _, _, rfl, sign_more hvs hi htab (sign_hit hno hq ?_)⟩
            simp [pickTest]; assumption
        · refine step_next (its := [(I₂, o₂)]) (news₂ := [(e, oe), (I, o), (pa, listOf vs.toArray n)]) (by k_asm) (by k_asm) ?_ ?_
          · walk_at "MyOff"
          · refine ⟨rfl, rfl, rfl, rfl, no_more hno hq ?_⟩
            simp [pickTest]; assumption
      · k_steps
        · exfalso; omega
        · (change wpAny _ _ (execs [] _) _ _ _); k_steps
          rename News _ _ _ _ => N4
          refine step_next (its := [(e, oe), (I, o)]) (news₂ := [(pa, listOf (vs ++ [Value.str c tc]).toArray (n + 1))]) (by k_asm) (by rw [← List.push_toArray]; exact news_tail N4) ?_ ?_
          · walk_at "MyOff"
          · refine ⟨rfl, rfl, _, _, rfl, sign_more hvs hi htab (sign_hit hno hq ?_)⟩
            simp [pickTest, Nat.ne_of_gt hi0]; assumption
        · refine step_next (its := [(I₂, o₂)]) (news₂ := [(e, oe), (I, o), (pa, listOf vs.toArray n)]) (by k_asm) (by k_asm) ?_ ?_
          · walk_at "MyOff"
          · refine ⟨rfl, rfl, rfl, rfl, no_more hno hq ?_⟩
            simp [pickTest, Nat.ne_of_gt hi0]; assumption
    · clear F3 N3
      intro h₃ tk₃ m₂ news₂ F3 N3 hJ
      obtain ⟨hm1, hm2, hm3, rfl, hno⟩ := hJ
      rw [chain3 hm1 hm2 hm3] at F3
      replace F3 : Fr s.heap L' h₃ _ := F3
      replace N3 : News s.heap L' h₃ _ := N3
      have hfit := signs_fit hvs
      have hmiss := sign_miss (by simp) hno
      rcases Nat.eq_zero_or_pos i with hi0 | hi0
      · subst hi0
        k_steps
        rename News _ _ _ _ => N4
        refine step_next (its := [(e, oe), (I, o)]) (news₂ := [(pa, listOf (vs ++ [Value.str (Str.ofString "?") _]).toArray (n + 1))]) (by k_asm) (by rw [← List.push_toArray]; exact N4) ?_ ?_
        · walk_at "MyOff"
        · exact ⟨rfl, rfl, _, _, rfl, sign_more hvs hi htab hmiss⟩
      · k_steps
        · exfalso; omega
        · rename News _ _ _ _ => N4
          refine step_next (its := [(e, oe), (I, o)]) (news₂ := [(pa, listOf (vs ++ [Value.str (Str.ofString "-") _]).toArray (n + 1))]) (by k_asm) (by rw [← List.push_toArray]; exact N4) ?_ ?_
          · walk_at "MyOff"
          · exact ⟨rfl, rfl, _, _, rfl, sign_more hvs hi htab (hmiss.trans (by simp [pickDflt, Nat.ne_of_gt hi0]))⟩
  · clear F1 N1
    intro h₃ tk₃ m₂ news₂ F3 N3 hJ
    obtain ⟨hm1, hm2, vs, n, rfl, hvs⟩ := hJ
    rw [chain2 hm1 hm2] at F3
    replace F3 : Fr s.heap L' h₃ _ := F3
    replace N3 : News s.heap L' h₃ _ := N3
    k_steps
    have hvs' : StrsAre vs.toArray.toList (fmSigns x) := by
      have e : (tabRows.map fun r => Value.ref r.1).toArray.size = 10 := rfl
      rw [e, List.take_of_length_le (by rw [fmSigns_length]; exact Nat.le_refl _)] at hvs
      simpa using hvs
    refine join_listW (News.isList N3 (.head _)) hvs' (by decide) (fmSigns_weight x) ?_
    intro t' k'
    exact hret _ _ F3.keep _
end Mine
namespace Mine
local macro_rules | `(tactic| walk_at "execs nil") => `(tactic| (k_here; (dsimp only); k_gentoks))
local macro_rules | `(tactic| walk_at "execs cons") => `(tactic| (k_here; (dsimp only); k_gentoks))
local macro_rules | `(tactic| walk_at "MyEnter") => `(tactic| (k_dflt ((case kA => exact rfl); (case kF => exact rfl); (case kK => assumption); (case ho => k_is); (case hcd => k_is); (case hroom => ktr_room); (case hb => exact BindsTo.of_eq rfl); (case hl => exact locs rfl); (case c1 => exact rfl); (case c2 => exact rfl); (case c3 => exact rfl); (case c4 => decide); k_whole)))
local macro_rules | `(tactic| walk_at "MyOff") => `(tactic| repeat' (first | exact off0 | exact nmem0 | (refine off1 ?_ ?_) | (refine nmem1 (by k_ne) ?_)))
local macro_rules | `(tactic| walk_at "MyIdx") => `(tactic| first | omega | l_idx | (split <;> omega))
local macro_rules | `(tactic| walk_at "MyStrs") => `(tactic| first | assumption | exact StrsAre.cons _ _ StrsAre.nil | (repeat' (first | exact StrsAre.nil | refine StrsAre.cons _ _ ?_)))
local macro_rules | `(tactic| walk_at "call builtin:str.join") => `(tactic| (k_here; (with_reducible show wpAny _ _ (call (Value.builtin "str.join") [Value.str _ _, Value.ref _]) _ _ _); k_dflt (refine' join_listW ?l ?i ?s ?w ?_; (case l => kmk_list); (case i => walk_at "MyStrs"); (case s => decide); (case w => first | decide | exact fmSigns_weight _); k_whole); intro t9 k9))
local macro_rules | `(tactic| walk_at "call type:list") => `(tactic| (k_here; (with_reducible show wpAny _ _ (call (Value.type _) [Value.str _ _]) _ _ _); k_dflt (refine' list_strN ?hh ?F ?N ?_ ?z; (case hh => exact rfl); (case F => k_asm); (case N => k_asm); (case z => decide)); intro D' ys' n' h' tk' F' N' l1 hI'; (try k_lt l1); (try k_sweep)))
local macro_rules | `(tactic| walk_at "MySize") => `(tactic| ((simp only [sizeLine_eq, List.length_append, List.length_cons, List.length_nil, List.length_take, List.length_drop, List.length_set]); omega))
local macro_rules | `(tactic| walk_at "eval IfExp") => `(tactic| (k_here; (with_reducible show wpAny _ _ (eval (PySem.Expr.IfExp _ (PySem.Expr.Constant (PySem.Const.int _) _ _) (PySem.Expr.Constant (PySem.Const.int _) _ _) _) _) _ _ _); refine ifexp_ints ?_))
local macro_rules | `(tactic| walk_at "subscriptTail") => `(tactic| (k_here; (with_reducible show wpAny _ _ (subscriptTail _ _ (Value.ref _) (Value.int _ _)) _ _ _); k_dflt (refine' strs_item ?l ?ss ?a ?b ?c ?_ ?s; (case l => kmk_list); (case ss => assumption); (case a => walk_at "MyIdx"); (case b => walk_at "MyIdx"); (case c => walk_at "MyIdx"); (case s => with_unfolding_all rfl); k_whole); intro t9))
local macro_rules | `(tactic| walk_at "subscriptTail Name Slice ref ref") => `(tactic| (k_here; (with_reducible show wpAny _ _ (subscriptTail _ (PySem.Expr.Slice _ _ none _) (Value.ref _) (Value.ref _)) _ _ _); k_dflt (refine' slice_strs ?F ?N ?l ?p ?q ?m ?_ ?s ?t ?z; (case F => k_asm); (case N => k_asm); (case l => kmk_list); (case p => kmk_part); (case q => kmk_part); (case m => first | exact strs_upto (by assumption) (by walk_at "MyIdx") | exact strs_from (by assumption) (by walk_at "MyIdx") | exact strs_run (by assumption) (by walk_at "MyIdx") (by walk_at "MyIdx") (by walk_at "MyIdx")); (case s => with_unfolding_all rfl); (case t => kmk_pure); (case z => exact strs_fit (by assumption) (by assumption) (by decide))); intro D' ws' h' F' N' l1 hI'; (try k_lt l1); (try k_sweep)))
local macro_rules | `(tactic| walk_at "binaryOp Add ref ref") => `(tactic| (k_here; (with_reducible show wpAny _ _ (binaryOp _ (Value.ref _) (Value.ref _)) _ _ _); k_dflt (refine' cat_strs ?F ?N ?a ?b ?i ?j ?_ ?z; (case F => k_asm); (case N => k_asm); (case a => kmk_list); (case b => kmk_list); (case i => walk_at "MyStrs"); (case j => walk_at "MyStrs"); (case z => walk_at "MySize")); intro D' ws' h' F' N' l1 hI'; (try k_lt l1); (try k_sweep)))
local macro_rules | `(tactic| walk_at "eval ListComp") => `(tactic| (k_here; k_dflt (refine' comp_pairs ?hh ?c1 ?c2 ?c3 ?c4 ?c5 ?c6 ?c7 ?_ ?c8; (case hh => exact rfl); (case c1 => with_unfolding_all rfl); (case c2 => decide); (case c3 => rfl); (case c4 => decide); (case c5 => rfl); (case c6 => rfl); (case c7 => decide); (case c8 => (intro _; rfl)))))
local macro_rules | `(tactic| walk_at "call type:zip") => `(tactic| (k_here; refine hold_intro ?_))
local macro_rules | `(tactic| walk_at "subscriptTail") => `(tactic| (k_here; (with_reducible show wpAny _ _ (subscriptTail _ (PySem.Expr.Slice (some _) none none _) (Value.str (fmText _) _) (Value.ref _)) _ _ _); k_dflt (refine' fm_slice ?F ?N ?_ ?s ?t; (case F => k_asm); (case N => k_asm); (case s => with_unfolding_all rfl); (case t => (intro _; with_unfolding_all rfl)); k_whole); intro h' t' k' F' N'))
local macro_rules | `(tactic| walk_at "call builtin:str.find") => `(tactic| (k_here; (with_reducible show wpAny _ _ (call (Value.builtin "str.find") [Value.str _ _, Value.str _ _]) _ _ _); refine SC.find ?_))
theorem strs_at {vs : List Value} {ss : List Str} (h : StrsAre vs ss) {i : Nat} {v : Value} (hv : vs[i]? = some v) : ∃ t, i < ss.length ∧ v = .str (ss.getD i (Str.ofString "")) t := by
  have hi : i < ss.length := by rw [← h.length]; exact (List.getElem?_eq_some_iff.mp hv).1
  have hx : ss[i]? = some (ss.getD i (Str.ofString "")) := by simp [List.getD, hi]
  obtain ⟨t, ht⟩ := h.get _ _ hx
  rw [hv] at ht
  exact ⟨t, hi, Option.some.inj ht⟩
theorem ints_of : ∀ {n : Nat} {ys : List Value} {f : Nat → Int}, ys.length = n → (∀ i v, ys[i]? = some v → ∃ t, v = Value.int (f i) t) → IntsAre ys ((List.range n).map f)
  | 0, [], _, _, _ => .nil
  | n + 1, y :: ys, f, hn, h => by
    obtain ⟨t, rfl⟩ := h 0 y rfl
    rw [List.range_succ_eq_map, List.map_cons, List.map_map]
    exact .cons _ _ (ints_of (f := fun i => f (i + 1)) (by simpa using hn) fun i v hv => h (i + 1) v (by simpa using hv))
theorem strs_of : ∀ {n : Nat} {ys : List Value} {f : Nat → Str}, ys.length = n → (∀ i v, ys[i]? = some v → ∃ t, v = Value.str (f i) t) → StrsAre ys ((List.range n).map f)
  | 0, [], _, _, _ => .nil
  | n + 1, y :: ys, f, hn, h => by
    obtain ⟨t, rfl⟩ := h 0 y rfl
    rw [List.range_succ_eq_map, List.map_cons, List.map_map]
    exact .cons _ _ (strs_of (f := fun i => f (i + 1)) (by simpa using hn) fun i v hv => h (i + 1) v (by simpa using hv))
theorem values_contract {w : World} {p : Program} {loose : List Str} {mean : ExcName → Option Value} {mg mb : Str → Option Value} {M : Int} {t1 : Tok} {ta : Addr} {vt : List Value}
    {dp un : Nat} {gd : Option (List Code)} {cn : Str} {cs : Scope} {a : Addr} {ccd : Value} {cl : List (Str × Addr)} {outer : List Env} {A₀ : Around} {base h₀ : Heap} {L : Addr} {m : Str → Option Value} {s : Shared} {Q E : Value → Shared → Prop}
    (B : Below A₀ base outer h₀) (F : Fr h₀ L s.heap m) (X : (hd.heap_39 w.params).In h₀) (T : Top p loose mean mg mb h₀) (hcs : cs.kind = .function)
    (hdp : dp + 1 < recursionLimit) (hun : un + 10 < cLine) (hta : s.heap.IsList ta vt.toArray) (hvt : StrsAre vt tabsL)
    (hret : ∀ (h' : Heap) (tk' : Nat), (∀ b o, s.heap.get? b = some o → h'.get? b = some o) → ∀ D ys, s.heap.get? D = none → h'.get? D = some (LCg.lst ys) → IntsAre ys (valsL M) → Q (.ref D) { s with heap := h', toks := tk' }) :
    wpAny (model PySem.Challenge.rw_dn0160_03.row.prog w) (ktrTop dp un gd cn cs L a ccd cl outer) (call (.ref 73) [.str (fmText M) t1, .ref ta]) Q E s := by
  w_top off
  revert X; k_fill; intro X
  refine' call_pureT B F X T ?kA ?kF ?kK ?ho ?hcd ?hroom ?hb ?hl ?_ ?c1 ?c2 ?c3 ?c4
  walk_at "MyEnter"
  intro L' h₁ tk₀ F' N' B' X' T'
  clear B F X T
  replace F' : Fr s.heap L' h₁ (fun y => List.lookup y [(Str.ofString "tables", Value.ref ta), (Str.ofString "told", Value.str (fmText M) t1)]) := F'
  k_steps
  rename Fr _ _ _ _ => F1
  rename News _ _ _ _ => N1
  have hlen : vt.length = 9 := hvt.length
  refine zip_ls rfl F1 N1 (hta.at fun o e => F1.keep _ _ e) (by rw [hlen]; rfl) (by rw [hlen]; decide) (fun i v => ∃ t, v = .int (valB M i) t) ?_ (FinOk.plain ?_)
  · clear F1 N1
    intro i v c u C oC m₃ h₃ tk₃ E' hv hc F3 N3 hlt hNs ma mb
    obtain ⟨hi, hs⟩ := fmTail_at M hc
    rw [hs] at mb
    obtain ⟨tv, _, rfl⟩ := strs_at hvt hv
    k_steps
    refine ⟨⟨_, by rw [find_val M i hi]⟩, ?_⟩
    exact ⟨_, _, rfl, fun _ _ e => e⟩
  · intro D ys h₃ tk₃ F3 N3 hlt hy hG
    have hN := N3 _ (.head _)
    refine hret _ _ F3.keep _ _ hN.2.2 hN.1 ?_
    rw [hlen] at hy
    exact ints_of hy hG
end Mine
namespace Mine
local macro_rules | `(tactic| walk_at "execs nil") => `(tactic| (k_here; (dsimp only); k_gentoks))
local macro_rules | `(tactic| walk_at "execs cons") => `(tactic| (k_here; (dsimp only); k_gentoks))
local macro_rules | `(tactic| walk_at "MyEnter") => `(tactic| (k_dflt ((case kA => exact rfl); (case kF => exact rfl); (case kK => assumption); (case ho => k_is); (case hcd => k_is); (case hroom => ktr_room); (case hb => exact BindsTo.of_eq rfl); (case hl => exact locs rfl); (case c1 => exact rfl); (case c2 => exact rfl); (case c3 => exact rfl); (case c4 => decide); k_whole)))
local macro_rules | `(tactic| walk_at "MyOff") => `(tactic| repeat' (first | exact off0 | exact nmem0 | (refine off1 ?_ ?_) | (refine nmem1 (by k_ne) ?_)))
local macro_rules | `(tactic| walk_at "MyIdx") => `(tactic| first | omega | l_idx | (split <;> omega))
local macro_rules | `(tactic| walk_at "MyStrs") => `(tactic| first | assumption | exact StrsAre.cons _ _ StrsAre.nil | (repeat' (first | exact StrsAre.nil | refine StrsAre.cons _ _ ?_)))
local macro_rules | `(tactic| walk_at "call builtin:str.join") => `(tactic| (k_here; (with_reducible show wpAny _ _ (call (Value.builtin "str.join") [Value.str _ _, Value.ref _]) _ _ _); k_dflt (refine' join_listW ?l ?i ?s ?w ?_; (case l => kmk_list); (case i => walk_at "MyStrs"); (case s => decide); (case w => first | decide | exact fmSigns_weight _); k_whole); intro t9 k9))
local macro_rules | `(tactic| walk_at "call type:list") => `(tactic| (k_here; (with_reducible show wpAny _ _ (call (Value.type _) [Value.str _ _]) _ _ _); k_dflt (refine' list_strN ?hh ?F ?N ?_ ?z; (case hh => exact rfl); (case F => k_asm); (case N => k_asm); (case z => decide)); intro D' ys' n' h' tk' F' N' l1 hI'; (try k_lt l1); (try k_sweep)))
local macro_rules | `(tactic| walk_at "MySize") => `(tactic| ((simp only [sizeLine_eq, List.length_append, List.length_cons, List.length_nil, List.length_take, List.length_drop, List.length_set]); omega))
local macro_rules | `(tactic| walk_at "eval IfExp") => `(tactic| (k_here; (with_reducible show wpAny _ _ (eval (PySem.Expr.IfExp _ (PySem.Expr.Constant (PySem.Const.int _) _ _) (PySem.Expr.Constant (PySem.Const.int _) _ _) _) _) _ _ _); refine ifexp_ints ?_))
local macro_rules | `(tactic| walk_at "subscriptTail") => `(tactic| (k_here; (with_reducible show wpAny _ _ (subscriptTail _ _ (Value.ref _) (Value.int _ _)) _ _ _); k_dflt (refine' strs_item ?l ?ss ?a ?b ?c ?_ ?s; (case l => kmk_list); (case ss => assumption); (case a => walk_at "MyIdx"); (case b => walk_at "MyIdx"); (case c => walk_at "MyIdx"); (case s => with_unfolding_all rfl); k_whole); intro t9))
local macro_rules | `(tactic| walk_at "subscriptTail Name Slice ref ref") => `(tactic| (k_here; (with_reducible show wpAny _ _ (subscriptTail _ (PySem.Expr.Slice _ _ none _) (Value.ref _) (Value.ref _)) _ _ _); k_dflt (refine' slice_strs ?F ?N ?l ?p ?q ?m ?_ ?s ?t ?z; (case F => k_asm); (case N => k_asm); (case l => kmk_list); (case p => kmk_part); (case q => kmk_part); (case m => first | exact strs_upto (by assumption) (by walk_at "MyIdx") | exact strs_from (by assumption) (by walk_at "MyIdx") | exact strs_run (by assumption) (by walk_at "MyIdx") (by walk_at "MyIdx") (by walk_at "MyIdx")); (case s => with_unfolding_all rfl); (case t => kmk_pure); (case z => exact strs_fit (by assumption) (by assumption) (by decide))); intro D' ws' h' F' N' l1 hI'; (try k_lt l1); (try k_sweep)))
local macro_rules | `(tactic| walk_at "binaryOp Add ref ref") => `(tactic| (k_here; (with_reducible show wpAny _ _ (binaryOp _ (Value.ref _) (Value.ref _)) _ _ _); k_dflt (refine' cat_strs ?F ?N ?a ?b ?i ?j ?_ ?z; (case F => k_asm); (case N => k_asm); (case a => kmk_list); (case b => kmk_list); (case i => walk_at "MyStrs"); (case j => walk_at "MyStrs"); (case z => walk_at "MySize")); intro D' ws' h' F' N' l1 hI'; (try k_lt l1); (try k_sweep)))
local macro_rules | `(tactic| walk_at "eval ListComp") => `(tactic| (k_here; k_dflt (refine' comp_pairs ?hh ?c1 ?c2 ?c3 ?c4 ?c5 ?c6 ?c7 ?_ ?c8; (case hh => exact rfl); (case c1 => with_unfolding_all rfl); (case c2 => decide); (case c3 => rfl); (case c4 => decide); (case c5 => rfl); (case c6 => rfl); (case c7 => decide); (case c8 => (intro _; rfl)))))
local macro_rules | `(tactic| walk_at "call type:zip") => `(tactic| (k_here; refine hold_intro ?_))
local macro_rules | `(tactic| walk_at "subscriptTail") => `(tactic| (k_here; (with_reducible show wpAny _ _ (subscriptTail _ (PySem.Expr.Slice (some _) none none _) (Value.str (fmText _) _) (Value.ref _)) _ _ _); k_dflt (refine' fm_slice ?F ?N ?_ ?s ?t; (case F => k_asm); (case N => k_asm); (case s => with_unfolding_all rfl); (case t => (intro _; with_unfolding_all rfl)); k_whole); intro h' t' k' F' N'))
local macro_rules | `(tactic| walk_at "call builtin:str.find") => `(tactic| (k_here; (with_reducible show wpAny _ _ (call (Value.builtin "str.find") [Value.str _ _, Value.str _ _]) _ _ _); refine SC.find ?_))
local macro_rules | `(tactic| walk_at "call ref cons nil") => `(tactic| (k_here; (with_reducible show wpAny _ _ (call (Value.ref 61) [Value.int _ _]) _ _ _); k_dflt (refine' fm_contract ?k1 ?k2 ?k3 ?k5 ?kK ?kd ?ku  ?_; (case k1 => k_asm); (case k2 => k_asm); (case k3 => k_asm); (case k5 => k_asm); (case kK => first | exact rfl | assumption); (case kd => ktr_room); (case ku => ktr_units);  skip); (rename Fr _ _ _ _ => kF9); (rename News _ _ _ _ => kN9); intro h9 tk9 hk9 t9; (have F9 := Fr.keeps kF9 hk9); (have N9 := News.grown kN9 hk9);  clear kF9 kN9 hk9; (try dsimp only)))
theorem tab_item {prog : Program} {w : World} {A : Around} {E : Value → Shared → Prop} {s : Shared} {value slice : PySem.Expr} {M : Int} {i : Nat} {t u : Tok} {Q : Value → Shared → Prop} (hi : i < 9) (h : ∀ t', Q (.str (fmSign M (i + 1)) t') { s with toks := s.toks + 1 })
    (hs : subscripted slice false (.str (tabsL.getD i (Str.ofString "")) t) (.int (valB M i) u) = operate [.str (tabsL.getD i (Str.ofString "")) t, .int (valB M i) u] (getItem (.str (tabsL.getD i (Str.ofString "")) t) (.int (valB M i) u)))
    (hg : ∀ r, letTemporaryGo value (.str (tabsL.getD i (Str.ofString "")) t) r = pure ()) :
    wpAny (model prog w) A (subscriptTail value slice (.str (tabsL.getD i (Str.ofString "")) t) (.int (valB M i) u)) Q E s := by
  have hr := valB_range M i hi
  refine KXi.item rfl (by omega) hr.2 ?_ (fun _ => ?_) hs hg
  · have : ∀ i, i < 9 → (tabsL.getD i (Str.ofString "")).length ≤ 16777216 := nine (by decide) (by decide) (by decide) (by decide) (by decide) (by decide) (by decide) (by decide) (by decide)
    exact this i hi
  · rw [item_val M i hi]; exact h _
theorem ints_at {vs : List Value} {f : Nat → Int} {n : Nat} (h : IntsAre vs ((List.range n).map f)) {i : Nat} {v : Value} (hv : vs[i]? = some v) : ∃ t, i < n ∧ v = .int (f i) t := by
  have hi : i < n := by
    have := h.length
    rw [List.length_map, List.length_range] at this
    rw [← this]; exact (List.getElem?_eq_some_iff.mp hv).1
  obtain ⟨t, ht⟩ := h.get i (f i) (by simp [hi])
  rw [hv] at ht
  exact ⟨t, hi, Option.some.inj ht⟩
local macro_rules | `(tactic| walk_at "subscriptTail") => `(tactic| (k_here; (with_reducible show wpAny _ _ (subscriptTail _ _ (Value.str (List.getD tabsL _ _) _) (Value.int (valB _ _) _)) _ _ _); k_dflt (refine' tab_item ?i ?_ ?s ?t; (case i => assumption); (case s => with_unfolding_all rfl); (case t => (intro _; with_unfolding_all rfl)); k_whole); intro t9))
local macro_rules | `(tactic| walk_at "call builtin:str.join") => `(tactic| (k_here; (with_reducible show wpAny _ _ (call (Value.builtin "str.join") [Value.str _ _, Value.ref _]) _ _ _); k_dflt (refine' join_listW (ys := tailL _) ?l ?i ?s ?w ?_; (case l => first | kmk_list | exact News.isList (by k_asm) (by k_mem)); (case i => first | assumption | (simp only [List.toList_toArray]; assumption)); (case s => decide); (case w => exact tail_weight _); k_whole); intro t9 k9))
theorem tail_size (M k : Int) : (Txt.item (Str.ofString "?pc?d?b?-?l?s???") k).length + (Txt.join (Str.ofString "") (tailL M)).length ≤ sizeLine := by
  have h1 : (Txt.item (Str.ofString "?pc?d?b?-?l?s???") k).length = 1 := rfl
  have h2 := congrArg Str.length (tail_text M)
  have h3 := fmText_len M
  have h4 : ∀ a b : Str, (a ++ b).length = a.length + b.length := fun a b => Array.size_append ..
  rw [h4, h3] at h2
  have h5 : (Txt.item (Str.ofString "?pc?d?b?-?l?s???") ((M.fdiv 4096).fmod 16)).length = 1 := rfl
  rw [h1]
  have : (Txt.join (Str.ofString "") (tailL M)).length = 9 := by omega
  rw [this]; decide
local macro_rules | `(tactic| walk_at "binaryOp Add str str") => `(tactic| (k_here; (with_reducible show wpAny _ _ (binaryOp _ (Value.str (Txt.item _ _) _) (Value.str (Txt.join _ _) _)) _ _ _); k_dflt (refine' PyProof.Rows.add_str ?_ ?z; (case z => exact tail_size _ _); k_whole); intro t9 k9))
local macro_rules | `(tactic| walk_at "compareOp Eq str str") => `(tactic| (k_here; (with_reducible refine eq_str_is (tail_text _) ?_)))
theorem is_contract {w : World} {p : Program} {loose : List Str} {mean : ExcName → Option Value} {mg mb : Str → Option Value} {M : Int} {t1 : Tok} {va ta : Addr} {vv vt : List Value}
    {dp un : Nat} {gd : Option (List Code)} {cn : Str} {cs : Scope} {a : Addr} {ccd : Value} {cl : List (Str × Addr)} {outer : List Env} {A₀ : Around} {base h₀ : Heap} {L : Addr} {m : Str → Option Value} {s : Shared} {Q E : Value → Shared → Prop}
    (B : Below A₀ base outer h₀) (F : Fr h₀ L s.heap m) (X : (hd.heap_39 w.params).In h₀) (T : Top p loose mean mg mb h₀) (hcs : cs.kind = .function)
    (hdp : dp + 4 < recursionLimit) (hun : un + 60 < cLine) (hva : s.heap.IsList va vv.toArray) (hvv : IntsAre vv (valsL M)) (hta : s.heap.IsList ta vt.toArray) (hvt : StrsAre vt tabsL)
    (hret : ∀ (h' : Heap) (tk' : Nat), (∀ b o, s.heap.get? b = some o → h'.get? b = some o) → Q (.bool true) { s with heap := h', toks := tk' }) :
    wpAny (model PySem.Challenge.rw_dn0160_03.row.prog w) (ktrTop dp un gd cn cs L a ccd cl outer) (call (.ref 78) [.int M t1, .ref va, .ref ta]) Q E s := by
  w_top off
  revert X; k_fill; intro X
  refine' call_pureT B F X T ?kA ?kF ?kK ?ho ?hcd ?hroom ?hb ?hl ?_ ?c1 ?c2 ?c3 ?c4
  walk_at "MyEnter"
  intro L' h₁ tk₀ F' N' B' X' T'
  clear B F X T
  replace F' : Fr s.heap L' h₁ (fun y => List.lookup y [(Str.ofString "tables", Value.ref ta), (Str.ofString "values", Value.ref va), (Str.ofString "mode", Value.int M t1)]) := F'
  k_steps
  rename Fr _ _ _ _ => F1
  rename News _ _ _ _ => N1
  have hlen : vt.length = 9 := hvt.length
  have hlen' : vv.length = 9 := hvv.length
  refine zip_ll rfl F1 N1 (hta.at fun o e => F1.keep _ _ e) (hva.at fun o e => F1.keep _ _ e) (by rw [hlen, hlen']) (by rw [hlen]; decide) (fun i v => ∃ t, v = .str (fmSign M (i + 1)) t) ?_ (FinOk.plain ?_)
  · clear F1 N1
    intro i v u C oC m₃ h₃ tk₃ E' hv hu F3 N3 hlt hNs ma mb
    obtain ⟨tv, hi, rfl⟩ := strs_at hvt hv
    obtain ⟨tu, hi', rfl⟩ := ints_at hvv hu
    k_steps
    exact ⟨⟨_, rfl⟩, _, _, rfl, fun _ _ e => e⟩
  · clear F1 N1
    intro D ys h₃ tk₃ F3 N3 hlt hy hG
    rw [hlen] at hy
    have hS : StrsAre ys (tailL M) := strs_of hy hG
    clear hG
    k_steps
    rename Fr _ _ _ _ => F1
    exact hret _ _ F1.keep
end Mine
namespace Mine
local macro_rules | `(tactic| walk_at "execs nil") => `(tactic| (k_here; (dsimp only); k_gentoks))
local macro_rules | `(tactic| walk_at "execs cons") => `(tactic| (k_here; (dsimp only); k_gentoks))
local macro_rules | `(tactic| walk_at "MyEnter") => `(tactic| (k_dflt ((case kA => exact rfl); (case kF => exact rfl); (case kK => assumption); (case ho => k_is); (case hcd => k_is); (case hroom => ktr_room); (case hb => exact BindsTo.of_eq rfl); (case hl => exact locs rfl); (case c1 => exact rfl); (case c2 => exact rfl); (case c3 => exact rfl); (case c4 => decide); k_whole)))
local macro_rules | `(tactic| walk_at "MyOff") => `(tactic| repeat' (first | exact off0 | exact nmem0 | (refine off1 ?_ ?_) | (refine nmem1 (by k_ne) ?_)))
local macro_rules | `(tactic| walk_at "MyIdx") => `(tactic| first | omega | l_idx | (split <;> omega))
local macro_rules | `(tactic| walk_at "MyStrs") => `(tactic| first | assumption | exact StrsAre.cons _ _ StrsAre.nil | (repeat' (first | exact StrsAre.nil | refine StrsAre.cons _ _ ?_)))
local macro_rules | `(tactic| walk_at "call builtin:str.join") => `(tactic| (k_here; (with_reducible show wpAny _ _ (call (Value.builtin "str.join") [Value.str _ _, Value.ref _]) _ _ _); k_dflt (refine' join_listW ?l ?i ?s ?w ?_; (case l => kmk_list); (case i => walk_at "MyStrs"); (case s => decide); (case w => first | decide | exact fmSigns_weight _); k_whole); intro t9 k9))
local macro_rules | `(tactic| walk_at "call type:list") => `(tactic| (k_here; (with_reducible show wpAny _ _ (call (Value.type _) [Value.str _ _]) _ _ _); k_dflt (refine' list_strN ?hh ?F ?N ?_ ?z; (case hh => exact rfl); (case F => k_asm); (case N => k_asm); (case z => decide)); intro D' ys' n' h' tk' F' N' l1 hI'; (try k_lt l1); (try k_sweep)))
local macro_rules | `(tactic| walk_at "MySize") => `(tactic| ((simp only [sizeLine_eq, List.length_append, List.length_cons, List.length_nil, List.length_take, List.length_drop, List.length_set]); omega))
local macro_rules | `(tactic| walk_at "eval IfExp") => `(tactic| (k_here; (with_reducible show wpAny _ _ (eval (PySem.Expr.IfExp _ (PySem.Expr.Constant (PySem.Const.int _) _ _) (PySem.Expr.Constant (PySem.Const.int _) _ _) _) _) _ _ _); refine ifexp_ints ?_))
local macro_rules | `(tactic| walk_at "subscriptTail") => `(tactic| (k_here; (with_reducible show wpAny _ _ (subscriptTail _ _ (Value.ref _) (Value.int _ _)) _ _ _); k_dflt (refine' strs_item ?l ?ss ?a ?b ?c ?_ ?s; (case l => kmk_list); (case ss => assumption); (case a => walk_at "MyIdx"); (case b => walk_at "MyIdx"); (case c => walk_at "MyIdx"); (case s => with_unfolding_all rfl); k_whole); intro t9))
local macro_rules | `(tactic| walk_at "subscriptTail Name Slice ref ref") => `(tactic| (k_here; (with_reducible show wpAny _ _ (subscriptTail _ (PySem.Expr.Slice _ _ none _) (Value.ref _) (Value.ref _)) _ _ _); k_dflt (refine' slice_strs ?F ?N ?l ?p ?q ?m ?_ ?s ?t ?z; (case F => k_asm); (case N => k_asm); (case l => kmk_list); (case p => kmk_part); (case q => kmk_part); (case m => first | exact strs_upto (by assumption) (by walk_at "MyIdx") | exact strs_from (by assumption) (by walk_at "MyIdx") | exact strs_run (by assumption) (by walk_at "MyIdx") (by walk_at "MyIdx") (by walk_at "MyIdx")); (case s => with_unfolding_all rfl); (case t => kmk_pure); (case z => exact strs_fit (by assumption) (by assumption) (by decide))); intro D' ws' h' F' N' l1 hI'; (try k_lt l1); (try k_sweep)))
local macro_rules | `(tactic| walk_at "binaryOp Add ref ref") => `(tactic| (k_here; (with_reducible show wpAny _ _ (binaryOp _ (Value.ref _) (Value.ref _)) _ _ _); k_dflt (refine' cat_strs ?F ?N ?a ?b ?i ?j ?_ ?z; (case F => k_asm); (case N => k_asm); (case a => kmk_list); (case b => kmk_list); (case i => walk_at "MyStrs"); (case j => walk_at "MyStrs"); (case z => walk_at "MySize")); intro D' ws' h' F' N' l1 hI'; (try k_lt l1); (try k_sweep)))
theorem str_cast {Q : Value → Shared → Prop} {a b : Str} {t : Tok} {s : Shared} (e : b = a) (h : Q (.str b t) s) : Q (.str a t) s := e ▸ h
theorem single_contract {w : World} {p : Program} {loose : List Str} {mean : ExcName → Option Value} {mg mb : Str → Option Value} {k : Int} {n : Nat} {t1 : Tok}
    {dp un : Nat} {gd : Option (List Code)} {cn : Str} {cs : Scope} {a : Addr} {ccd : Value} {cl : List (Str × Addr)} {outer : List Env} {A₀ : Around} {base h₀ : Heap} {L : Addr} {m : Str → Option Value} {s : Shared} {Q E : Value → Shared → Prop}
    (B : Below A₀ base outer h₀) (F : Fr h₀ L s.heap m) (X : (hd.heap_39 w.params).In h₀) (T : Top p loose mean mg mb h₀) (hcs : cs.kind = .function)
    (hdp : dp + 1 < recursionLimit) (hun : un + 10 < cLine) (hk : k = (n : Int)) (hn : n < 16)
    (hret : ∀ (h' : Heap) (tk' : Nat), (∀ b o, s.heap.get? b = some o → h'.get? b = some o) → ∀ t, Q (.str (fmText ((2 ^ n : Nat) : Int)) t) { s with heap := h', toks := tk' }) :
    wpAny (model PySem.Challenge.rw_dn0160_03.row.prog w) (ktrTop dp un gd cn cs L a ccd cl outer) (call (.ref 68) [.int k t1]) Q E s := by
  w_top off
  revert X; k_fill; intro X
  refine' call_pureT B F X T ?kA ?kF ?kK ?ho ?hcd ?hroom ?hb ?hl ?_ ?c1 ?c2 ?c3 ?c4
  walk_at "MyEnter"
  intro L' h₁ tk₀ F' N' B' X' T'
  clear B F X T
  replace F' : Fr s.heap L' h₁ (fun y => List.lookup y [(Str.ofString "k", Value.int k t1)]) := F'
  subst hk
  rcases (by omega : n = 0 ∨ n = 1 ∨ n = 2 ∨ n = 3 ∨ n = 4 ∨ n = 5 ∨ n = 6 ∨ n = 7 ∨ n = 8 ∨ n = 9 ∨ n = 10 ∨ n = 11 ∨ n = 12 ∨ n = 13 ∨ n = 14 ∨ n = 15) with rfl | rfl | rfl | rfl | rfl | rfl | rfl | rfl | rfl | rfl | rfl | rfl | rfl | rfl | rfl | rfl
  all_goals
    k_steps
    rename Fr _ _ _ _ => F1
    exact str_cast (by decide +kernel) (hret _ _ F1.keep _)
end Mine
namespace Mine
local macro_rules | `(tactic| walk_at "execs nil") => `(tactic| (k_here; (dsimp only); k_gentoks))
local macro_rules | `(tactic| walk_at "execs cons") => `(tactic| (k_here; (dsimp only); k_gentoks))
local macro_rules | `(tactic| walk_at "MyEnter") => `(tactic| (k_dflt ((case kA => exact rfl); (case kF => exact rfl); (case kK => assumption); (case ho => k_is); (case hcd => k_is); (case hroom => ktr_room); (case hb => exact BindsTo.of_eq rfl); (case hl => exact locs rfl); (case c1 => exact rfl); (case c2 => exact rfl); (case c3 => exact rfl); (case c4 => decide); k_whole)))
local macro_rules | `(tactic| walk_at "MyOff") => `(tactic| repeat' (first | exact off0 | exact nmem0 | (refine off1 ?_ ?_) | (refine nmem1 (by k_ne) ?_)))
local macro_rules | `(tactic| walk_at "MyIdx") => `(tactic| first | omega | l_idx | (split <;> omega))
local macro_rules | `(tactic| walk_at "MyStrs") => `(tactic| first | assumption | exact StrsAre.cons _ _ StrsAre.nil | (repeat' (first | exact StrsAre.nil | refine StrsAre.cons _ _ ?_)))
local macro_rules | `(tactic| walk_at "call builtin:str.join") => `(tactic| (k_here; (with_reducible show wpAny _ _ (call (Value.builtin "str.join") [Value.str _ _, Value.ref _]) _ _ _); k_dflt (refine' join_listW ?l ?i ?s ?w ?_; (case l => kmk_list); (case i => walk_at "MyStrs"); (case s => decide); (case w => first | decide | exact fmSigns_weight _); k_whole); intro t9 k9))
local macro_rules | `(tactic| walk_at "call type:list") => `(tactic| (k_here; (with_reducible show wpAny _ _ (call (Value.type _) [Value.str _ _]) _ _ _); k_dflt (refine' list_strN ?hh ?F ?N ?_ ?z; (case hh => exact rfl); (case F => k_asm); (case N => k_asm); (case z => decide)); intro D' ys' n' h' tk' F' N' l1 hI'; (try k_lt l1); (try k_sweep)))
local macro_rules | `(tactic| walk_at "MySize") => `(tactic| ((simp only [sizeLine_eq, List.length_append, List.length_cons, List.length_nil, List.length_take, List.length_drop, List.length_set]); omega))
local macro_rules | `(tactic| walk_at "eval IfExp") => `(tactic| (k_here; (with_reducible show wpAny _ _ (eval (PySem.Expr.IfExp _ (PySem.Expr.Constant (PySem.Const.int _) _ _) (PySem.Expr.Constant (PySem.Const.int _) _ _) _) _) _ _ _); refine ifexp_ints ?_))
local macro_rules | `(tactic| walk_at "subscriptTail") => `(tactic| (k_here; (with_reducible show wpAny _ _ (subscriptTail _ _ (Value.ref _) (Value.int _ _)) _ _ _); k_dflt (refine' strs_item ?l ?ss ?a ?b ?c ?_ ?s; (case l => kmk_list); (case ss => assumption); (case a => walk_at "MyIdx"); (case b => walk_at "MyIdx"); (case c => walk_at "MyIdx"); (case s => with_unfolding_all rfl); k_whole); intro t9))
local macro_rules | `(tactic| walk_at "subscriptTail Name Slice ref ref") => `(tactic| (k_here; (with_reducible show wpAny _ _ (subscriptTail _ (PySem.Expr.Slice _ _ none _) (Value.ref _) (Value.ref _)) _ _ _); k_dflt (refine' slice_strs ?F ?N ?l ?p ?q ?m ?_ ?s ?t ?z; (case F => k_asm); (case N => k_asm); (case l => kmk_list); (case p => kmk_part); (case q => kmk_part); (case m => first | exact strs_upto (by assumption) (by walk_at "MyIdx") | exact strs_from (by assumption) (by walk_at "MyIdx") | exact strs_run (by assumption) (by walk_at "MyIdx") (by walk_at "MyIdx") (by walk_at "MyIdx")); (case s => with_unfolding_all rfl); (case t => kmk_pure); (case z => exact strs_fit (by assumption) (by assumption) (by decide))); intro D' ws' h' F' N' l1 hI'; (try k_lt l1); (try k_sweep)))
local macro_rules | `(tactic| walk_at "binaryOp Add ref ref") => `(tactic| (k_here; (with_reducible show wpAny _ _ (binaryOp _ (Value.ref _) (Value.ref _)) _ _ _); k_dflt (refine' cat_strs ?F ?N ?a ?b ?i ?j ?_ ?z; (case F => k_asm); (case N => k_asm); (case a => kmk_list); (case b => kmk_list); (case i => walk_at "MyStrs"); (case j => walk_at "MyStrs"); (case z => walk_at "MySize")); intro D' ws' h' F' N' l1 hI'; (try k_lt l1); (try k_sweep)))
local macro_rules | `(tactic| walk_at "MyPairs") => `(tactic| (k_dflt (refine' comp_pairs ?hh ?c1 ?c2 ?c3 ?c4 ?c5 ?c6 ?c7 ?_ ?c8; (case hh => exact rfl); (case c1 => with_unfolding_all rfl); (case c2 => decide); (case c3 => rfl); (case c4 => decide); (case c5 => rfl); (case c6 => rfl); (case c7 => decide); (case c8 => (intro _; rfl)))))
local macro_rules | `(tactic| walk_at "MyOne") => `(tactic| (k_dflt (refine' comp_one ?c1 ?c2 ?c3 ?c4 ?c5 ?_ ?c8; (case c1 => with_unfolding_all rfl); (case c2 => decide); (case c3 => rfl); (case c4 => decide); (case c5 => rfl); (case c8 => (intro _; rfl)))))
local macro_rules | `(tactic| walk_at "MyOneA") => `(tactic| (k_dflt (refine' comp_oneA ?c0 ?c1 ?c2 ?c3 ?c4 ?c5 ?_ ?c8; (case c0 => with_unfolding_all rfl); (case c1 => with_unfolding_all rfl); (case c2 => decide); (case c3 => rfl); (case c4 => decide); (case c5 => rfl); (case c8 => (intro _; rfl)))))
local macro_rules | `(tactic| walk_at "MyPairsA") => `(tactic| (k_dflt (refine' comp_pairsA ?hh ?c0 ?c1 ?c2 ?c3 ?c4 ?c5 ?c6 ?c7 ?_ ?c8; (case hh => exact rfl); (case c0 => with_unfolding_all rfl); (case c1 => with_unfolding_all rfl); (case c2 => decide); (case c3 => rfl); (case c4 => decide); (case c5 => rfl); (case c6 => rfl); (case c7 => decide); (case c8 => (intro _; rfl)))))
local macro_rules | `(tactic| walk_at "eval ListComp") => `(tactic| (k_here; refine hold_intro ?_))
local macro_rules | `(tactic| walk_at "exec Assign cons ListComp") => `(tactic| (k_here; refine hold_intro ?_))
local macro_rules | `(tactic| walk_at "call type:zip") => `(tactic| (k_here; refine hold_intro ?_))
local macro_rules | `(tactic| walk_at "pyIter ref") => `(tactic| (k_here; refine hold_intro ?_))
local macro_rules | `(tactic| walk_at "compareOp NotEq ref ref") => `(tactic| (k_here; k_dflt (refine' ne_strs ?l ?b ?x ?y ?u ?_; (case l => first | exact News.isList (by k_asm) (by k_mem)); (case b => exact News.isList (by k_asm) (by k_mem)); (case x => assumption); (case y => assumption); (case u => ktr_units); k_whole)))
local macro_rules | `(tactic| walk_at "exec For Name Call cons nil") => `(tactic| (k_here; k_dflt (refine wpAny_For ?_ ?hs; (case hs => (intro _; rfl)))))
local macro_rules | `(tactic| walk_at "call ref cons nil") => `(tactic| (k_here; (with_reducible show wpAny _ _ (call (Value.ref 61) [Value.int _ _]) _ _ _); k_dflt (refine' fm_contract ?k1 ?k2 ?k3 ?k5 ?kK ?kd ?ku  ?_; (case k1 => k_asm); (case k2 => k_asm); (case k3 => k_asm); (case k5 => k_asm); (case kK => first | exact rfl | assumption); (case kd => ktr_room); (case ku => ktr_units);  skip); (rename Fr _ _ _ _ => kF9); (rename News _ _ _ _ => kN9); intro h9 tk9 hk9 t9; (have F9 := Fr.keeps kF9 hk9); (have N9 := News.grown kN9 hk9);  clear kF9 kN9; (try dsimp only)))
local macro_rules | `(tactic| walk_at "call ref cons nil") => `(tactic| (k_here; (with_reducible show wpAny _ _ (call (Value.ref 68) [Value.int _ _]) _ _ _); k_dflt (refine' single_contract ?k1 ?k2 ?k3 ?k5 ?kK ?kd ?ku ?p1 ?p2 ?_; (case k1 => k_asm); (case k2 => k_asm); (case k3 => k_asm); (case k5 => k_asm); (case kK => first | exact rfl | assumption); (case kd => ktr_room); (case ku => ktr_units); (case p1 => assumption); (case p2 => assumption); skip); (rename Fr _ _ _ _ => kF9); (rename News _ _ _ _ => kN9); intro h9 tk9 hk9 t9; (have F9 := Fr.keeps kF9 hk9); (have N9 := News.grown kN9 hk9);  clear kF9 kN9; (try dsimp only)))
local macro_rules | `(tactic| walk_at "call ref cons nil") => `(tactic| (k_here; (with_reducible show wpAny _ _ (call (Value.ref 73) [Value.str (fmText _) _, Value.ref _]) _ _ _); k_dflt (refine' values_contract ?k1 ?k2 ?k3 ?k5 ?kK ?kd ?ku ?l1 ?l2 ?_; (case k1 => k_asm); (case k2 => k_asm); (case k3 => k_asm); (case k5 => k_asm); (case kK => first | exact rfl | assumption); (case kd => ktr_room); (case ku => ktr_units); (case l1 => first | exact News.isList (by k_asm) (by k_mem) | exact Fr.lst (by k_asm) (by k_asm) | k_asm); (case l2 => assumption); skip); (rename Fr _ _ _ _ => kF9); (rename News _ _ _ _ => kN9); intro h9 tk9 hk9 D9 us9 hD9 hg9 hu9; (have F9 := Fr.keeps kF9 hk9); (have N9 := News.grown kN9 hk9); (have l9 := news_ne kN9 hD9); (replace N9 := news_more kF9 N9 hD9 hg9); clear kF9 kN9; (try dsimp only)))
local macro_rules | `(tactic| walk_at "call ref cons nil") => `(tactic| (k_here; (with_reducible show wpAny _ _ (call (Value.ref 78) [Value.int _ _, Value.ref _, Value.ref _]) _ _ _); k_dflt (refine' is_contract ?k1 ?k2 ?k3 ?k5 ?kK ?kd ?ku ?l1 ?l2 ?l3 ?l4 ?_; (case k1 => k_asm); (case k2 => k_asm); (case k3 => k_asm); (case k5 => k_asm); (case kK => first | exact rfl | assumption); (case kd => ktr_room); (case ku => ktr_units); (case l1 => first | exact News.isList (by k_asm) (by k_mem) | exact Fr.lst (by k_asm) (by k_asm) | k_asm); (case l2 => assumption); (case l3 => first | exact News.isList (by k_asm) (by k_mem) | exact Fr.lst (by k_asm) (by k_asm) | k_asm); (case l4 => assumption); skip); (rename Fr _ _ _ _ => kF9); (rename News _ _ _ _ => kN9); intro h9 tk9 hk9 ; (have F9 := Fr.keeps kF9 hk9); (have N9 := News.grown kN9 hk9);  clear kF9 kN9 hk9; (try dsimp only)))
theorem pow_cast (i : Nat) : (2 : Int) ^ ((i : Int).toNat) = ((2 ^ i : Nat) : Int) := by rw [Int.toNat_natCast]; push_cast; rfl
theorem get_none {h h' : Heap} {d : Addr} (hk : ∀ b o, h.get? b = some o → h'.get? b = some o) (hd : h'.get? d = none) : h.get? d = none := by
  cases e : h.get? d with
  | none => rfl
  | some o => rw [hk _ _ e] at hd; cases hd
theorem news_skip2 {h₀ h : Heap} {L : Addr} {a b d : Addr × Obj} {l : List (Addr × Obj)} (N : News h₀ L h (a :: b :: d :: l)) : News h₀ L h (a :: l) := fun p hp => by
  rcases List.mem_cons.mp hp with rfl | hp
  · exact N _ (.head _)
  · exact N p (.tail _ (.tail _ (.tail _ hp)))
theorem size_two (n : Nat) : Builtin.Range.rangeSize 0 (n : Int) 2 = (((n + 1) / 2 : Nat) : Int) := by rw [rangeSize_pos (by decide) (by omega)]; omega
theorem fits_long {i : Int} (h0 : -4294967296 ≤ i) (h1 : i ≤ 4294967296) : Builtin.Range.rangeFitsLong i = true := by
  unfold Builtin.Range.rangeFitsLong
  rw [Bool.and_eq_true, decide_eq_true_eq, decide_eq_true_eq]
  exact ⟨by omega, by omega⟩
theorem small_two {n : Nat} (h : n ≤ 2 ^ 20 + 2) : Builtin.Range.small 0 (n : Int) 2 = true := by
  unfold Builtin.Range.small
  rw [size_two, fits_long (i := 0) (by decide) (by decide), fits_long (i := (n : Int)) (by omega) (by omega), fits_long (i := 2) (by decide) (by decide), fits_long (i := (((n + 1) / 2 : Nat) : Int)) (by omega) (by omega), if_pos (by decide), fits_long (i := (n : Int) + (2 - 1)) (by omega) (by omega)]
  simp
theorem zeros_eq (a : Int) : (List.replicate (Int.toNat 9) [(0 : Int)]).flatten = (List.range 9).map (valB (a % ((2 ^ 0 : Nat) : Int))) := by
  have e : a % ((2 ^ 0 : Nat) : Int) = 0 := by simp [Int.emod_one]
  rw [e]; decide
theorem news_skip1 {h₀ h : Heap} {L : Addr} {a b : Addr × Obj} {l : List (Addr × Obj)} (N : News h₀ L h (a :: b :: l)) : News h₀ L h (a :: l) := fun p hp => by
  rcases List.mem_cons.mp hp with rfl | hp
  · exact N _ (.head _)
  · exact N p (.tail _ (.tail _ hp))
theorem off_of2 {l : List (Addr × Obj)} {I : Addr} (h : ∀ p ∈ l, p.1 ≠ I) : ∀ p ∈ l, p.1 ∉ [I] := fun p hp e => h p hp (List.mem_singleton.mp e)
theorem off_new {I D : Addr} (h : I < D) : D ∉ [I] := fun e => absurd h (by rw [List.mem_singleton.mp e]; exact Nat.lt_irrefl _)
theorem bit_cond {a k : Int} {j : Nat} (hk : k = (j : Int)) : (a.fdiv (2 ^ k.toNat)).fmod 2 = bitI a j := by
  subst hk
  rw [pow_cast, fdv0 (Int.natCast_nonneg _), fmv0 (by decide)]
  rfl
theorem ds_item {prog : Program} {w : World} {A : Around} {E : Value → Shared → Prop} {s : Shared} {value slice : PySem.Expr} {S : Addr} {ds : List (Addr × Obj)} {k : Int} {u : Tok} {Q : Value → Shared → Prop} (hl : s.heap.IsList S (ds.map fun p => Value.ref p.1).toArray) (h0 : 0 ≤ k) (h1 : k < (ds.length : Int)) (hhi : k < 2 ^ 63)
    (h : ∀ p, ds[k.toNat]? = some p → Q (.ref p.1) s)
    (hs : subscripted slice false (.ref S) (.int k u) = operate [.ref S, .int k u] (getItem (.ref S) (.int k u))) :
    wpAny (model prog w) A (subscriptTail value slice (.ref S) (.int k u)) Q E s := by
  have hk : k.toNat < ds.length := by omega
  exact tail_any hl.typeIs slot_list_getitem.lookup (wpAny_getItem_list hl h0 hhi (by simp [hk]) (h (ds[k.toNat]'hk) (List.getElem?_eq_getElem hk))) hs
local macro_rules | `(tactic| walk_at "subscriptTail") => `(tactic| (k_here; (with_reducible show wpAny _ _ (subscriptTail _ _ (Value.ref _) (Value.int _ _)) _ _ _); k_dflt (refine' ds_item ?l ?a ?b ?c ?_ ?s; (case l => exact News.isList (by k_asm) (by k_mem)); (case a => omega); (case b => omega); (case c => omega); (case s => with_unfolding_all rfl); k_whole); intro pd9 hpd9))
theorem tab_fit (i : Nat) : ¬ ((tabsL.getD i (Str.ofString "")).length : Int) ≥ 2 ^ 63 := by
  by_cases h : i < 9
  · exact nine (P := fun i => ¬ ((tabsL.getD i (Str.ofString "")).length : Int) ≥ 2 ^ 63) (by decide) (by decide) (by decide) (by decide) (by decide) (by decide) (by decide) (by decide) (by decide) i h
  · have : tabsL.getD i (Str.ofString "") = Str.ofString "" := by
      rw [List.getD_eq_getElem?_getD, List.getElem?_eq_none (by show 9 ≤ i; omega)]; rfl
    rw [this]; decide
local macro_rules | `(tactic| walk_at "call builtin:len") => `(tactic| (k_here; (with_reducible show wpAny _ _ (call (Value.builtin "len") [Value.str (List.getD tabsL _ _) _]) _ _ _); refine PyProof.Rows.len_str (tab_fit _) ?_))
local macro_rules | `(tactic| walk_at "compareOp In bool ref") => `(tactic| (k_here; k_dflt (refine' in_bools (bs := [true, true, true, true, true, true]) ?l ?x ?_; (case l => exact News.isList (by k_asm) (by k_mem)); (case x => rfl); k_whole)))
/-- shut against the unfolding of what a claim ends in -/
structure Box (p : Prop) : Prop where
  out : p
theorem law_body {w : World} {p : Program} {loose : List Str} {mean : ExcName → Option Value} {mg mb : Str → Option Value} {base h₀ : Heap} {L fa sc c : Addr} {oc : Obj} {cd : Value} {s : Shared} {vs0 : List Value} {ns : List Int} {m₀ : Str → Option Value} {v₀ : Option Value}
    (B : Below callerA base [] h₀) (F : Fr h₀ L s.heap m₀) (hm₀ : m₀ (Str.ofString "script") = some (.ref sc)) (N : News h₀ L s.heap [(c, oc)]) (hoc : oc.data = .cell v₀) (X : (hd.heap_39 w.params).In h₀) (T : Top p loose mean mg mb h₀)
    (hL : h₀.IsList sc vs0.toArray) (hI : IntsAre vs0 ns) (hlay : (PyData.list (ns.map PyData.int)).layable0 = true) :
    Box (wpAny (model PySem.Challenge.rw_dn0160_03.row.prog w) (callerA.deeper (envX (Str.ofString "law") (fnScope (hd.heap_39 w.params) 83) L fa cd [(Str.ofString "tables", c)])) (execs (fnBody (hd.heap_39 w.params) 83) (envX (Str.ofString "law") (fnScope (hd.heap_39 w.params) 83) L fa cd [(Str.ofString "tables", c)]))
      (fun fl s' => LawEnd h₀ L s fl s') (fun _ _ => False) s) := by
  w_top off
  constructor
  revert X; k_fill; intro X
  conv in fnBody _ _ => whnf
  rw [chainN (m := m₀) (l := [(Str.ofString "script", .ref sc)]) (by simp [hm₀])] at F
  dsimp only [List.foldr] at F
  clear hm₀
  with_reducible refine execs_cut 1 (fun s' => ∃ h' tk m' T vt n oc', s' = { s with heap := h', toks := tk } ∧ Fr h₀ L h' m' ∧ m' (Str.ofString "script") = some (.ref sc) ∧ News h₀ L h' [(T, listOf (List.toArray vt) n), (c, oc')] ∧ StrsAre vt tabsL ∧ oc'.data = .cell (some (.ref T))) ?_ ?_
  · dsimp only [List.take]
    k_steps
    rename Fr _ _ _ _ => F9
    rename News _ _ _ _ => N9
    rename (Obj.data _ = Data.cell (some _)) => hd9
    refine ⟨rfl, _, _, _, _, _, _, _, rfl, F9, rfl, N9, ?_, hd9⟩
    unfold tabsL
    repeat' (first | exact StrsAre.nil | refine StrsAre.cons _ _ ?_)
  clear F N hoc
  rintro s' ⟨h₁, tk₁, m₁, T₁, vt, n₁, oc', rfl, F1, q1, N1, hvt, hoc⟩
  dsimp only [List.drop]
  rw [chainN (m := m₁) (l := [(Str.ofString "script", .ref sc)]) (by simp [q1])] at F1
  dsimp only [List.foldr] at F1
  clear q1
  with_reducible refine execs_cut 1 (fun s' => ∃ h' tk m', s' = { s with heap := h', toks := tk } ∧ Fr h₀ L h' m' ∧ m' (Str.ofString "script") = some (.ref sc) ∧ News h₀ L h' [(T₁, listOf (List.toArray vt) n₁), (c, oc')]) ?_ ?_
  · dsimp only [List.take]
    k_steps
    walk_at "MyOne"
    k_steps
    rename Fr _ _ _ _ => F2
    rename News _ _ _ _ => N2
    rename IsRange _ _ _ _ _ _ _ _ => hR
    refine range_vals (n := 16) rfl F2 N2 hR (by decide) (by decide) (by decide) (fun i v => ∃ t, v = .str (fmText ((2 ^ i : Nat) : Int)) t) ?_ (FinOk.plain ?_)
    · clear F2 N2 hR
      intro i k t' C oC m₃ h₃ tk₃ E' hi hk F3 N3 hlt hNs ma
      rw [Int.zero_add] at hk
      k_steps
      show (∃ _, _ = _) ∧ Keeps _ _
      refine ⟨⟨_, by rw [hk, pow_cast]⟩, _, _, rfl, ?_⟩
      assumption
    · clear F2 N2 hR
      intro D ys h₃ tk₃ F3 N3 hlt hy hG
      have hS1 : StrsAre ys ((List.range 16).map fun i => fmText ((2 ^ i : Nat) : Int)) := strs_of hy hG
      clear hG
      k_steps
      walk_at "MyOne"
      k_steps
      rename Fr _ _ _ _ => F4
      rename News _ _ _ _ => N4
      rename IsRange _ _ _ _ _ _ _ _ => hR
      refine range_vals (n := 16) rfl F4 N4 hR (by decide) (by decide) (by decide) (fun i v => ∃ t, v = .str (fmText ((2 ^ i : Nat) : Int)) t) ?_ (FinOk.plain ?_)
      · clear F4 N4 hR
        intro i k t' C oC m₃ h₅ tk₅ E' hi hk F5 N5 hlt hNs ma
        rw [Int.zero_add] at hk
        k_steps
        show (∃ _, _ = _) ∧ Keeps _ _
        refine ⟨⟨_, rfl⟩, _, _, rfl, ?_⟩
        assumption
      · clear F4 N4 hR
        intro D' ys' h₅ tk₅ F5 N5 hlt hy' hG
        have hS2 : StrsAre ys' ((List.range 16).map fun i => fmText ((2 ^ i : Nat) : Int)) := strs_of hy' hG
        clear hG
        k_steps
        exact ⟨rfl, _, _, _, rfl, F5, rfl, news_pick2 N5 (by k_mem) (by k_mem)⟩
  clear F1 N1
  rintro s' ⟨h₁, tk₁, m₁, rfl, F1, q1, N1⟩
  dsimp only [List.drop]
  rw [chainN (m := m₁) (l := [(Str.ofString "script", .ref sc)]) (by simp [q1])] at F1
  dsimp only [List.foldr] at F1
  clear q1
  with_reducible refine execs_cut 1 (fun s' => ∃ h' tk m' S ds, s' = { s with heap := h', toks := tk } ∧ Fr h₀ L h' m' ∧ m' (Str.ofString "script") = some (.ref sc) ∧ m' (Str.ofString "singles") = some (.ref S) ∧ News h₀ L h' [(S, LCg.lst (ds.map fun p => Value.ref p.1)), (T₁, listOf (List.toArray vt) n₁), (c, oc')] ∧
      News h₀ L h' ds ∧ ds.length = 12 ∧ ∀ (i : Nat) (p : Addr × Obj), ds[i]? = some p → ∃ zs, p.2 = LCg.lst zs ∧ IntsAre zs (valsL ((2 ^ i : Nat) : Int))) ?_ ?_
  · dsimp only [List.take]
    k_steps
    walk_at "MyOneA"
    k_steps
    rename Fr _ _ _ _ => F2
    rename News _ _ _ _ => N2
    rename IsRange _ _ _ _ _ _ _ _ => hR
    refine range_objsA (n := 12) rfl F2 N2 hR (by decide) (by decide) (by decide) rfl rfl rfl (fun i o => ∃ zs, o = LCg.lst zs ∧ IntsAre zs (valsL ((2 ^ i : Nat) : Int))) ?_ ?_
    · clear F2 N2 hR
      intro i k t' C oC m₃ h₃ tk₃ E' hi hk F3 N3 hlt hNs ma
      rw [Int.zero_add] at hk
      k_steps
      rename_i h9a tk9a hka t9 h9b tk9b hkb D9 us9 hD9 hg9 hu9 F9 l9 N9
      rw [hk, pow_cast] at hu9
      show (∃ _ _, _) ∧ Keeps _ _
      exact ⟨⟨D9, _, rfl, get_none hka hD9, hg9, us9, rfl, hu9⟩, _, _, rfl, fun b o e => hkb b o (hka b o e)⟩
    · clear F2 N2 hR
      intro D ds h₃ tk₃ F3 N3 N3' hlt hy hG
      k_steps
      exact ⟨rfl, _, _, _, _, ds, rfl, F3, rfl, rfl, N3, N3', hy, hG⟩
  clear F1 N1
  rintro s' ⟨h₁, tk₁, m₁, S, ds, rfl, F1, q1, q2, N1, Nd, hdl, hds⟩
  dsimp only [List.drop]
  rw [chainN (m := m₁) (l := [(Str.ofString "script", .ref sc), (Str.ofString "singles", .ref S)]) (by simp [q1, q2])] at F1
  dsimp only [List.foldr] at F1
  clear q1 q2
  have N2 : News h₀ L h₁ ((S, LCg.lst (ds.map fun p => Value.ref p.1)) :: (T₁, listOf (List.toArray vt) n₁) :: (c, oc') :: ds) := by
    intro p hp
    rcases List.mem_cons.mp hp with rfl | hp
    · exact N1 _ (.head _)
    rcases List.mem_cons.mp hp with rfl | hp
    · exact N1 _ (.tail _ (.head _))
    rcases List.mem_cons.mp hp with rfl | hp
    · exact N1 _ (.tail _ (.tail _ (.head _)))
    · exact Nd p hp
  clear N1 Nd
  have hb9 := len_ints_list hlay
  with_reducible refine execs_cut 1 (fun s' => ∃ h' tk m' Dn ws nn NS, s' = { s with heap := h', toks := tk } ∧ Fr h₀ L h' m' ∧ m' (Str.ofString "singles") = some (.ref S) ∧ m' (Str.ofString "numbers") = some (.ref Dn) ∧ IntsAre ws NS ∧ 2 ≤ NS.length ∧ NS.length ≤ 2 ^ 20 + 2 ∧
      News h₀ L h' ((Dn, listOf (List.toArray ws) nn) :: (S, LCg.lst (ds.map fun p => Value.ref p.1)) :: (T₁, listOf (List.toArray vt) n₁) :: (c, oc') :: ds)) ?_ ?_
  · dsimp only [List.take]
    k_steps
    rename Fr _ _ _ _ => F9
    rename News _ _ _ _ => N9
    rename IntsAre _ (_ ++ _) => hI9
    exact ⟨rfl, _, _, _, _, _, _, _, rfl, F9, rfl, rfl, hI9, by simp, by simp; omega, news_skip2 N9⟩
  clear F1 N2
  rintro s' ⟨h₁, tk₁, m₁, Dn, ws, nn, NS, rfl, F1, q1, q2, hNS, hl2, hlen, N1⟩
  dsimp only [List.drop]
  rw [chainN (m := m₁) (l := [(Str.ofString "singles", .ref S), (Str.ofString "numbers", .ref Dn)]) (by simp [q1, q2])] at F1
  dsimp only [List.foldr] at F1
  clear q1 q2
  k_steps
  rename Fr _ _ _ _ => F2
  rename News _ _ _ _ => N2
  rename IsRange _ _ _ _ _ _ _ _ => hR
  refine iter_rangeC (n := (NS.length + 1) / 2) (env := envX (Str.ofString "law") (fnScope (hd.heap_39 w.params) 83) L fa cd [(Str.ofString "tables", c)]) rfl hR ?_ ?_ F2 N2 (fun i m₁ news₁ => m₁ (Str.ofString "singles") = some (.ref S) ∧ m₁ (Str.ofString "numbers") = some (.ref Dn) ∧ news₁ = ((Dn, listOf (List.toArray ws) nn) :: (S, LCg.lst (ds.map fun p => Value.ref p.1)) :: (T₁, listOf (List.toArray vt) n₁) :: (c, oc') :: ds)) ?_ ?_ ?_ PassesOwn.never
  · exact small_two hlen
  · exact size_two _
  · exact ⟨rfl, rfl, rfl⟩
  · clear F2 N2 hR
    intro i k t₁ m₁ news₁ h₂ tk₁ I o hi hk hJ hoff F2 N2 hlt
    obtain ⟨q1, q2, rfl⟩ := hJ
    rw [chainN (m := m₁) (l := [(Str.ofString "singles", .ref S), (Str.ofString "numbers", .ref Dn)]) (by simp [q1, q2])] at F2
    dsimp only [List.foldr] at F2
    replace F2 : Fr h₀ L h₂ _ := F2
    replace N2 : News h₀ L h₂ _ := N2
    clear q1 q2 hlt
    have hk0 : 0 ≤ k := by omega
    have hk1 : k < (NS.length : Int) := by omega
    refine wpAny_assign_Name (storeX_L F2 N2 (fun h₃ F3 N3 => ?_) rfl rfl)
    clear F2 N2
    with_reducible refine execs_cut 3 (fun s' => ∃ h' tk m' a b ta tb Dl ys nl, s' = { s with heap := h', toks := tk } ∧ Fr h₀ L h' m' ∧ m' (Str.ofString "singles") = some (.ref S) ∧ m' (Str.ofString "numbers") = some (.ref Dn) ∧ m' (Str.ofString "a") = some (.int a ta) ∧ m' (Str.ofString "b") = some (.int b tb) ∧ m' (Str.ofString "laid") = some (.ref Dl) ∧
        IntsAre ys ((List.range 9).map (valB (a % ((2 ^ 0 : Nat) : Int)))) ∧ News h₀ L h' ((Dl, listOf (List.toArray ys) nl) :: (I, o) :: (Dn, listOf (List.toArray ws) nn) :: (S, LCg.lst (ds.map fun p => Value.ref p.1)) :: (T₁, listOf (List.toArray vt) n₁) :: (c, oc') :: ds)) ?_ ?_
    · dsimp only [List.take]
      k_steps
      rename Fr _ _ _ _ => F9
      rename News _ _ _ _ => N9
      rename IntsAre _ (List.flatten _) => hI9
      refine ⟨rfl, _, _, _, _, _, _, _, _, _, _, rfl, F9, rfl, rfl, rfl, rfl, rfl, ?_, news_skip1 N9⟩
      rw [zeros_eq] at hI9
      exact hI9
    clear F3 N3
    rintro s' ⟨h₃, tk₃, m₃, a, b, ta, tb, Dl, ys, nl, rfl, F3, q1, q2, q3, q4, q5, hys, N3⟩
    dsimp only [List.drop]
    rw [chainN (m := m₃) (l := [(Str.ofString "singles", .ref S), (Str.ofString "numbers", .ref Dn), (Str.ofString "a", .int a ta), (Str.ofString "b", .int b tb), (Str.ofString "laid", .ref Dl)]) (by simp [q1, q2, q3, q4, q5])] at F3
    dsimp only [List.foldr] at F3
    clear q1 q2 q3 q4 q5
    with_reducible refine execs_cut 1 (fun s' => ∃ h' tk m' Dl ys nl, s' = { s with heap := h', toks := tk } ∧ Fr h₀ L h' m' ∧ m' (Str.ofString "singles") = some (.ref S) ∧ m' (Str.ofString "numbers") = some (.ref Dn) ∧ m' (Str.ofString "a") = some (.int a ta) ∧ m' (Str.ofString "b") = some (.int b tb) ∧ m' (Str.ofString "laid") = some (.ref Dl) ∧
        IntsAre ys (valsL a) ∧ News h₀ L h' ((Dl, listOf (List.toArray ys) nl) :: (I, o) :: (Dn, listOf (List.toArray ws) nn) :: (S, LCg.lst (ds.map fun p => Value.ref p.1)) :: (T₁, listOf (List.toArray vt) n₁) :: (c, oc') :: ds)) ?_ ?_
    · dsimp only [List.take]
      k_steps
      rename Fr _ _ _ _ => F4
      rename News _ _ _ _ => N4
      rename IsRange _ _ _ _ _ _ _ _ => hR
      refine iter_range (n := 12) (env := envX (Str.ofString "law") (fnScope (hd.heap_39 w.params) 83) L fa cd [(Str.ofString "tables", c)]) rfl hR (by decide) (by decide) F4 N4 (fun j m₁ news₁ => m₁ (Str.ofString "singles") = some (.ref S) ∧ m₁ (Str.ofString "numbers") = some (.ref Dn) ∧ m₁ (Str.ofString "a") = some (.int a ta) ∧ m₁ (Str.ofString "b") = some (.int b tb) ∧
        ∃ Dl ys nl, m₁ (Str.ofString "laid") = some (.ref Dl) ∧ IntsAre ys ((List.range 9).map (valB (a % ((2 ^ j : Nat) : Int)))) ∧ news₁ = ((Dl, listOf (List.toArray ys) nl) :: (I, o) :: (Dn, listOf (List.toArray ws) nn) :: (S, LCg.lst (ds.map fun p => Value.ref p.1)) :: (T₁, listOf (List.toArray vt) n₁) :: (c, oc') :: ds)) ?_ ?_ ?_ PassesOwn.never
      · exact ⟨rfl, rfl, rfl, rfl, _, _, _, rfl, hys, rfl⟩
      · clear F4 N4 hR hys
        intro j kb tb₁ m₄ news₄ h₄ tk₄ I₂ o₂ hj hkb hJ hoff₂ F4 N4 hlt₂
        obtain ⟨q1, q2, q3, q4, Dl, ys, nl, q5, hys, rfl⟩ := hJ
        rw [chainN (m := m₄) (l := [(Str.ofString "singles", .ref S), (Str.ofString "numbers", .ref Dn), (Str.ofString "a", .int a ta), (Str.ofString "b", .int b tb), (Str.ofString "laid", .ref Dl)]) (by simp [q1, q2, q3, q4, q5])] at F4
        dsimp only [List.foldr] at F4
        replace F4 : Fr h₀ L h₄ _ := F4
        replace N4 : News h₀ L h₄ _ := N4
        clear q1 q2 q3 q4 q5 hlt₂
        rw [Int.zero_add] at hkb
        have hoff₃ := off_of2 hoff₂
        k_steps
        · rename (Int.fmod _ 2 = 1) => hbit
          rw [bit_cond hkb] at hbit
          walk_at "MyPairsA"
          k_steps
          rename Fr _ _ _ _ => F5
          rename News _ _ _ _ => N5
          rename_i pd hpd
          rw [hkb, Int.toNat_natCast] at hpd
          obtain ⟨zs, hzo, hzs⟩ := hds j pd hpd
          have hmem : pd ∈ ds := List.mem_of_getElem? hpd
          have hIl : Heap.IsList _ pd.1 zs.toArray := ⟨_, (N5 pd (by simp [hmem])).1, by rw [hzo], zs.length, by rw [hzo]⟩
          have hly : ys.length = 9 := hys.length
          have hlz : zs.length = 9 := hzs.length
          refine zip_ll rfl F5 N5 (News.isList N5 (by k_mem)) hIl (by rw [hly, hlz]) (by rw [hly]; decide) (fun i v => ∃ t, v = .int (Builtin.bitOr (valB (a % ((2 ^ j : Nat) : Int)) i) (valB ((2 ^ j : Nat) : Int) i)) t) ?_ (FinOk.assign rfl rfl rfl ?_)
          · clear F5 N5 hIl
            intro i' v u C oC m₅ h₅ tk₅ E' hv hu F5 N5 hlt hNs ma mb'
            obtain ⟨tv, hi', rfl⟩ := ints_at hys hv
            obtain ⟨tu, _, rfl⟩ := ints_at hzs hu
            k_steps
            exact ⟨⟨_, rfl⟩, _, _, rfl, fun _ _ e => e⟩
          · clear F5 N5 hIl
            intro D ys' h₅ tk₅ F5 N5 hlt hy' hG
            rw [hly] at hy'
            have hI' : IntsAre ys' ((List.range 9).map (valB (a % ((2 ^ (j + 1) : Nat) : Int)))) := by
              refine ints_of hy' fun i' v hv => ?_
              obtain ⟨t, rfl⟩ := hG i' v hv
              have hi9 : i' < 9 := by rw [← hy']; exact (List.getElem?_eq_some_iff.mp hv).1
              exact ⟨t, by rw [← laid_more hbit, valB_or _ _ i' hi9]⟩
            k_steps
            refine step_next (its := [(I₂, o₂)]) (news₂ := ((D, listOf (List.toArray ys') ys'.length) :: (I, o) :: (Dn, listOf (List.toArray ws) nn) :: (S, LCg.lst (ds.map fun p => Value.ref p.1)) :: (T₁, listOf (List.toArray vt) n₁) :: (c, oc') :: ds)) F5 ?_ ?_ ?_
            · intro p hp
              rcases List.mem_cons.mp hp with rfl | hp
              · exact N5 _ (.tail _ (.head _))
              rcases List.mem_cons.mp hp with rfl | hp
              · exact N5 _ (.head _)
              · exact N5 p (.tail _ (.tail _ (.tail _ hp)))
            · intro p hp
              rcases List.mem_cons.mp hp with rfl | hp
              · exact off_new (hlt (I₂, o₂) (.head _))
              · exact hoff₃ p (.tail _ hp)
            · exact ⟨rfl, rfl, rfl, rfl, D, ys', ys'.length, rfl, hI', rfl⟩
        · rename (Int.fmod _ 2 ≠ 1) => hbit
          rw [bit_cond hkb] at hbit
          have hb0 : bitI a j = 0 := by rcases bit01 a j with h | h; exact h; exact absurd h hbit
          rw [laid_same hb0] at hys
          refine step_next (its := [(I₂, o₂)]) (by k_asm) (by k_asm) hoff₃ ?_
          exact ⟨rfl, rfl, rfl, rfl, _, _, _, rfl, hys, rfl⟩
      · clear F4 N4 hR hys
        intro h₄ tk₄ m₄ news₄ F4 N4 hJ
        obtain ⟨q1, q2, q3, q4, Dl, ys, nl, q5, hys, rfl⟩ := hJ
        replace F4 : Fr h₀ L h₄ _ := F4
        replace N4 : News h₀ L h₄ _ := N4
        have hys' : IntsAre ys (valsL a) := by
          have e : (List.range 9).map (valB (a % ((2 ^ 12 : Nat) : Int))) = valsL a := List.map_congr_left fun i hi => valB_low a i (List.mem_range.mp hi)
          rw [← e]; exact hys
        k_steps
        exact ⟨rfl, _, _, _, _, _, _, rfl, F4, q1, q2, q3, q4, q5, hys', N4⟩
    clear F3 N3 hys
    rintro s' ⟨h₃, tk₃, m₃, Dl, ys, nl, rfl, F3, q1, q2, q3, q4, q5, hys, N3⟩
    dsimp only [List.drop]
    rw [chainN (m := m₃) (l := [(Str.ofString "singles", .ref S), (Str.ofString "numbers", .ref Dn), (Str.ofString "a", .int a ta), (Str.ofString "b", .int b tb), (Str.ofString "laid", .ref Dl)]) (by simp [q1, q2, q3, q4, q5])] at F3
    dsimp only [List.foldr] at F3
    clear q1 q2 q3 q4 q5
    have hoff₃ := off_of2 hoff
    clear hoff
    with_reducible refine execs_cut 2 (fun s' => ∃ h' tk m' D1 us1 D2 us2, s' = { s with heap := h', toks := tk } ∧ Fr h₀ L h' m' ∧ m' (Str.ofString "singles") = some (.ref S) ∧ m' (Str.ofString "numbers") = some (.ref Dn) ∧ m' (Str.ofString "a") = some (.int a ta) ∧ m' (Str.ofString "b") = some (.int b tb) ∧ m' (Str.ofString "laid") = some (.ref Dl) ∧ m' (Str.ofString "one") = some (.ref D1) ∧ m' (Str.ofString "two") = some (.ref D2) ∧
        IntsAre us1 (valsL a) ∧ IntsAre us2 (valsL b) ∧ News h₀ L h' ((D2, LCg.lst us2) :: (D1, LCg.lst us1) :: (Dl, listOf (List.toArray ys) nl) :: (I, o) :: (Dn, listOf (List.toArray ws) nn) :: (S, LCg.lst (ds.map fun p => Value.ref p.1)) :: (T₁, listOf (List.toArray vt) n₁) :: (c, oc') :: ds)) ?_ ?_
    · dsimp only [List.take]
      k_steps
      rename Fr _ _ _ _ => F9
      rename News _ _ _ _ => N9
      exact ⟨rfl, _, _, _, _, _, _, _, rfl, F9, rfl, rfl, rfl, rfl, rfl, rfl, rfl, by assumption, by assumption, N9⟩
    clear F3 N3
    rintro s' ⟨h₃, tk₃, m₃, D1, us1, D2, us2, rfl, F3, q1, q2, q3, q4, q5, q6, q7, hu1, hu2, N3⟩
    dsimp only [List.drop]
    rw [chainN (m := m₃) (l := [(Str.ofString "singles", .ref S), (Str.ofString "numbers", .ref Dn), (Str.ofString "a", .int a ta), (Str.ofString "b", .int b tb), (Str.ofString "laid", .ref Dl), (Str.ofString "one", .ref D1), (Str.ofString "two", .ref D2)]) (by simp [q1, q2, q3, q4, q5, q6, q7])] at F3
    dsimp only [List.foldr] at F3
    clear q1 q2 q3 q4 q5 q6 q7
    have hl1 : us1.length = 9 := hu1.length
    have hl2' : us2.length = 9 := hu2.length
    have hlt0 : vt.length = 9 := hvt.length
    k_steps
    walk_at "MyPairs"
    k_steps
    rename Fr _ _ _ _ => F5
    rename News _ _ _ _ => N5
    refine zip_ll (xs := us1) (ys := us2) rfl F5 N5 (News.isList N5 (by k_mem)) (News.isList N5 (by k_mem)) (by rw [hl1, hl2']) (by rw [hl1]; decide) (fun i v => ∃ t, v = .int (Builtin.bitOr (valB a i) (valB b i)) t) ?_ (FinOk.plain ?_)
    · clear F5 N5
      intro i' v u C oC m₅ h₅ tk₅ E' hv hu F5 N5 hlt hNs ma mb'
      obtain ⟨tv, hi', rfl⟩ := ints_at hu1 hv
      obtain ⟨tu, _, rfl⟩ := ints_at hu2 hu
      k_steps
      exact ⟨⟨_, rfl⟩, _, _, rfl, fun _ _ e => e⟩
    · clear F5 N5
      intro E0 es0 h₅ tk₅ F5 N5 hlt0 hy0 hG
      rw [hl1] at hy0
      have hI0 : IntsAre es0 (valsL (Builtin.bitOr a b)) := by
        refine ints_of hy0 fun i' v hv => ?_
        obtain ⟨t, rfl⟩ := hG i' v hv
        have hi9 : i' < 9 := by rw [← hy0]; exact (List.getElem?_eq_some_iff.mp hv).1
        exact ⟨t, by rw [valB_or _ _ i' hi9]⟩
      clear hG hlt0
      k_steps
      walk_at "MyPairs"
      k_steps
      rename Fr _ _ _ _ => F5
      rename News _ _ _ _ => N5
      refine zip_ll (xs := us1) (ys := us2) rfl F5 N5 (News.isList N5 (by k_mem)) (News.isList N5 (by k_mem)) (by rw [hl1, hl2']) (by rw [hl1]; decide) (fun i v => ∃ t, v = .int (Builtin.bitAnd (valB a i) (valB b i)) t) ?_ (FinOk.plain ?_)
      · clear F5 N5
        intro i' v u C oC m₅ h₅ tk₅ E' hv hu F5 N5 hlt hNs ma mb'
        obtain ⟨tv, hi', rfl⟩ := ints_at hu1 hv
        obtain ⟨tu, _, rfl⟩ := ints_at hu2 hu
        k_steps
        exact ⟨⟨_, rfl⟩, _, _, rfl, fun _ _ e => e⟩
      · clear F5 N5
        intro E1 es1 h₅ tk₅ F5 N5 hlt1 hy1 hG
        rw [hl1] at hy1
        have hI1 : IntsAre es1 (valsL (Builtin.bitAnd a b)) := by
          refine ints_of hy1 fun i' v hv => ?_
          obtain ⟨t, rfl⟩ := hG i' v hv
          have hi9 : i' < 9 := by rw [← hy1]; exact (List.getElem?_eq_some_iff.mp hv).1
          exact ⟨t, by rw [valB_and _ _ i' hi9]⟩
        clear hG hlt1
        k_steps
        walk_at "MyPairs"
        k_steps
        rename Fr _ _ _ _ => F5
        rename News _ _ _ _ => N5
        refine zip_ll (xs := us1) (ys := us2) rfl F5 N5 (News.isList N5 (by k_mem)) (News.isList N5 (by k_mem)) (by rw [hl1, hl2']) (by rw [hl1]; decide) (fun i v => ∃ t, v = .int (Builtin.bitXor (valB a i) (valB b i)) t) ?_ (FinOk.plain ?_)
        · clear F5 N5
          intro i' v u C oC m₅ h₅ tk₅ E' hv hu F5 N5 hlt hNs ma mb'
          obtain ⟨tv, hi', rfl⟩ := ints_at hu1 hv
          obtain ⟨tu, _, rfl⟩ := ints_at hu2 hu
          k_steps
          exact ⟨⟨_, rfl⟩, _, _, rfl, fun _ _ e => e⟩
        · clear F5 N5
          intro E2 es2 h₅ tk₅ F5 N5 hlt2 hy2 hG
          rw [hl1] at hy2
          have hI2 : IntsAre es2 (valsL (Builtin.bitXor a b)) := by
            refine ints_of hy2 fun i' v hv => ?_
            obtain ⟨t, rfl⟩ := hG i' v hv
            have hi9 : i' < 9 := by rw [← hy2]; exact (List.getElem?_eq_some_iff.mp hv).1
            exact ⟨t, by rw [valB_xor _ _ i' hi9]⟩
          clear hG hlt2
          k_steps
          walk_at "MyPairs"
          k_steps
          rename Fr _ _ _ _ => F5
          rename News _ _ _ _ => N5
          refine zip_ll (xs := us1) (ys := us2) rfl F5 N5 (News.isList N5 (by k_mem)) (News.isList N5 (by k_mem)) (by rw [hl1, hl2']) (by rw [hl1]; decide) (fun i v => ∃ t, v = .int (valB a i - Builtin.bitAnd (valB a i) (valB b i)) t) ?_ (FinOk.plain ?_)
          · clear F5 N5
            intro i' v u C oC m₅ h₅ tk₅ E' hv hu F5 N5 hlt hNs ma mb'
            obtain ⟨tv, hi', rfl⟩ := ints_at hu1 hv
            obtain ⟨tu, _, rfl⟩ := ints_at hu2 hu
            k_steps
            exact ⟨⟨_, rfl⟩, _, _, rfl, fun _ _ e => e⟩
          · clear F5 N5
            intro E3 es3 h₅ tk₅ F5 N5 hlt3 hy3 hG
            rw [hl1] at hy3
            have hI3 : IntsAre es3 (valsL (Builtin.bitAnd a (Builtin.bitNot b))) := by
              refine ints_of hy3 fun i' v hv => ?_
              obtain ⟨t, rfl⟩ := hG i' v hv
              have hi9 : i' < 9 := by rw [← hy3]; exact (List.getElem?_eq_some_iff.mp hv).1
              exact ⟨t, by rw [valB_sub _ _ i' hi9]⟩
            clear hG hlt3
            k_steps
            walk_at "MyPairs"
            k_steps
            rename Fr _ _ _ _ => F5
            rename News _ _ _ _ => N5
            refine zip_ll (xs := vt) (ys := us1) rfl F5 N5 (News.isList N5 (by k_mem)) (News.isList N5 (by k_mem)) (by rw [hlt0, hl1]) (by rw [hlt0]; decide) (fun i v => ∃ t, v = .int (((tabsL.getD i (Str.ofString "")).length : Int) - 1 - valB a i) t) ?_ (FinOk.plain ?_)
            · clear F5 N5
              intro i' v u C oC m₅ h₅ tk₅ E' hv hu F5 N5 hlt hNs ma mb'
              obtain ⟨tv, hi', rfl⟩ := strs_at hvt hv
              obtain ⟨tu, _, rfl⟩ := ints_at hu1 hu
              k_steps
              exact ⟨⟨_, rfl⟩, _, _, rfl, fun _ _ e => e⟩
            · clear F5 N5
              intro E4 es4 h₅ tk₅ F5 N5 hlt4 hy4 hG
              rw [hlt0] at hy4
              have hI4 : IntsAre es4 (valsL (Builtin.bitNot a)) := by
                refine ints_of hy4 fun i' v hv => ?_
                obtain ⟨t, rfl⟩ := hG i' v hv
                have hi9 : i' < 9 := by rw [← hy4]; exact (List.getElem?_eq_some_iff.mp hv).1
                exact ⟨t, by rw [valB_not _ i' hi9]⟩
              clear hG hlt4
              k_steps
              rename Fr _ _ _ _ => F6
              rename News _ _ _ _ => N6
              refine step_next (its := [(I, o)]) (news₂ := ((Dn, listOf (List.toArray ws) nn) :: (S, LCg.lst (ds.map fun p => Value.ref p.1)) :: (T₁, listOf (List.toArray vt) n₁) :: (c, oc') :: ds)) F6 ?_ hoff₃ ⟨rfl, rfl, rfl⟩
              exact fun p hp => N6 p (.tail _ (.tail _ (.tail _ (.tail _ (.tail _ (.tail _ (.tail _ (.tail _ (.tail _ hp)))))))))
  · clear F2 N2 hR
    intro h₃ tk₃ m₂ news₂ F3 N3 hJ
    replace F3 : Fr h₀ L h₃ _ := F3
    replace N3 : News h₀ L h₃ _ := N3
    k_steps
    exact ⟨rfl, _, _, _, rfl, F3⟩
end Mine
namespace Mine
theorem box_mono {prog : Program} {w : World} {A : Around} {body : List Stmt} {env : Env} {Q Q' : Flow → Shared → Prop} {E : Value → Shared → Prop} {s : Shared} (h : Box (wpAny (model prog w) A (execs body env) Q (fun _ _ => False) s)) (hq : ∀ fl s', Q fl s' → Q' fl s') :
    Box (wpAny (model prog w) A (execs body env) Q' E s) := ⟨wpAny_mono h.out hq fun _ _ x => x.elim⟩
theorem law_run {w : World} {p : Program} {loose : List Str} {mean : ExcName → Option Value} {mg mb : Str → Option Value} {base h₀ : Heap} {L fa sc c : Addr} {oc : Obj} {cd : Value} {s : Shared} {vs0 : List Value} {ns : List Int} {m₀ : Str → Option Value} {v₀ : Option Value}
    {body : List Stmt} {scope : Scope} {name : Str} {cells : List (Str × Addr)} {Q : Flow → Shared → Prop} {E : Value → Shared → Prop}
    (B : Below callerA base [] h₀) (F : Fr h₀ L s.heap m₀) (N : News h₀ L s.heap [(c, oc)]) (hoc : oc.data = .cell v₀) (X : (hd.heap_39 w.params).In h₀) (T : Top p loose mean mg mb h₀)
    (hL : h₀.IsList sc vs0.toArray) (hI : IntsAre vs0 ns) (hlay : (PyData.list (ns.map PyData.int)).layable0 = true)
    (hb : body = fnBody (hd.heap_39 w.params) 83) (hs : scope = fnScope (hd.heap_39 w.params) 83) (hn : name = Str.ofString "law") (hc : cells = [(Str.ofString "tables", c)]) (hm₀ : m₀ (Str.ofString "script") = some (.ref sc))
    (hq : ∀ fl s', LawEnd h₀ L s fl s' → Q fl s') :
    Box (wpAny (model PySem.Challenge.rw_dn0160_03.row.prog w) (callerA.deeper (envX name scope L fa cd cells)) (execs body (envX name scope L fa cd cells)) Q E s) := by
  subst hb hs hn hc
  exact box_mono (law_body B F hm₀ N hoc X T hL hI hlay) hq
end Mine
theorem PySem.Challenge.cw_dn0160_03_holds : PySem.Challenge.rw_dn0160_03.Holds := by
  refine Mine.hd ?_
  k_go0
  all_goals try k_fold
  rename Fr _ _ _ _ => F1
  rename News _ _ _ _ => N1
  rename (Obj.data _ = Data.cell _) => hoc1
  rename IntsAre _ _ => hI1
  rename Heap.IsList _ _ _ => hL1
  rename Below _ _ _ _ => B1
  rename Top _ _ _ _ _ _ => T1
  rename Frag.In _ _ => X1
  rename PyData.layable0 (PyData.list _) = true => hlay1
  refine Mine.Box.out ?_
  refine' Mine.law_run B1 F1 N1 hoc1 X1 T1 hL1 hI1 hlay1 ?zb ?zs ?zn ?zc ?zm ?zq
  case zb => kernel_rfl
  case zs => kernel_rfl
  case zn => kernel_rfl
  case zc => kernel_rfl
  case zm => kernel_rfl
  case zq =>
    rintro fl s' ⟨rfl, h', tk, m', rfl, F'⟩
    clear F1
    k_steps
