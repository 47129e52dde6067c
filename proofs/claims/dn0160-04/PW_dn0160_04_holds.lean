import PyProof.Rows.All
import Wide.All
import OpenK.AllK
import Wide.FinOn
import PySem.Challenge.RW_dn0160_04
open PySem PySem.W PyProof.Rows PySem.Calls
set_option Elab.async false
set_option maxRecDepth 100000
set_option maxHeartbeats 8000000
namespace Mine
open Sem (wp)
open AutoSeq1 (wpAny_loadPart')
section
variable {prog : Program} {w : World} {A : Around} {E : Value → Shared → Prop} {s : Shared}

theorem nextOf_tuple_item {it l : Addr} {i : Nat} {items : Array Value} {x : Value} {Q : Value → Shared → Prop} (hit : s.heap.IsTupleIter it l i)
    (hl : s.heap.IsTuple l items) (hx : items[i]? = some x)
    (hQ : ∀ h', h'.IsTupleIter it l (i + 1) → Heap.SameBut it s.heap h' → Q x { s with heap := h' }) :
    wpAny (model prog w) A (Builtin.SmallTypes.nextOf (.ref it)) Q E s := by
  obtain ⟨o, ho, hc, hd⟩ := id hit
  obtain ⟨ol, hol, _, nl, hdl⟩ := hl
  unfold Builtin.SmallTypes.nextOf
  refine wpAny_bind (wpAny_callSpecial?_slot (name := Str.ofString "__next__") hit.typeIs F.slot_tuple_iterator_next
    (wpAny_call_entry F.slot_tuple_iterator_next hit.typeIs F.entry_tuple_iterator_next ?_ (F.args_tuple_iterator_next_1 _)))
  show wpAny _ _ (field (.ref it) 0 >>= _) _ _ s
  refine wpAny_bind (wpAny_field ho hd (x := .ref l) rfl ?_)
  show wpAny _ _ (if (Value.ref l == Value.none) = true then _ else _) _ _ s
  rw [if_neg (show ¬ ((Value.ref l == Value.none) = true) from Bool.false_ne_true)]
  show wpAny _ _ (field (.ref it) 1 >>= _) _ _ s
  refine wpAny_bind (wpAny_field ho hd (x := .int i 0) rfl ?_)
  show wpAny _ _ (seqItems? (.ref l) >>= _) _ _ s
  refine wpAny_bind (wpAny_seqItems hol hdl ?_)
  simp only [Int.toNat_natCast, hx]
  refine wpAny_bind (wpAny_setField ho hd (by simp) (wpAny_pure ⟨x, rfl, wpAny_pure (hQ _ ?_ (Heap.SameBut.update ..))⟩))
  exact ⟨_, Heap.get?_update_self _ ho (Obj.isFreed_of_fields (Obj.data_mapFields hd _)), (Obj.cls_mapFields ..).trans hc, by
    rw [Obj.data_mapFields hd]; simp [rawInt]⟩

theorem nextOf_tuple_end {it l : Addr} {i : Nat} {items : Array Value} {Q : Value → Shared → Prop} (hh : A.handled = none)
    (hit : s.heap.IsTupleIter it l i) (hl : s.heap.IsTuple l items) (hx : items[i]? = none)
    (hE : ∀ h' e, Heap.ExtBut it s.heap h' → (∃ o, h'.get? e = some o ∧ o.cls = .type "StopIteration") → E (.ref e) { s with heap := h' }) :
    wpAny (model prog w) A (Builtin.SmallTypes.nextOf (.ref it)) Q E s := by
  obtain ⟨o, ho, hc, hd⟩ := id hit
  obtain ⟨ol, hol, _, nl, hdl⟩ := hl
  unfold Builtin.SmallTypes.nextOf
  refine wpAny_bind (wpAny_callSpecial?_slot (name := Str.ofString "__next__") hit.typeIs F.slot_tuple_iterator_next
    (wpAny_call_entry F.slot_tuple_iterator_next hit.typeIs F.entry_tuple_iterator_next ?_ (F.args_tuple_iterator_next_1 _)))
  show wpAny _ _ (field (.ref it) 0 >>= _) _ _ s
  refine wpAny_bind (wpAny_field ho hd (x := .ref l) rfl ?_)
  show wpAny _ _ (if (Value.ref l == Value.none) = true then _ else _) _ _ s
  rw [if_neg (show ¬ ((Value.ref l == Value.none) = true) from Bool.false_ne_true)]
  show wpAny _ _ (field (.ref it) 1 >>= _) _ _ s
  refine wpAny_bind (wpAny_field ho hd (x := .int i 0) rfl ?_)
  show wpAny _ _ (seqItems? (.ref l) >>= _) _ _ s
  refine wpAny_bind (wpAny_seqItems hol hdl ?_)
  simp only [Int.toNat_natCast, hx]
  refine wpAny_bind (wpAny_rule (wpAny_bind (wpAny_setField ho hd (by simp) ?_)))
  show wpAny _ _ (newExc (.type "StopIteration") [] >>= _) _ _ _
  refine wpAny_bind ?_
  simp only [newExc, newTuple]
  refine wpAny_bind (wpAny_newObj_type ?_ (by size_fits))
  refine wpAny_bind (m := firstArgMember _ _) (wpAny_of_eq (a := Value.none) (by first | rfl | (simp only [firstArgMember]; rfl)) ?_)
  refine wpAny_newObj_type ?_ (by size_fits)
  simp only [raiseNew]
  refine wpAny_bind (wpAny_handled ?_)
  first | rw [show A.in1.handled = none from hh] | rw [hh]
  refine wpAny_bind (wpAny_pure (wpAny_throw ?_))
  exact hE _ _ (((Heap.SameBut.update ..).extBut.push _).push _) ⟨_, Heap.get?_push_size _ rfl, rfl⟩
end

theorem drawsTuple {prog : Program} {w : World} {A : Around} (hh : A.handled = none) (it l : Addr) (hne : l ≠ it) (items : Array Value) :
    Draws prog w A it [it, l] items.size (fun i v => items[i]? = some v) (fun i h => h.IsTupleIter it l i ∧ h.IsTuple l items) where
  live := fun _ _ st => let ⟨o, ho, _⟩ := st.1; ⟨o, ho⟩
  frame := fun _ _ _ st hk => ⟨st.1.at fun o e => hk it (by simp) o e, st.2.at fun o e => hk l (by simp) o e⟩
  item := fun i s Q E hi st hQ => by
    refine nextOf_tuple_item st.1 st.2 (x := items[i]) (by simp [hi]) fun h' hit' hs' => ?_
    exact hQ _ h' s.toks (by simp [hi]) ⟨hit', st.2.extBut hs'.extBut hne⟩ hs'
  done := fun s Q E st hE => nextOf_tuple_end hh st.1 st.2 (by simp) hE

theorem meets_enumerate_newT (l : Addr) (items : Array Value) (n : Nat) (dct : Option Addr) (sl : Array (Option Value)) :
    Meets (Builtin.«enumerate.__new__» ⟨[.type "enumerate", .ref l], []⟩) (fun _ R s => s.heap.get? l = some { cls := .type "tuple", dict := dct, data := .seq items n, slots := sl } ∧
      R (.ok (.ret (.ref (s.heap.push { cls := .type "tuple_iterator", data := .fields #[.ref l, .int 0 0] }).objs.size)))
        { s with heap := (s.heap.push { cls := .type "tuple_iterator", data := .fields #[.ref l, .int 0 0] }).push { cls := .type "enumerate", data := .fields #[.none, .bool false, .ref s.heap.objs.size, rawInt 0, .none, .none] } }) :=
  .of_wp fun prog w A R s h => by
    obtain ⟨hp, g, d, tk, os⟩ := s; obtain ⟨hl, h⟩ := h
    have hsub := sub_enumerate
    have hL : Heap.IsTuple (Shared.heap ⟨hp, g, d, tk, os⟩) l items := ⟨_, hl, rfl, n, rfl⟩
    wp_walk using wpAny_loadPart' hl
    refine wpAny_stack_any fun st => wpAny_pure ?_
    split
    · rename_i c _ _ _ _ _
      cases (c == Value.type "enumerate")
      · wp_walk using wpAny_loadPart' hl, wpAny_pyIter_tuple hL
        exact ⟨_, rfl, h⟩
      · wp_walk using wpAny_loadPart' hl, wpAny_pyIter_tuple hL
        exact ⟨_, rfl, h⟩
    · wp_walk using wpAny_loadPart' hl, wpAny_pyIter_tuple hL
      exact ⟨_, rfl, h⟩

section
variable {prog : Program} {w : World} {A : Around} {E : Value → Shared → Prop} {s : Shared}
theorem call_enumerate_tuple {l : Addr} {items : Array Value} {Q : Value → Shared → Prop} (hL : s.heap.IsTuple l items)
    (h : ∀ h', IsEnum h' (s.heap.objs.size + 1) s.heap.objs.size 0 .none → h'.IsTupleIter s.heap.objs.size l 0 → h'.objs.size = s.heap.objs.size + 2 →
      (∀ b o, s.heap.get? b = some o → h'.get? b = some o) → Q (.ref (s.heap.objs.size + 1)) { s with heap := h' }) :
    wpAny (model prog w) A (call (.type "enumerate") [.ref l]) Q E s := by
  obtain ⟨⟨c, dct, dt, sl⟩, hl, hc, n, hd⟩ := hL
  replace hc : c = .type "tuple" := hc
  replace hd : dt = .seq items n := hd
  subst hc hd
  refine callType_new F.called_enumerate (by decide) (F.typeCall_enumerate_1 _) (F.newCall_enumerate_1 _) (fun obj => F.args_object_init_2 obj _) F.entry_enumerate_new
    (meets_enumerate_newT l items n dct sl) ⟨hl, ?_⟩
  have hz : (s.heap.push { cls := .type "tuple_iterator", data := .fields #[.ref l, .int 0 0] }).objs.size = s.heap.objs.size + 1 := Heap.size_push ..
  show _ ∧ _
  rw [hz]
  have he : IsEnum ((s.heap.push { cls := .type "tuple_iterator", data := .fields #[.ref l, .int 0 0] }).push
      { cls := .type "enumerate", data := .fields #[.none, .bool false, .ref s.heap.objs.size, rawInt 0, .none, .none] }) (s.heap.objs.size + 1) s.heap.objs.size 0 .none := by
    have := Heap.get?_push_size (s.heap.push { cls := .type "tuple_iterator", data := .fields #[.ref l, .int 0 0] })
      (o := { cls := .type "enumerate", data := .fields #[.none, .bool false, .ref s.heap.objs.size, rawInt 0, .none, .none] }) rfl
    rw [hz] at this; exact this
  refine ⟨⟨_, he, rfl⟩, h _ he ⟨_, Heap.get?_push_of_some _ (Heap.get?_push_size _ rfl), rfl, rfl⟩ (by rw [Heap.size_push, hz]) fun b o x => Heap.get?_push_of_some _ (Heap.get?_push_of_some _ x)⟩
end

/-! A loop by an invariant over the frame's map and the ledger; the iterator's own objects apart; any else-block. -/

theorem objsAt {h : Heap} : ∀ {ws : List Addr}, (∀ b ∈ ws, ∃ o, h.get? b = some o) → ∃ its : List (Addr × Obj), its.map (·.1) = ws ∧ ∀ p ∈ its, h.get? p.1 = some p.2
  | [], _ => ⟨[], rfl, fun _ hp => nomatch hp⟩
  | b :: r, hb => by
    obtain ⟨o, ho⟩ := hb b (.head _)
    obtain ⟨its, e, hits⟩ := objsAt (ws := r) fun c hc => hb c (.tail _ hc)
    refine ⟨(b, o) :: its, by simp [e], fun p hp => ?_⟩
    rcases List.mem_cons.mp hp with rfl | hp
    · exact ho
    · exact hits p hp

theorem one_of {its : List (Addr × Obj)} {a : Addr} (h : its.map (·.1) = [a]) : ∃ o, its = [(a, o)] := by
  cases its with
  | nil => cases h
  | cons p r =>
    cases r with
    | nil => obtain ⟨b, o⟩ := p; simp at h; subst h; exact ⟨o, rfl⟩
    | cons q r => simp at h
theorem two_of {its : List (Addr × Obj)} {a b : Addr} (h : its.map (·.1) = [a, b]) : ∃ o o', its = [(a, o), (b, o')] := by
  cases its with
  | nil => cases h
  | cons p r =>
    obtain ⟨c, o⟩ := p
    simp at h
    obtain ⟨rfl, h⟩ := h
    obtain ⟨o', rfl⟩ := one_of (its := r) (a := b) (by simpa using h)
    exact ⟨o, o', rfl⟩

def StepEnd (h₀ : Heap) (L : Addr) (ws : List Addr) (its : List (Addr × Obj)) (s : Shared) (Jn : (Str → Option Value) → List (Addr × Obj) → Prop) (s₃ : Shared) : Prop :=
  ∃ h' tk m₂ news₂, s₃ = { s with heap := h', toks := tk } ∧ Fr h₀ L h' m₂ ∧ News h₀ L h' (its ++ news₂) ∧ (∀ p ∈ news₂, p.1 ∉ ws) ∧ Jn m₂ news₂

def StepPost (h₀ : Heap) (L : Addr) (ws : List Addr) (its : List (Addr × Obj)) (s : Shared) (Jn : (Str → Option Value) → List (Addr × Obj) → Prop) (Q : Flow → Shared → Prop) (f : Flow) (s₃ : Shared) : Prop :=
  match f with
  | .ret v => Q (.ret v) s₃
  | .brk => Q .next s₃
  | .cont => StepEnd h₀ L ws its s Jn s₃
  | .next => StepEnd h₀ L ws its s Jn s₃

theorem my_loop {prog : Program} {w : World} {A : Around} {E : Value → Shared → Prop} {s : Shared} {env : Env} {h₀ : Heap} {target : Expr} {body orelse : List Stmt} {Q : Flow → Shared → Prop}
    {I : Addr} {fp wr : List Addr} {ws : List Addr} {n : Nat} {P Md : Nat → Value → Heap → Prop} {St : Nat → Heap → Prop} {m : Str → Option Value} {news : List (Addr × Obj)}
    (W : KTurns prog w A target I fp wr n P Md St)
    (hfp : ∀ b ∈ fp, b ∈ ws ∨ ∃ o, h₀.get? b = some o) (hwr : ∀ b ∈ wr, b ∈ ws) (hws : ∀ b ∈ ws, h₀.get? b = none ∧ b ≠ env.locals)
    (hob : ∀ i h, St i h → ∀ b ∈ ws, ∃ o, h.get? b = some o)
    (hnw : ∀ p ∈ news, p.1 ∉ ws) (hst : St 0 s.heap) (F : Fr h₀ env.locals s.heap m) (N : News h₀ env.locals s.heap news)
    (J : Nat → (Str → Option Value) → List (Addr × Obj) → Prop) (h0 : J 0 m news)
    (step : ∀ i v m₁ news₁ h₁ tk₁ its, i < n → P i v h₁ → J i m₁ news₁ → (∀ p ∈ news₁, p.1 ∉ ws) → its.map (·.1) = ws → Fr h₀ env.locals h₁ m₁ → News h₀ env.locals h₁ (its ++ news₁) →
      wpAny (model prog w) A (assign target env v) (fun _ s₂ => wpAny (model prog w) A (execs body env)
        (StepPost h₀ env.locals ws its s (J (i + 1)) Q) E s₂) E { s with heap := h₁, toks := tk₁ })
    (done : ∀ h' tk m' news', Fr h₀ env.locals h' m' → News h₀ env.locals h' news' → (∀ p ∈ news', p.1 ∉ ws) → J n m' news' → wpAny (model prog w) A (execs orelse env) Q E { s with heap := h', toks := tk })
    (hE : PassesOwn (model prog w) A env E) :
    codeAny (model prog w) A (.forLoop target (.ref I) body orelse env) (fun r s' => match r with | .ok f => Q f s' | .error e => cameBackBy (model prog w) A env E e s') s := by
  have hLw : env.locals ∉ wr := fun h => (hws _ (hwr _ h)).2 rfl
  have old : ∀ b o, h₀.get? b = some o → b ∉ wr := fun b o e hb => by rw [(hws b (hwr b hb)).1] at e; cases e
  have nw : ∀ b, b ∉ ws → b ∉ wr := fun b hb h => hb (hwr b h)
  refine codeAny_forLoop_any
    (fun k s' => ∃ h' tk m' news' i, s' = { s with heap := h', toks := tk } ∧ St i h' ∧ Fr h₀ env.locals h' m' ∧ News h₀ env.locals h' news' ∧ (∀ p ∈ news', p.1 ∉ ws) ∧ J i m' news' ∧ i ≤ n ∧ k = n + 1 - i) ?_ (n + 1)
    ⟨s.heap, s.toks, m, news, 0, rfl, hst, F, N, hnw, h0, Nat.zero_le _, rfl⟩
  rintro k s' ⟨h', tk, m', news', i, rfl, hst', F', N', hnw', hJ, hi, rfl⟩
  have next : ∀ h₁ : Heap, (∀ b o, b ∉ wr → h'.get? b = some o → h₁.get? b = some o) → Fr h₀ env.locals h₁ m' ∧ News h₀ env.locals h₁ news' := fun h₁ hk₁ =>
    ⟨⟨F'.ns.at' fun o e => hk₁ _ o hLw e, fun b o e => hk₁ b o (old b o e) (F'.keep b o e), F'.above⟩, fun p hp => ⟨hk₁ _ _ (nw _ (hnw' p hp)) (N' p hp).1, (N' p hp).2⟩⟩
  by_cases hlt : i < n
  · refine W.item i _ _ _ hlt hst' fun v h₁ tk₁ hMd hk₁ => ?_
    refine W.go i v _ _ _ hMd fun h₂ hP hst₂ hk₂ => ?_
    obtain ⟨F₂, N₂⟩ := next h₂ fun b o hb x => hk₂ b o hb (hk₁ b o hb x)
    obtain ⟨its, hits, hat⟩ := objsAt (hob _ _ hst₂)
    have Nits : News h₀ env.locals h₂ (its ++ news') := fun p hp => by
      rcases List.mem_append.mp hp with hp | hp
      · have hb : p.1 ∈ ws := hits ▸ List.mem_map.mpr ⟨p, hp, rfl⟩
        exact ⟨hat p hp, (hws _ hb).2, (hws _ hb).1⟩
      · exact N₂ p hp
    have fin : ∀ s₃, StepEnd h₀ env.locals ws its s (J (i + 1)) s₃ → ∃ k', k' < n + 1 - i ∧ ∃ h' tk m' news' i, s₃ = { s with heap := h', toks := tk } ∧ St i h' ∧ Fr h₀ env.locals h' m' ∧ News h₀ env.locals h' news' ∧ (∀ p ∈ news', p.1 ∉ ws) ∧ J i m' news' ∧ i ≤ n ∧ k' = n + 1 - i := by
      rintro s₃ ⟨h₃, tk₃, m₃, news₃, rfl, F₃, N₃, ha₃, hJ₃⟩
      refine ⟨n + 1 - (i + 1), by omega, h₃, tk₃, m₃, news₃, i + 1, rfl, ?_, F₃, fun p hp => N₃ p (List.mem_append_right _ hp), ha₃, hJ₃, hlt, rfl⟩
      refine W.frame _ _ _ hst₂ fun b hb o e => ?_
      rcases hfp b hb with hb | ⟨o₀, ho₀⟩
      · obtain ⟨p, hp, rfl⟩ := List.mem_map.mp (hits ▸ hb)
        have q := hat p hp
        rw [e] at q
        cases q
        exact (N₃ p (List.mem_append_left _ hp)).1
      · have q := F₂.keep b o₀ ho₀
        rw [e] at q
        cases q
        exact F₃.keep b o ho₀
    refine wpAny_mono (step i v m' news' h₂ tk₁ its hlt hP hJ hnw' hits F₂ Nits) (fun _ s₂ h₂' => wpAny_mono h₂' (fun f s₃ h₃ => ?_) hE) hE
    cases f with
    | ret v => exact h₃
    | brk => exact h₃
    | cont => exact fin s₃ h₃
    | next => exact fin s₃ h₃
  · have hin : i = n := by omega
    subst hin
    refine W.done _ _ _ hst' fun h₁ tk₁ hk₁ => ?_
    obtain ⟨F₁, N₁⟩ := next h₁ hk₁
    exact wpAny_mono (done h₁ tk₁ m' news' F₁ N₁ hnw' hJ) (fun _ _ x => x) hE

/-- the answer of a loop's statement -/
abbrev LoopR (prog : Program) (w : World) (A : Around) (env : Env) (Q : Flow → Shared → Prop) (E : Value → Shared → Prop) : Result → Shared → Prop :=
  fun r s' => match r with | .ok f => Q f s' | .error e => cameBackBy (model prog w) A env E e s'

section
variable {prog : Program} {w : World} {A : Around} {E : Value → Shared → Prop} {s : Shared} {env : Env} {h₀ : Heap} {target : Expr} {body orelse : List Stmt} {Q : Flow → Shared → Prop} {m : Str → Option Value} {news : List (Addr × Obj)}

theorem base_new {L b : Addr} {h : Heap} (F : Fr h₀ L h m) (hb : h.objs.size ≤ b) : h₀.get? b = none := by
  cases e : h₀.get? b with
  | none => rfl
  | some o => exact absurd (Heap.lt_size (F.keep _ _ e)) (Nat.not_lt.mpr hb)

/-- over a tuple of the ground -/
theorem iter_tuple {T : Addr} {items : Array Value} (hh : A.handled = none) (hT : h₀.IsTuple T items) (F : Fr h₀ env.locals s.heap m) (N : News h₀ env.locals s.heap news)
    (J : Nat → (Str → Option Value) → List (Addr × Obj) → Prop) (h0 : J 0 m news)
    (step : ∀ i v m₁ news₁ h₁ tk₁ I o, items[i]? = some v → J i m₁ news₁ → (∀ p ∈ news₁, p.1 ≠ I) → Fr h₀ env.locals h₁ m₁ → News h₀ env.locals h₁ ((I, o) :: news₁) → (∀ p ∈ news, p.1 < I) →
      wpAny (model prog w) A (assign target env v) (fun _ s₂ => wpAny (model prog w) A (execs body env)
        (StepPost h₀ env.locals [I] [(I, o)] s (J (i + 1)) Q) E s₂) E { s with heap := h₁, toks := tk₁ })
    (done : ∀ h' tk m' news', Fr h₀ env.locals h' m' → News h₀ env.locals h' news' → J items.size m' news' → wpAny (model prog w) A (execs orelse env) Q E { s with heap := h', toks := tk })
    (hE : PassesOwn (model prog w) A env E) :
    wpAny (model prog w) A (pyIter (.ref T)) (fun it s₂ => codeAny (model prog w) A (.forLoop target it body orelse env) (LoopR prog w A env Q E) s₂) E s := by
  obtain ⟨oT, hoT, hcT, nT, hdT⟩ := id hT
  have hTs : s.heap.IsTuple T items := ⟨oT, F.keep _ _ hoT, hcT, nT, hdT⟩
  have hlt : T < s.heap.objs.size := Heap.lt_size (F.keep _ _ hoT)
  have hne : T ≠ s.heap.objs.size := Nat.ne_of_lt hlt
  have hLs : env.locals < s.heap.objs.size := F.ns.lt
  refine wpAny_pyIter_tuple hTs ?_
  refine my_loop (s := { s with heap := s.heap.push _ }) (ws := [s.heap.objs.size]) (KTurns.ofWalks (Walks.tuple hh s.heap.objs.size T hne items) fun i v s Q E st q => letGo_tupleiter st.1 q) ?_ ?_ ?_ ?_ ?_ ?_ (F.push _) (fun p hp => ⟨Heap.get?_push_of_some _ (N p hp).1, (N p hp).2⟩) J h0 ?_ ?_ hE
  · intro b hb
    have hb' : b = s.heap.objs.size ∨ b = T := by simpa using hb
    rcases hb' with rfl | rfl
    · exact .inl (by simp)
    · exact .inr ⟨oT, hoT⟩
  · intro b hb; simpa using hb
  · intro b hb
    have hb' : b = s.heap.objs.size := by simpa using hb
    subst hb'
    exact ⟨base_new F (Nat.le_refl _), Nat.ne_of_gt hLs⟩
  · rintro i h ⟨⟨o, ho, _⟩, _⟩ b hb
    have hb' : b = s.heap.objs.size := by simpa using hb
    subst hb'
    exact ⟨o, ho⟩
  · intro p hp hI
    have hb' : p.1 = s.heap.objs.size := by simpa using hI
    exact absurd (Heap.lt_size (N p hp).1) (hb' ▸ Nat.lt_irrefl _)
  · exact ⟨⟨_, Heap.get?_push_size _ rfl, rfl, rfl⟩, hTs.push _⟩
  · intro i v m₁ news₁ h₁ tk₁ its hi hP hJ hoff hits F₁ N₁
    obtain ⟨o, rfl⟩ := one_of hits
    exact step i v m₁ news₁ h₁ tk₁ _ o hP hJ (fun p hp e => hoff p hp (by simp [e])) F₁ N₁ fun p hp => Heap.lt_size (N p hp).1
  · intro h' tk m' news' F' N' _ hJ
    exact done h' tk m' news' F' N' hJ

/-- over enumerate of a tuple of the ground -/
theorem iter_enumTuple {elts : List Expr} {k : Nat} {pos : Pos} {T : Addr} {items : Array Value} (hh : A.handled = none) (hT : h₀.IsTuple T items) (F : Fr h₀ env.locals s.heap m) (N : News h₀ env.locals s.heap news)
    (J : Nat → (Str → Option Value) → List (Addr × Obj) → Prop) (h0 : J 0 m news)
    (step : ∀ i v t U m₁ news₁ h₁ tk₁ e oe I o, items[i]? = some v → J i m₁ news₁ → (∀ p ∈ news₁, p.1 ≠ e ∧ p.1 ≠ I) → IsTup h₁ U #[.int (i : Int) t, v] → Fr h₀ env.locals h₁ m₁ → News h₀ env.locals h₁ ((e, oe) :: (I, o) :: news₁) → (∀ p ∈ news, p.1 < I) → I < e →
      wpAny (model prog w) A (assign (.Tuple elts k pos) env (.ref U)) (fun _ s₂ => wpAny (model prog w) A (execs body env)
        (StepPost h₀ env.locals [e, I] [(e, oe), (I, o)] s (J (i + 1)) Q) E s₂) E { s with heap := h₁, toks := tk₁ })
    (done : ∀ h' tk m' news', Fr h₀ env.locals h' m' → News h₀ env.locals h' news' → J items.size m' news' → wpAny (model prog w) A (execs orelse env) Q E { s with heap := h', toks := tk })
    (hE : PassesOwn (model prog w) A env E) :
    wpAny (model prog w) A (call (.type "enumerate") [.ref T]) (fun xv s₁ => wpAny (model prog w) A (pyIter xv) (fun it s₂ => codeAny (model prog w) A (.forLoop (.Tuple elts k pos) it body orelse env) (LoopR prog w A env Q E) s₂) E s₁) E s := by
  obtain ⟨oT, hoT, hcT, nT, hdT⟩ := id hT
  have hTs : s.heap.IsTuple T items := ⟨oT, F.keep _ _ hoT, hcT, nT, hdT⟩
  have hlt : T < s.heap.objs.size := Heap.lt_size (F.keep _ _ hoT)
  have hLs : env.locals < s.heap.objs.size := F.ns.lt
  refine call_enumerate_tuple hTs fun h' hE' hI hsz hk => ?_
  refine wpAny_pyIter_enum hE' ?_
  have hne1 : T ≠ s.heap.objs.size := Nat.ne_of_lt hlt
  have hne2 : s.heap.objs.size + 1 ≠ T := Nat.ne_of_gt (Nat.lt_succ_of_lt hlt)
  refine my_loop (s := { s with heap := h' }) (ws := [s.heap.objs.size + 1, s.heap.objs.size])
    (KTurns.ofWalksU (WalksT.enumerateD (A := A) (drawsTuple (A := A.in1) hh s.heap.objs.size T hne1 items) (s.heap.objs.size + 1) (Nat.succ_ne_self _) (by simp [hne2]) (by simp)).toU)
    ?_ ?_ ?_ ?_ ?_ ?_ (F.keeps hk) (N.grown hk) J h0 ?_ ?_ hE
  · intro b hb
    have hb' : b = s.heap.objs.size + 1 ∨ b = s.heap.objs.size ∨ b = T := by simpa using hb
    rcases hb' with rfl | rfl | rfl
    · exact .inl (by simp)
    · exact .inl (by simp)
    · exact .inr ⟨oT, hoT⟩
  · intro b hb; simpa using hb
  · intro b hb
    have hb' : b = s.heap.objs.size + 1 ∨ b = s.heap.objs.size := by simpa using hb
    rcases hb' with rfl | rfl
    · exact ⟨base_new F (Nat.le_succ _), Nat.ne_of_gt (Nat.lt_succ_of_lt hLs)⟩
    · exact ⟨base_new F (Nat.le_refl _), Nat.ne_of_gt hLs⟩
  · rintro i h ⟨⟨old, he⟩, ⟨o, ho, _⟩, _⟩ b hb
    have hb' : b = s.heap.objs.size + 1 ∨ b = s.heap.objs.size := by simpa using hb
    rcases hb' with rfl | rfl
    · exact ⟨_, he⟩
    · exact ⟨o, ho⟩
  · intro p hp hI
    have hb' : p.1 = s.heap.objs.size + 1 ∨ p.1 = s.heap.objs.size := by simpa using hI
    have := Heap.lt_size (N p hp).1
    rcases hb' with e | e
    · exact absurd (e ▸ this : s.heap.objs.size + 1 < s.heap.objs.size) (Nat.not_lt.mpr (Nat.le_succ _))
    · exact absurd (e ▸ this : s.heap.objs.size < s.heap.objs.size) (Nat.lt_irrefl _)
  · exact ⟨⟨.none, hE'⟩, hI, hTs.at fun o e => hk T o e⟩
  · intro i v m₁ news₁ h₁ tk₁ its hi hP hJ hoff hits F₁ N₁
    obtain ⟨U, vals, rfl, ⟨t, x, hx, rfl⟩, hU⟩ := hP
    obtain ⟨oe, o, rfl⟩ := two_of hits
    exact step i x t U m₁ news₁ h₁ tk₁ _ oe _ o hx hJ (fun p hp => ⟨fun e => hoff p hp (by simp [e]), fun e => hoff p hp (by simp [e])⟩) hU F₁ N₁ (fun p hp => Heap.lt_size (N p hp).1) (Nat.lt_succ_self _)
  · intro h' tk m' news' F' N' _ hJ
    exact done h' tk m' news' F' N' hJ
end

/-- a call of a def of the text, its ground the whole heap: what the caller has made stands, by the heap's growing alone -/
theorem call_pure {prog : Program} {w : World} {A A₀ : Around} {E : Value → Shared → Prop} {s : Shared} {K : Frag} {L : Addr} {h₀ base : Heap} {m mg mb : Str → Option Value} {p : Program} {loose : List Str} {mean : ExcName → Option Value} {Q : Value → Shared → Prop}
    {env : Env} {outer : List Env} {name qual : Str} {params : Arguments} {body : List Stmt} {scope : Scope} {dV kV doc pm cdv ct oc : Value} {an od : Option Addr} {osl : Array (Option Value)} {f : Addr} {vals : List Value} {binds : List (Str × Value)}
    (B : Below A₀ base outer h₀) (F : Fr h₀ L s.heap m) (X₀ : K.In h₀) (T : Top p loose mean mg mb h₀) (hA : A.frames = some (env :: outer)) (hf : env.frame = some L) (hke : env.scope.kind = .function)
    (ho : K.lookup f = some ⟨oc, od, .func (fnOf name qual params body scope dV kV doc pm an cdv ct), osl⟩) (hcd : codeIn K cdv qual = true) (hroom : A.depth < recursionLimit)
    (hbind : BindsTo s (fnOf name qual params body scope dV kV doc pm an cdv ct) ⟨vals, []⟩ binds) (hloc : ∀ y ∈ binds, scope.names.lookup y.1 = some .local)
    (h : ∀ L' h₁, Fr s.heap L' h₁ (fun y => binds.reverse.lookup y) → News s.heap L' h₁ [] → Below A base (env :: outer) s.heap → K.In s.heap → Top p loose mean mg mb s.heap →
      wpAny (model prog w) (A.deeper (envOf qual scope L' f cdv)) (execs body (envOf qual scope L' f cdv))
        (fun fl s' => Q (match fl with | .ret v => v | _ => .none) s') (fun _ _ => False) { s with heap := h₁, toks := s.toks + binds.length })
    (hco : scope.isCoroutine = false) (hgen : scope.isGenerator = false) (hk : scope.kind = .function)
    (hcell : ∀ x ∈ scope.names, x.2 ≠ .cell) : wpAny (model prog w) A (call (.ref f) vals) Q E s := by
  refine wpAny_call ?_
  obtain ⟨FG, BG, st, lv⟩ := groundX (R := fun _ _ => True) B F (News.nil (h₀ := h₀) (L := L)) hA hf hke
  have st' : h₀.StaysIn s.heap := st
  refine codeAny_call_def (fd := fnOf name qual params body scope dV kV doc pm an cdv ct) (body := body) (binds := binds) hroom ((X₀.keeps F.keep) _ _ ho) rfl (T.nolimit.keeps F.keep) (codeRec_of (X₀.keeps F.keep) hcd) rfl hbind hcell hloc (fun h₁ hns hk₁ => ?_) hco hgen hk
  exact wpAny_mono (h s.heap.objs.size h₁ ⟨hns, hk₁, Nat.le_refl _⟩ News.nil BG (X₀.keeps F.keep) (T.keeps st')) (fun fl s' hl => hl) fun _ _ x => x.elim
end Mine
namespace Mine
/-- the first sign whose test holds -/
def pick (test : Int → Bool) (dflt : Str) : List (Int × Str) → Str
  | [] => dflt
  | (b, c) :: r => if test b then c else pick test dflt r
def pickTest (x : Int) (i : Nat) (b : Int) : Bool := if i = 0 then decide (Builtin.bitAnd x 61440 = b) else decide (Builtin.bitAnd x b = b)
def pickDflt (i : Nat) : Str := if i = 0 then Str.ofString "?" else Str.ofString "-"
def fmTab : List (List (Int × Str)) :=
  [[(40960, Str.ofString "l"), (49152, Str.ofString "s"), (32768, Str.ofString "-"), (24576, Str.ofString "b"), (16384, Str.ofString "d"), (8192, Str.ofString "c"), (4096, Str.ofString "p")],
   [(256, Str.ofString "r")], [(128, Str.ofString "w")], [(2112, Str.ofString "s"), (2048, Str.ofString "S"), (64, Str.ofString "x")],
   [(32, Str.ofString "r")], [(16, Str.ofString "w")], [(1032, Str.ofString "s"), (1024, Str.ofString "S"), (8, Str.ofString "x")],
   [(4, Str.ofString "r")], [(2, Str.ofString "w")], [(513, Str.ofString "t"), (512, Str.ofString "T"), (1, Str.ofString "x")]]
def fmSign (x : Int) (i : Nat) : Str := pick (pickTest x i) (pickDflt i) (fmTab.getD i [])
def fmSigns (x : Int) : List Str := (List.range 10).map (fmSign x)
def fmText (x : Int) : Str := Txt.join (Str.ofString "") (fmSigns x)

theorem fmSigns_take (x : Int) (i : Nat) (hi : i < 10) : (fmSigns x).take (i + 1) = (fmSigns x).take i ++ [fmSign x i] := by
  have : (fmSigns x)[i]? = some (fmSign x i) := by simp [fmSigns, hi]
  rw [List.take_add_one, this]; rfl
theorem fmSigns_length (x : Int) : (fmSigns x).length = 10 := by simp [fmSigns]

/-- a tuple that the written part holds -/
def tupIn (K : Frag) (a : Addr) : Option (List Value) := match K.lookup a with
  | some ⟨.type "tuple", _, .seq xs _, _⟩ => some xs.toList
  | _ => none
theorem tupIn_is {K : Frag} {h : Heap} (X : K.In h) {a : Addr} {vs : List Value} (e : tupIn K a = some vs) : h.IsTuple a vs.toArray := by
  unfold tupIn at e
  split at e
  · rename_i d xs n sl q
    cases e
    exact ⟨_, X _ _ q, rfl, n, by simp⟩
  · cases e

/-- a row of the table: its pairs' places and what they hold -/
def RowIs (h : Heap) (T : Addr) (ps : List (Addr × Int × Str)) : Prop :=
  h.IsTuple T (ps.map fun q => Value.ref q.1).toArray ∧ ∀ q ∈ ps, ∃ t u, h.IsTuple q.1 #[.int q.2.1 t, .str q.2.2 u]
def TabIs (h : Heap) (T : Addr) (rows : List (Addr × List (Addr × Int × Str))) : Prop :=
  h.IsTuple T (rows.map fun r => Value.ref r.1).toArray ∧ (∀ r ∈ rows, RowIs h r.1 r.2) ∧ rows.map (fun r => r.2.map (·.2)) = fmTab
def rowIn (K : Frag) (T : Addr) (ps : List (Addr × Int × Str)) : Prop :=
  tupIn K T = some (ps.map fun q => Value.ref q.1) ∧ ∀ q ∈ ps, ∃ t u, tupIn K q.1 = some [.int q.2.1 t, .str q.2.2 u]
theorem RowIs.of {K : Frag} {h : Heap} (X : K.In h) {T : Addr} {ps : List (Addr × Int × Str)} (e : rowIn K T ps) : RowIs h T ps := by
  refine ⟨tupIn_is X e.1, fun q hq => ?_⟩
  obtain ⟨t, u, e⟩ := e.2 q hq
  exact ⟨t, u, tupIn_is X e⟩
theorem TabIs.of {K : Frag} {h : Heap} (X : K.In h) {T : Addr} {rows : List (Addr × List (Addr × Int × Str))} (e : tupIn K T = some (rows.map fun r => Value.ref r.1)) (e' : ∀ r ∈ rows, rowIn K r.1 r.2) (e'' : rows.map (fun r => r.2.map (·.2)) = fmTab) : TabIs h T rows :=
  ⟨tupIn_is X e, fun r hr => .of X (e' r hr), e''⟩
theorem TabIs.item {h : Heap} {T : Addr} {rows : List (Addr × List (Addr × Int × Str))} (x : TabIs h T rows) {i : Nat} {v : Value} (e : (rows.map fun r => Value.ref r.1).toArray[i]? = some v) :
    ∃ S ps, v = .ref S ∧ RowIs h S ps ∧ fmTab.getD i [] = ps.map (·.2) ∧ i < 10 := by
  have e' : rows[i]?.map (fun r => Value.ref r.1) = some v := by simpa using e
  obtain ⟨r, hr, rfl⟩ := Option.map_eq_some_iff.mp e'
  have h10 : rows.length = 10 := by have := congrArg List.length x.2.2; simpa [fmTab] using this
  refine ⟨r.1, r.2, rfl, x.2.1 r (List.mem_of_getElem? hr), ?_, ?_⟩
  · rw [← x.2.2]; simp [List.getD, hr]
  · have := (List.getElem?_eq_some_iff.mp hr).1; omega

theorem chain2 {m : Str → Option Value} {a b : Str} {u v : Value} (h1 : m a = some u) (h2 : m b = some v) : m = fun y => if y = a then some u else if y = b then some v else m y := by
  funext y; split
  · subst_vars; exact h1
  · split
    · subst_vars; exact h2
    · rfl
theorem chain3 {m : Str → Option Value} {a b c : Str} {u v w : Value} (h1 : m a = some u) (h2 : m b = some v) (h3 : m c = some w) : m = fun y => if y = a then some u else if y = b then some v else if y = c then some w else m y := by
  funext y; split
  · subst_vars; exact h1
  · split
    · subst_vars; exact h2
    · split
      · subst_vars; exact h3
      · rfl
theorem pick_skip {test : Int → Bool} {d : Str} {l : List (Int × Str)} : ∀ {i : Nat}, (∀ j q, j < i → l[j]? = some q → test q.1 = false) → pick test d l = pick test d (l.drop i) := by
  induction l with
  | nil => intro i _; simp
  | cons p r ih =>
    intro i h
    cases i with
    | zero => rfl
    | succ i =>
      obtain ⟨b, c⟩ := p
      have h0 := h 0 (b, c) (Nat.succ_pos _) rfl
      rw [List.drop_succ_cons, ← ih (i := i) fun j q hj hq => h (j + 1) q (Nat.succ_lt_succ hj) (by simpa using hq)]
      simp [pick, h0]

theorem step_next {h₀ : Heap} {L : Addr} {ws : List Addr} {its : List (Addr × Obj)} {s : Shared} {Jn : (Str → Option Value) → List (Addr × Obj) → Prop} {Q : Flow → Shared → Prop} {h' : Heap} {tk : Nat} {m₂ : Str → Option Value} {news₂ : List (Addr × Obj)}
    (F : Fr h₀ L h' m₂) (N : News h₀ L h' (its ++ news₂)) (hoff : ∀ p ∈ news₂, p.1 ∉ ws) (hJ : Jn m₂ news₂) : StepPost h₀ L ws its s Jn Q .next { s with heap := h', toks := tk } :=
  ⟨h', tk, m₂, news₂, rfl, F, N, hoff, hJ⟩
theorem news_tail {h₀ h : Heap} {L : Addr} {p : Addr × Obj} {l : List (Addr × Obj)} (N : News h₀ L h (p :: l)) : News h₀ L h l := fun q hq => N q (.tail _ hq)
theorem pick_at {test : Int → Bool} {d : Str} {l : List (Int × Str)} {i : Nat} {b : Int} {c : Str} (h : ∀ j q, j < i → l[j]? = some q → test q.1 = false) (hi : l[i]? = some (b, c)) (ht : test b = true) : pick test d l = c := by
  rw [pick_skip h]
  have : l.drop i = (b, c) :: l.drop (i + 1) := by
    obtain ⟨hlt, e⟩ := List.getElem?_eq_some_iff.mp hi
    rw [List.drop_eq_getElem_cons hlt, e]
  rw [this]
  simp [pick, ht]
theorem pick_none {test : Int → Bool} {d : Str} {l : List (Int × Str)} (h : ∀ j q, j < l.length → l[j]? = some q → test q.1 = false) : pick test d l = d := by
  rw [pick_skip h]; simp [pick]
/-- one more sign -/
theorem sign_more {x : Int} {i : Nat} {vs : List Value} {ps : List (Addr × Int × Str)} {c : Str} {t : Tok} (hvs : StrsAre vs ((fmSigns x).take i)) (hi : i < 10) (htab : fmTab.getD i [] = ps.map (·.2)) (hc : pick (pickTest x i) (pickDflt i) (ps.map (·.2)) = c) :
    StrsAre (vs ++ [.str c t]) ((fmSigns x).take (i + 1)) := by
  rw [fmSigns_take x i hi]
  refine hvs.append' ?_
  have : fmSign x i = c := by unfold fmSign; rw [htab, hc]
  rw [this]
  exact .cons c t .nil
theorem map_at {ps : List (Addr × Int × Str)} {j : Nat} {q : Int × Str} (h : (ps.map (·.2))[j]? = some q) : ∃ a, ps[j]? = some (a, q) := by
  have : ps[j]?.map (·.2) = some q := by simpa using h
  obtain ⟨r, hr, rfl⟩ := Option.map_eq_some_iff.mp this
  exact ⟨r.1, hr⟩
theorem sign_hit {x : Int} {i j : Nat} {ps : List (Addr × Int × Str)} {a : Addr} {b : Int} {c : Str} (hno : ∀ k q, k < j → ps[k]? = some q → pickTest x i q.2.1 = false) (hq : ps[j]? = some (a, b, c)) (ht : pickTest x i b = true) :
    pick (pickTest x i) (pickDflt i) (ps.map (·.2)) = c := by
  refine pick_at (i := j) (b := b) (fun k q hk hkq => ?_) (by simp [hq]) ht
  obtain ⟨a', h'⟩ := map_at hkq
  exact hno k _ hk h'
theorem sign_miss {x : Int} {i n : Nat} {ps : List (Addr × Int × Str)} (hn : ps.length ≤ n) (hno : ∀ k q, k < n → ps[k]? = some q → pickTest x i q.2.1 = false) :
    pick (pickTest x i) (pickDflt i) (ps.map (·.2)) = pickDflt i := by
  refine pick_none fun k q hk hkq => ?_
  obtain ⟨a', h'⟩ := map_at hkq
  exact hno k _ (by simp at hk; omega) h'
theorem no_more {x : Int} {i j : Nat} {ps : List (Addr × Int × Str)} {a : Addr} {b : Int} {c : Str} (hno : ∀ k q, k < j → ps[k]? = some q → pickTest x i q.2.1 = false) (hq : ps[j]? = some (a, b, c)) (ht : pickTest x i b = false) :
    ∀ k q, k < j + 1 → ps[k]? = some q → pickTest x i q.2.1 = false := by
  intro k q hk hkq
  rcases Nat.lt_succ_iff_lt_or_eq.mp hk with hk | rfl
  · exact hno k q hk hkq
  · rw [hq] at hkq; cases hkq; exact ht
theorem signs_fit {x : Int} {i : Nat} {vs : List Value} (hvs : StrsAre vs ((fmSigns x).take i)) : vs.toArray.size ≤ sizeLine := by
  have h1 := hvs.length
  have h2 : ((fmSigns x).take i).length ≤ 10 := by rw [List.length_take, fmSigns_length]; omega
  rw [List.size_toArray, h1]
  exact Nat.le_trans h2 (by decide)

theorem off1 {q : Addr × Obj} {l : List (Addr × Obj)} {ws : List Addr} (h : q.1 ∉ ws) (r : ∀ p ∈ l, p.1 ∉ ws) : ∀ p ∈ q :: l, p.1 ∉ ws := by
  intro p hp
  rcases List.mem_cons.mp hp with rfl | hp
  · exact h
  · exact r p hp
theorem off0 {ws : List Addr} : ∀ p ∈ ([] : List (Addr × Obj)), p.1 ∉ ws := fun _ hp => nomatch hp
theorem nmem1 {a b : Nat} {l : List Nat} (h : a ≠ b) (r : a ∉ l) : a ∉ b :: l := by simp [h, r]
theorem nmem0 {a : Nat} : a ∉ ([] : List Nat) := by simp
theorem pick_len {test : Int → Bool} {d : Str} (hd : d.length = 1) : ∀ {l : List (Int × Str)}, (∀ q ∈ l, q.2.length = 1) → (pick test d l).length = 1
  | [], _ => hd
  | (b, c) :: r, h => by
    unfold pick
    split
    · exact h (b, c) (.head _)
    · exact pick_len hd fun q hq => h q (.tail _ hq)
theorem fmTab_len : ∀ i, ∀ q ∈ fmTab.getD i [], q.2.length = 1 := by
  intro i q hq
  have : ∀ r ∈ fmTab, ∀ q ∈ r, q.2.length = 1 := by decide
  rw [List.getD_eq_getElem?_getD] at hq
  cases h : fmTab[i]? with
  | none => rw [h] at hq; simp at hq
  | some r => rw [h] at hq; exact this r (List.mem_of_getElem? h) q (by simpa using hq)
theorem fmSign_len (x : Int) (i : Nat) : (fmSign x i).length = 1 := by
  unfold fmSign
  refine pick_len ?_ (fmTab_len i)
  unfold pickDflt; split <;> decide
theorem fmSigns_weight (x : Int) : ((fmSigns x).map (·.length)).sum + (fmSigns x).length ≤ 1048576 := by
  have : (fmSigns x).map (·.length) = List.replicate 10 1 := by
    simp only [fmSigns, List.map_map]
    rw [List.eq_replicate_iff]
    refine ⟨by simp, ?_⟩
    intro b hb
    simp only [List.mem_map, Function.comp] at hb
    obtain ⟨i, _, rfl⟩ := hb
    exact fmSign_len x i
  rw [this, fmSigns_length]; decide
end Mine
namespace Mine
section
variable {prog : Program} {w : World} {A : Around} {E : Value → Shared → Prop} {s : Shared} {h₀ : Heap} {L l : Addr} {m : Str → Option Value} {news : List (Addr × Obj)} {value slice : PySem.Expr} {vs ws : List Value} {ss ms : List Str} {vl vu : Value} {lo hi : Option Int} {x y : Int} {Q : Value → Shared → Prop}
end

section
variable {prog : Program} {w : World} {A : Around} {E : Value → Shared → Prop} {s : Shared} {env : Env} {h₀ : Heap} {target : Expr} {body orelse : List Stmt} {Q : Flow → Shared → Prop} {m : Str → Option Value} {news : List (Addr × Obj)}
end
/-- the body and the scope of a def that the written part holds -/
def fnBody (K : Frag) (a : Addr) : List Stmt := match K.lookup a with
  | some ⟨_, _, .func fd, _⟩ => (match fd.body with | .stmts b => b | _ => [])
  | _ => []
def fnScope (K : Frag) (a : Addr) : Scope := match K.lookup a with
  | some ⟨_, _, .func fd, _⟩ => fd.scope
  | _ => { kind := .function, names := [], isGenerator := false, isCoroutine := false }
/-- the law's end: True, the frame as it is kept -/
def LawEnd (h₀ : Heap) (L : Addr) (s : Shared) (fl : Flow) (s' : Shared) : Prop :=
  fl = .ret (.bool true) ∧ ∃ h' tk m', s' = { s with heap := h', toks := tk } ∧ Fr h₀ L h' m'
def Hold (p : Prop) : Prop := p
theorem execs_cut_at {M : Model} {Γ : Ctx} {E : Value → Pos → Shared → Prop} {env : Env} (P : Shared → Prop) {Q : Flow → Pos → Shared → Prop} : ∀ (n : Nat) {l : List Stmt} {p : Pos} {s : Shared},
    Sem.wp M Γ (execs (l.take n) env) (fun f _ s' => f = .next ∧ P s') E p s → (∀ p' s', P s' → Sem.wp M Γ (execs (l.drop n) env) Q E p' s') → Sem.wp M Γ (execs l env) Q E p s
  | 0, _, p, s, h, k => k p s (show Flow.next = Flow.next ∧ P s from h).2
  | _ + 1, [], p, s, h, k => k p s (show Flow.next = Flow.next ∧ P s from h).2
  | n + 1, a :: r, p, s, h, k => by
    rw [List.take_succ_cons, execs_cons, Sem.wp_bind'] at h
    rw [execs_cons, Sem.wp_bind']
    refine Sem.wp_mono M Γ _ (fun f p' s' h' => ?_) (fun _ _ _ h' => h') _ _ h
    cases f with
    | next => exact execs_cut_at P n h' k
    | ret v => exact absurd (show Flow.ret v = Flow.next ∧ P s' from h').1 (by intro e; cases e)
    | brk => exact absurd (show Flow.brk = Flow.next ∧ P s' from h').1 (by intro e; cases e)
    | cont => exact absurd (show Flow.cont = Flow.next ∧ P s' from h').1 (by intro e; cases e)
/-- the first n statements end in P; the rest goes on from any state of P -/
theorem execs_cut {M : Model} {A : Around} {E : Value → Shared → Prop} {env : Env} {l : List Stmt} {s : Shared} {Q : Flow → Shared → Prop} (n : Nat) (P : Shared → Prop)
    (h : wpAny M A (execs (l.take n) env) (fun f s' => Hold (f = .next ∧ P s')) E s) (k : ∀ s', P s' → wpAny M A (execs (l.drop n) env) Q E s') : wpAny M A (execs l env) Q E s :=
  fun Γ p hΓ => execs_cut_at P n (h Γ p hΓ) fun p' s' hP => k s' hP Γ p' hΓ
theorem chainN {m : Str → Option Value} : ∀ {l : List (Str × Value)}, (∀ q ∈ l, m q.1 = some q.2) → m = fun y => l.foldr (fun q r => if y = q.1 then some q.2 else r) (m y)
  | [], _ => rfl
  | q :: l, h => by
    have ih := chainN (m := m) (l := l) fun r hr => h r (.tail _ hr)
    funext y
    by_cases e : y = q.1
    · simp [List.foldr, e, h q (.head _)]
    · simp only [List.foldr, if_neg e]; exact congrFun ih y
end Mine
namespace Mine
theorem nat_and_pow (n k : Nat) : n &&& 2 ^ k = 2 ^ k * (n / 2 ^ k % 2) := by
  have h1 : (n &&& 2 ^ k) / 2 ^ k = n / 2 ^ k % 2 := by
    rw [Nat.and_div_two_pow, Nat.div_self (Nat.two_pow_pos k), Nat.and_one_is_mod]
  have h2 : (n &&& 2 ^ k) % 2 ^ k = 0 := by
    rw [Nat.and_mod_two_pow, Nat.mod_self, Nat.and_zero]
  have h3 := Nat.div_add_mod (n &&& 2 ^ k) (2 ^ k)
  rw [h1, h2] at h3
  omega
theorem nat_and_type (n : Nat) : n &&& 61440 = 4096 * (n / 4096 % 16) := by
  have h1 : (n &&& 61440) / 2 ^ 12 = n / 4096 % 16 := by
    rw [Nat.and_div_two_pow]
    exact Nat.and_two_pow_sub_one_eq_mod (n / 2 ^ 12) 4
  have h2 : (n &&& 61440) % 2 ^ 12 = 0 := by
    rw [Nat.and_mod_two_pow]
    exact Nat.and_zero _
  have h3 := Nat.div_add_mod (n &&& 61440) (2 ^ 12)
  rw [h1, h2] at h3
  omega
theorem bitAnd_type (x : Int) : Builtin.bitAnd x 61440 = 4096 * (x / 4096 % 16) := by
  by_cases hx : 0 ≤ x
  · rw [bitAnd_pp hx (by decide), show (61440 : Int).toNat = 61440 from rfl, nat_and_type]; omega
  · rw [bitAnd_np hx (by decide), show (61440 : Int).toNat = 61440 from rfl, Nat.and_comm, nat_and_type]
    unfold Builtin.bitNot; omega
theorem bitAnd_pow (x : Int) (k : Nat) : Builtin.bitAnd x ((2 ^ k : Nat) : Int) = ((2 ^ k : Nat) : Int) * (x / ((2 ^ k : Nat) : Int) % 2) := by
  have hv : 0 < 2 ^ k := Nat.two_pow_pos k
  generalize hV : 2 ^ k = v at *
  have h : ∀ n : Nat, n &&& v = v * (n / v % 2) := by subst hV; exact fun n => nat_and_pow n k
  by_cases hx : 0 ≤ x
  · obtain ⟨n, rfl⟩ := Int.eq_ofNat_of_zero_le hx
    rw [bitAnd_pp hx (Int.natCast_nonneg _), Int.toNat_natCast, Int.toNat_natCast, h]
    push_cast; rfl
  · rw [bitAnd_np hx (Int.natCast_nonneg _), Int.toNat_natCast, Nat.and_comm, h]
    obtain ⟨n, rfl⟩ : ∃ n : Nat, x = -((n : Int) + 1) := ⟨(-x - 1).toNat, by omega⟩
    have e1 : (Builtin.bitNot (-((n : Int) + 1))).toNat = n := by unfold Builtin.bitNot; omega
    have e2 : (-((n : Int) + 1)) / (v : Int) = -((n : Int) / (v : Int) + 1) := Int.negSucc_ediv n (by omega)
    rw [e1, e2]
    push_cast
    generalize (n : Int) / (v : Int) = q
    have e3 : (-(q + 1)) % 2 = 1 - q % 2 := by omega
    rw [e3, Int.mul_sub, Int.mul_one]
theorem bitAnd_p0 (x : Int) : Builtin.bitAnd x 1 = 1 * (x / 1 % 2) := bitAnd_pow x 0
theorem bitAnd_p1 (x : Int) : Builtin.bitAnd x 2 = 2 * (x / 2 % 2) := bitAnd_pow x 1
theorem bitAnd_p2 (x : Int) : Builtin.bitAnd x 4 = 4 * (x / 4 % 2) := bitAnd_pow x 2
theorem bitAnd_p3 (x : Int) : Builtin.bitAnd x 8 = 8 * (x / 8 % 2) := bitAnd_pow x 3
theorem bitAnd_p4 (x : Int) : Builtin.bitAnd x 16 = 16 * (x / 16 % 2) := bitAnd_pow x 4
theorem bitAnd_p5 (x : Int) : Builtin.bitAnd x 32 = 32 * (x / 32 % 2) := bitAnd_pow x 5
theorem bitAnd_p6 (x : Int) : Builtin.bitAnd x 64 = 64 * (x / 64 % 2) := bitAnd_pow x 6
theorem bitAnd_p7 (x : Int) : Builtin.bitAnd x 128 = 128 * (x / 128 % 2) := bitAnd_pow x 7
theorem bitAnd_p8 (x : Int) : Builtin.bitAnd x 256 = 256 * (x / 256 % 2) := bitAnd_pow x 8
theorem bitAnd_p9 (x : Int) : Builtin.bitAnd x 512 = 512 * (x / 512 % 2) := bitAnd_pow x 9
theorem bitAnd_p10 (x : Int) : Builtin.bitAnd x 1024 = 1024 * (x / 1024 % 2) := bitAnd_pow x 10
theorem bitAnd_p11 (x : Int) : Builtin.bitAnd x 2048 = 2048 * (x / 2048 % 2) := bitAnd_pow x 11
theorem nat_and_2112 (n : Nat) : n &&& 2112 = 2048 * (n / 2048 % 2) + 64 * (n / 64 % 2) := by
  have e : n &&& 2112 = (n &&& 2048) ||| (n &&& 64) := by rw [← Nat.and_or_distrib_left]; rfl
  have h1 := nat_and_pow n 11
  have h2 := nat_and_pow n 6
  simp only [Nat.reducePow] at h1 h2
  rw [e, h1, h2]
  rcases Nat.mod_two_eq_zero_or_one (n / 2048) with q | q <;> rcases Nat.mod_two_eq_zero_or_one (n / 64) with r | r <;> rw [q, r] <;> rfl
theorem bitAnd_2112 (x : Int) : Builtin.bitAnd x 2112 = 2048 * (x / 2048 % 2) + 64 * (x / 64 % 2) := by
  by_cases hx : 0 ≤ x
  · rw [bitAnd_pp hx (by decide), show (2112 : Int).toNat = 2112 from rfl, nat_and_2112]; omega
  · rw [bitAnd_np hx (by decide), show (2112 : Int).toNat = 2112 from rfl, Nat.and_comm, nat_and_2112]
    unfold Builtin.bitNot; omega
theorem nat_and_1032 (n : Nat) : n &&& 1032 = 1024 * (n / 1024 % 2) + 8 * (n / 8 % 2) := by
  have e : n &&& 1032 = (n &&& 1024) ||| (n &&& 8) := by rw [← Nat.and_or_distrib_left]; rfl
  have h1 := nat_and_pow n 10
  have h2 := nat_and_pow n 3
  simp only [Nat.reducePow] at h1 h2
  rw [e, h1, h2]
  rcases Nat.mod_two_eq_zero_or_one (n / 1024) with q | q <;> rcases Nat.mod_two_eq_zero_or_one (n / 8) with r | r <;> rw [q, r] <;> rfl
theorem bitAnd_1032 (x : Int) : Builtin.bitAnd x 1032 = 1024 * (x / 1024 % 2) + 8 * (x / 8 % 2) := by
  by_cases hx : 0 ≤ x
  · rw [bitAnd_pp hx (by decide), show (1032 : Int).toNat = 1032 from rfl, nat_and_1032]; omega
  · rw [bitAnd_np hx (by decide), show (1032 : Int).toNat = 1032 from rfl, Nat.and_comm, nat_and_1032]
    unfold Builtin.bitNot; omega
theorem nat_and_513 (n : Nat) : n &&& 513 = 512 * (n / 512 % 2) + 1 * (n / 1 % 2) := by
  have e : n &&& 513 = (n &&& 512) ||| (n &&& 1) := by rw [← Nat.and_or_distrib_left]; rfl
  have h1 := nat_and_pow n 9
  have h2 := nat_and_pow n 0
  simp only [Nat.reducePow] at h1 h2
  rw [e, h1, h2]
  rcases Nat.mod_two_eq_zero_or_one (n / 512) with q | q <;> rcases Nat.mod_two_eq_zero_or_one (n / 1) with r | r <;> rw [q, r] <;> rfl
theorem bitAnd_513 (x : Int) : Builtin.bitAnd x 513 = 512 * (x / 512 % 2) + 1 * (x / 1 % 2) := by
  by_cases hx : 0 ≤ x
  · rw [bitAnd_pp hx (by decide), show (513 : Int).toNat = 513 from rfl, nat_and_513]; omega
  · rw [bitAnd_np hx (by decide), show (513 : Int).toNat = 513 from rfl, Nat.and_comm, nat_and_513]
    unfold Builtin.bitNot; omega

/-- the signs, out of the type's number and the twelve bits -/
def typeSign (k : Int) : Str :=
  if k = 10 then Str.ofString "l" else if k = 12 then Str.ofString "s" else if k = 8 then Str.ofString "-" else if k = 6 then Str.ofString "b" else if k = 4 then Str.ofString "d" else if k = 2 then Str.ofString "c" else if k = 1 then Str.ofString "p" else Str.ofString "?"
def oneSign (b : Int) (c : Str) : Str := if b = 1 then c else Str.ofString "-"
def endSign (runs above : Int) (both alone : Str) : Str := if above = 1 then (if runs = 1 then both else alone) else if runs = 1 then Str.ofString "x" else Str.ofString "-"
theorem ifd {c d : Prop} [Decidable c] [Decidable d] {α : Type} {a b : α} (h : c ↔ d) : (if decide c = true then a else b) = if d then a else b := by
  by_cases hd : d
  · rw [if_pos hd, if_pos (decide_eq_true (h.mpr hd))]
  · rw [if_neg hd, if_neg (by simpa using fun hc => hd (h.mp hc))]
theorem sign0 (x : Int) : fmSign x 0 = typeSign (x / 4096 % 16) := by
  show pick (pickTest x 0) (pickDflt 0) [(40960, Str.ofString "l"), (49152, Str.ofString "s"), (32768, Str.ofString "-"), (24576, Str.ofString "b"), (16384, Str.ofString "d"), (8192, Str.ofString "c"), (4096, Str.ofString "p")] = _
  simp only [pick, pickTest, pickDflt, if_true, bitAnd_type, typeSign]
  rw [ifd (show 4096 * (x / 4096 % 16) = 40960 ↔ x / 4096 % 16 = 10 by omega), ifd (show 4096 * (x / 4096 % 16) = 49152 ↔ x / 4096 % 16 = 12 by omega), ifd (show 4096 * (x / 4096 % 16) = 32768 ↔ x / 4096 % 16 = 8 by omega), ifd (show 4096 * (x / 4096 % 16) = 24576 ↔ x / 4096 % 16 = 6 by omega), ifd (show 4096 * (x / 4096 % 16) = 16384 ↔ x / 4096 % 16 = 4 by omega), ifd (show 4096 * (x / 4096 % 16) = 8192 ↔ x / 4096 % 16 = 2 by omega), ifd (show 4096 * (x / 4096 % 16) = 4096 ↔ x / 4096 % 16 = 1 by omega)]
theorem sign1 (x : Int) : fmSign x 1 = oneSign (x / 256 % 2) (Str.ofString "r") := by
  show pick (pickTest x 1) (pickDflt 1) [(256, Str.ofString "r")] = _
  simp only [pick, pickTest, pickDflt, show (1 : Nat) = 0 ↔ False from by decide, if_false, bitAnd_p8, oneSign]
  rw [ifd (show 256 * (x / 256 % 2) = 256 ↔ x / 256 % 2 = 1 by omega)]
theorem sign2 (x : Int) : fmSign x 2 = oneSign (x / 128 % 2) (Str.ofString "w") := by
  show pick (pickTest x 2) (pickDflt 2) [(128, Str.ofString "w")] = _
  simp only [pick, pickTest, pickDflt, show (2 : Nat) = 0 ↔ False from by decide, if_false, bitAnd_p7, oneSign]
  rw [ifd (show 128 * (x / 128 % 2) = 128 ↔ x / 128 % 2 = 1 by omega)]
theorem sign4 (x : Int) : fmSign x 4 = oneSign (x / 32 % 2) (Str.ofString "r") := by
  show pick (pickTest x 4) (pickDflt 4) [(32, Str.ofString "r")] = _
  simp only [pick, pickTest, pickDflt, show (4 : Nat) = 0 ↔ False from by decide, if_false, bitAnd_p5, oneSign]
  rw [ifd (show 32 * (x / 32 % 2) = 32 ↔ x / 32 % 2 = 1 by omega)]
theorem sign5 (x : Int) : fmSign x 5 = oneSign (x / 16 % 2) (Str.ofString "w") := by
  show pick (pickTest x 5) (pickDflt 5) [(16, Str.ofString "w")] = _
  simp only [pick, pickTest, pickDflt, show (5 : Nat) = 0 ↔ False from by decide, if_false, bitAnd_p4, oneSign]
  rw [ifd (show 16 * (x / 16 % 2) = 16 ↔ x / 16 % 2 = 1 by omega)]
theorem sign7 (x : Int) : fmSign x 7 = oneSign (x / 4 % 2) (Str.ofString "r") := by
  show pick (pickTest x 7) (pickDflt 7) [(4, Str.ofString "r")] = _
  simp only [pick, pickTest, pickDflt, show (7 : Nat) = 0 ↔ False from by decide, if_false, bitAnd_p2, oneSign]
  rw [ifd (show 4 * (x / 4 % 2) = 4 ↔ x / 4 % 2 = 1 by omega)]
theorem sign8 (x : Int) : fmSign x 8 = oneSign (x / 2 % 2) (Str.ofString "w") := by
  show pick (pickTest x 8) (pickDflt 8) [(2, Str.ofString "w")] = _
  simp only [pick, pickTest, pickDflt, show (8 : Nat) = 0 ↔ False from by decide, if_false, bitAnd_p1, oneSign]
  rw [ifd (show 2 * (x / 2 % 2) = 2 ↔ x / 2 % 2 = 1 by omega)]
theorem sign3 (x : Int) : fmSign x 3 = endSign (x / 64 % 2) (x / 2048 % 2) (Str.ofString "s") (Str.ofString "S") := by
  show pick (pickTest x 3) (pickDflt 3) [(2112, Str.ofString "s"), (2048, Str.ofString "S"), (64, Str.ofString "x")] = _
  simp only [pick, pickTest, pickDflt, show (3 : Nat) = 0 ↔ False from by decide, if_false, bitAnd_p6, bitAnd_p11, bitAnd_2112, endSign]
  rw [ifd (show 2048 * (x / 2048 % 2) + 64 * (x / 64 % 2) = 2112 ↔ (x / 2048 % 2 = 1 ∧ x / 64 % 2 = 1) by omega), ifd (show 2048 * (x / 2048 % 2) = 2048 ↔ x / 2048 % 2 = 1 by omega), ifd (show 64 * (x / 64 % 2) = 64 ↔ x / 64 % 2 = 1 by omega)]
  by_cases h1 : x / 2048 % 2 = 1 <;> by_cases h2 : x / 64 % 2 = 1 <;> simp [h1, h2]
theorem sign6 (x : Int) : fmSign x 6 = endSign (x / 8 % 2) (x / 1024 % 2) (Str.ofString "s") (Str.ofString "S") := by
  show pick (pickTest x 6) (pickDflt 6) [(1032, Str.ofString "s"), (1024, Str.ofString "S"), (8, Str.ofString "x")] = _
  simp only [pick, pickTest, pickDflt, show (6 : Nat) = 0 ↔ False from by decide, if_false, bitAnd_p3, bitAnd_p10, bitAnd_1032, endSign]
  rw [ifd (show 1024 * (x / 1024 % 2) + 8 * (x / 8 % 2) = 1032 ↔ (x / 1024 % 2 = 1 ∧ x / 8 % 2 = 1) by omega), ifd (show 1024 * (x / 1024 % 2) = 1024 ↔ x / 1024 % 2 = 1 by omega), ifd (show 8 * (x / 8 % 2) = 8 ↔ x / 8 % 2 = 1 by omega)]
  by_cases h1 : x / 1024 % 2 = 1 <;> by_cases h2 : x / 8 % 2 = 1 <;> simp [h1, h2]
theorem sign9 (x : Int) : fmSign x 9 = endSign (x / 1 % 2) (x / 512 % 2) (Str.ofString "t") (Str.ofString "T") := by
  show pick (pickTest x 9) (pickDflt 9) [(513, Str.ofString "t"), (512, Str.ofString "T"), (1, Str.ofString "x")] = _
  simp only [pick, pickTest, pickDflt, show (9 : Nat) = 0 ↔ False from by decide, if_false, bitAnd_p0, bitAnd_p9, bitAnd_513, endSign]
  rw [ifd (show 512 * (x / 512 % 2) + 1 * (x / 1 % 2) = 513 ↔ (x / 512 % 2 = 1 ∧ x / 1 % 2 = 1) by omega), ifd (show 512 * (x / 512 % 2) = 512 ↔ x / 512 % 2 = 1 by omega), ifd (show 1 * (x / 1 % 2) = 1 ↔ x / 1 % 2 = 1 by omega)]
  by_cases h1 : x / 512 % 2 = 1 <;> by_cases h2 : x / 1 % 2 = 1 <;> simp [h1, h2]
end Mine
namespace Mine
section
variable {prog : Program} {w : World} {A : Around} {E : Value → Shared → Prop} {s : Shared} {env : Env} {h₀ : Heap} {target : Expr} {body orelse : List Stmt} {Q : Flow → Shared → Prop} {m : Str → Option Value} {news : List (Addr × Obj)}
/-- over a range by ones -/
theorem iter_range {x : Str} {px : Pos} {r : Addr} {a b : Int} {t u v : Tok} {n : Nat} (hh : A.handled = none) (hr : IsRange s.heap r a b 1 t u v) (hsmall : Builtin.Range.small a b 1 = true) (hsz : Builtin.Range.rangeSize a b 1 = (n : Int))
    (F : Fr h₀ env.locals s.heap m) (N : News h₀ env.locals s.heap news)
    (J : Nat → (Str → Option Value) → List (Addr × Obj) → Prop) (h0 : J 0 m news)
    (step : ∀ i k t₁ m₁ news₁ h₁ tk₁ I o, i < n → k = a + (i : Int) → J i m₁ news₁ → (∀ p ∈ news₁, p.1 ≠ I) → Fr h₀ env.locals h₁ m₁ → News h₀ env.locals h₁ ((I, o) :: news₁) → (∀ p ∈ news, p.1 < I) →
      wpAny (model prog w) A (assign (.Name x px) env (.int k t₁)) (fun _ s₂ => wpAny (model prog w) A (execs body env)
        (StepPost h₀ env.locals [I] [(I, o)] s (J (i + 1)) Q) E s₂) E { s with heap := h₁, toks := tk₁ })
    (done : ∀ h' tk m' news', Fr h₀ env.locals h' m' → News h₀ env.locals h' news' → J n m' news' → wpAny (model prog w) A (execs orelse env) Q E { s with heap := h', toks := tk })
    (hE : PassesOwn (model prog w) A env E) :
    wpAny (model prog w) A (pyIter (.ref r)) (fun it s₂ => codeAny (model prog w) A (.forLoop (.Name x px) it body orelse env) (LoopR prog w A env Q E) s₂) E s := by
  have hLs : env.locals < s.heap.objs.size := F.ns.lt
  refine wpAny_pyIter_range hr hsmall ?_
  refine my_loop (s := { s with heap := s.heap.push _ }) (ws := [s.heap.objs.size]) (KTurns.ofWalks (Walks.range hh s.heap.objs.size a 1 n) fun i v s Q E st q => wpAny_pure q) ?_ ?_ ?_ ?_ ?_ ?_ (F.push _) (fun p hp => ⟨Heap.get?_push_of_some _ (N p hp).1, (N p hp).2⟩) J h0 ?_ ?_ hE
  · intro b hb
    exact .inl hb
  · intro b hb; exact hb
  · intro b hb
    have hb' : b = s.heap.objs.size := by simpa using hb
    subst hb'
    exact ⟨base_new F (Nat.le_refl _), Nat.ne_of_gt hLs⟩
  · intro i h hst b hb
    have hb' : b = s.heap.objs.size := by simpa using hb
    subst hb'
    exact ⟨_, hst⟩
  · intro p hp hI
    have hb' : p.1 = s.heap.objs.size := by simpa using hI
    exact absurd (Heap.lt_size (N p hp).1) (hb' ▸ Nat.lt_irrefl _)
  · rw [hsz]
    show IsRangeIter _ _ (a + ((0 : Nat) : Int) * 1) ((n : Int) - ((0 : Nat) : Int)) 1
    have e1 : a + ((0 : Nat) : Int) * 1 = a := by omega
    have e2 : (n : Int) - ((0 : Nat) : Int) = n := by omega
    rw [e1, e2]
    exact Heap.get?_push_size _ rfl
  · intro i v m₁ news₁ h₁ tk₁ its hi hP hJ hoff hits F₁ N₁
    obtain ⟨o, rfl⟩ := one_of hits
    obtain ⟨t₁, rfl⟩ := hP
    exact step i _ t₁ m₁ news₁ h₁ tk₁ _ o hi (by omega) hJ (fun p hp e => hoff p hp (by simp [e])) F₁ N₁ fun p hp => Heap.lt_size (N p hp).1
  · intro h' tk m' news' F' N' _ hJ
    exact done h' tk m' news' F' N' hJ
end
end Mine
namespace Mine
def sc (x : Int) (i : Nat) : Nat := (fmSign x i).cps.getD 0 0
theorem one_sign {x : Str} (h : x.length = 1) : x = ⟨#[x.cps.getD 0 0]⟩ := by
  obtain ⟨⟨l⟩⟩ := x
  match l, h with
  | [c], _ => rfl
theorem fmSign_sc (x : Int) (i : Nat) : fmSign x i = ⟨#[sc x i]⟩ := one_sign (fmSign_len x i)
theorem join10 (c0 c1 c2 c3 c4 c5 c6 c7 c8 c9 : Nat) : Txt.join (Str.ofString "") [⟨#[c0]⟩, ⟨#[c1]⟩, ⟨#[c2]⟩, ⟨#[c3]⟩, ⟨#[c4]⟩, ⟨#[c5]⟩, ⟨#[c6]⟩, ⟨#[c7]⟩, ⟨#[c8]⟩, ⟨#[c9]⟩] = ⟨#[c0, c1, c2, c3, c4, c5, c6, c7, c8, c9]⟩ := rfl
theorem fmText_eq (x : Int) : fmText x = ⟨#[sc x 0, sc x 1, sc x 2, sc x 3, sc x 4, sc x 5, sc x 6, sc x 7, sc x 8, sc x 9]⟩ := by
  have e : fmSigns x = [⟨#[sc x 0]⟩, ⟨#[sc x 1]⟩, ⟨#[sc x 2]⟩, ⟨#[sc x 3]⟩, ⟨#[sc x 4]⟩, ⟨#[sc x 5]⟩, ⟨#[sc x 6]⟩, ⟨#[sc x 7]⟩, ⟨#[sc x 8]⟩, ⟨#[sc x 9]⟩] := by
    have : fmSigns x = [fmSign x 0, fmSign x 1, fmSign x 2, fmSign x 3, fmSign x 4, fmSign x 5, fmSign x 6, fmSign x 7, fmSign x 8, fmSign x 9] := rfl
    rw [this]; simp only [fmSign_sc]
  rw [fmText, e]; exact join10 _ _ _ _ _ _ _ _ _ _
theorem fmText_len (x : Int) : (fmText x).length = 10 := by rw [fmText_eq]; rfl
theorem fmText_item0 (x : Int) : Txt.item (fmText x) 0 = fmSign x 0 := by rw [fmText_eq, fmSign_sc]; rfl
theorem fmText_item1 (x : Int) : Txt.item (fmText x) 1 = fmSign x 1 := by rw [fmText_eq, fmSign_sc]; rfl
theorem fmText_item2 (x : Int) : Txt.item (fmText x) 2 = fmSign x 2 := by rw [fmText_eq, fmSign_sc]; rfl
theorem fmText_item3 (x : Int) : Txt.item (fmText x) 3 = fmSign x 3 := by rw [fmText_eq, fmSign_sc]; rfl
theorem fmText_item4 (x : Int) : Txt.item (fmText x) 4 = fmSign x 4 := by rw [fmText_eq, fmSign_sc]; rfl
theorem fmText_item5 (x : Int) : Txt.item (fmText x) 5 = fmSign x 5 := by rw [fmText_eq, fmSign_sc]; rfl
theorem fmText_item6 (x : Int) : Txt.item (fmText x) 6 = fmSign x 6 := by rw [fmText_eq, fmSign_sc]; rfl
theorem fmText_item7 (x : Int) : Txt.item (fmText x) 7 = fmSign x 7 := by rw [fmText_eq, fmSign_sc]; rfl
theorem fmText_item8 (x : Int) : Txt.item (fmText x) 8 = fmSign x 8 := by rw [fmText_eq, fmSign_sc]; rfl
theorem fmText_item9 (x : Int) : Txt.item (fmText x) 9 = fmSign x 9 := by rw [fmText_eq, fmSign_sc]; rfl
end Mine
namespace Mine
section
variable {prog : Program} {w : World} {A : Around} {E : Value → Shared → Prop} {s : Shared} {h₀ : Heap} {L d : Addr} {news : List (Addr × Obj)} {o : Obj} {kvs : List (Str × Value)} {x : Str} {t : Tok}
theorem ne_str_is {a b : Str} {u : Tok} {Q : Value → Shared → Prop} (e : a = b) (h : Q (.bool false) s) : wpAny (model prog w) A (compareOp .NotEq (.str a t) (.str b u)) Q E s := by
  subst e
  refine PyProof.Rows.ne_str ?_
  rw [show (a != a) = false by simp]
  exact h
theorem ne_int_is {a b : Int} {u : Tok} {Q : Value → Shared → Prop} (e : a = b) (h : Q (.bool false) s) : wpAny (model prog w) A (compareOp .NotEq (.int a t) (.int b u)) Q E s := by
  subst e
  refine ne_int ?_
  rw [show (a != a) = false by simp]
  exact h
theorem fm_item {value slice : PySem.Expr} {M i : Int} {u : Tok} {Q : Value → Shared → Prop} (h0 : 0 ≤ i) (h1 : i < 10) (h : ∀ t', Q (.str (fmSign M i.toNat) t') { s with toks := s.toks + 1 })
    (hs : subscripted slice false (.str (fmText M) t) (.int i u) = operate [.str (fmText M) t, .int i u] (getItem (.str (fmText M) t) (.int i u)))
    (hg : ∀ r, letTemporaryGo value (.str (fmText M) t) r = pure ()) :
    wpAny (model prog w) A (subscriptTail value slice (.str (fmText M) t) (.int i u)) Q E s := by
  have hl := fmText_len M
  refine KXi.item hl (by omega) h1 (by decide) (fun _ => ?_) hs hg
  have e : Txt.item (fmText M) i = fmSign M i.toNat := by
    rcases (by omega : i = 0 ∨ i = 1 ∨ i = 2 ∨ i = 3 ∨ i = 4 ∨ i = 5 ∨ i = 6 ∨ i = 7 ∨ i = 8 ∨ i = 9) with rfl | rfl | rfl | rfl | rfl | rfl | rfl | rfl | rfl | rfl
    · exact fmText_item0 M
    · exact fmText_item1 M
    · exact fmText_item2 M
    · exact fmText_item3 M
    · exact fmText_item4 M
    · exact fmText_item5 M
    · exact fmText_item6 M
    · exact fmText_item7 M
    · exact fmText_item8 M
    · exact fmText_item9 M
  rw [e]; exact h _
theorem fdv0 {x v : Int} (h : 0 ≤ v) : x.fdiv v = x / v := Int.fdiv_eq_ediv_of_nonneg _ h
theorem fmv0 {x v : Int} (h : 0 ≤ v) : x.fmod v = x % v := Int.fmod_eq_emod_of_nonneg _ h
end
end Mine
namespace Mine
open PyProof.Rows.LCg
section
variable {prog : Program} {w : World} {A : Around} {E : Value → Shared → Prop} {s : Shared} {env : Env}
end
/-- what a comprehension's end hands on -/
def FinOk (RR : Value → Addr → Result → Shared → Prop) (h₀ : Heap) (L : Addr) (m : Str → Option Value) (news : List (Addr × Obj)) (s : Shared) (n : Nat) (G : Nat → Value → Prop) : Prop :=
  ∀ D C h tk m' ys, Fr h₀ L h m → News h₀ L h ((D, lst ys) :: news) → (∀ p ∈ news, p.1 < D) → (∀ p ∈ (D, lst ys) :: news, p.1 ≠ C) → C ≠ L → h₀.get? C = none → h.Ns C m' → ys.length = n → (∀ i v, ys[i]? = some v → G i v) → RR (.ref D) C (.ok .next) { s with heap := h, toks := tk }
section
variable {prog : Program} {w : World} {A : Around} {E : Value → Shared → Prop} {s : Shared} {env : Env} {h₀ : Heap} {L : Addr} {m : Str → Option Value} {news : List (Addr × Obj)} {n : Nat} {G : Nat → Value → Prop}
theorem FinOk.plain {Q : Value → Shared → Prop} (hq : ∀ D ys h tk, Fr h₀ L h m → News h₀ L h ((D, lst ys) :: news) → (∀ p ∈ news, p.1 < D) → ys.length = n → (∀ i v, ys[i]? = some v → G i v) → Q (.ref D) { s with heap := h, toks := tk }) :
    FinOk (compPost (model prog w) A E none Q) h₀ L m news s n G := by
  intro D C h tk m' ys F N l off hCL hC₀ ns hy hG
  exact ⟨m', ns, fun h' hs => hq D ys h' tk (F.change hs hCL hC₀) (fun p hp => ⟨hs.extBut _ _ (off p hp) (N p hp).1, (N p hp).2⟩) l hy hG⟩
theorem FinOk.assign {z : Str} {pz : Pos} {QN : Shared → Prop} (hL : env.locals = L) (hz : env.kindOf z = some .local) (hk : (env.scope.kind == .class || (env.scope.kind == .module && env.locals != env.globals)) = false)
    (hq : ∀ D ys h tk, Fr h₀ L h (fun y => if y = z then some (.ref D) else m y) → News h₀ L h ((D, lst ys) :: news) → (∀ p ∈ news, p.1 < D) → ys.length = n → (∀ i v, ys[i]? = some v → G i v) → QN { s with heap := h, toks := tk }) :
    FinOk (compPost (model prog w) A E (some (assign (.Name z pz) env)) (fun _ s' => QN s')) h₀ L m news s n G := by
  subst hL
  intro D C h tk m' ys F N l off hCL hC₀ ns hy hG
  show wpAny _ _ (PySem.assign (.Name z pz) env (.ref D)) _ _ _
  refine wpAny_assign_Name (wpAny_storeName_local hz F.ns (fun h₁ ns₁ hs₁ => ?_) hk)
  refine ⟨m', ns.at' fun o e => hs₁.extBut _ _ hCL e, fun h' hs => ?_⟩
  have F₁ : Fr h₀ env.locals h₁ (fun y => if y = z then some (.ref D) else m y) := ⟨ns₁, fun b o e => hs₁.extBut b o (fun q => by rw [q] at e; exact absurd (Heap.lt_size e) (Nat.not_lt.mpr F.above)) (F.keep b o e), F.above⟩
  exact hq D ys h' _ (F₁.change hs hCL hC₀) (fun p hp => ⟨hs.extBut _ _ (off p hp) (hs₁.extBut _ _ (N p hp).2.1 (N p hp).1), (N p hp).2⟩) l hy hG
end
/-- call_pure, the frame's count of tokens hidden -/
theorem call_pureT {prog : Program} {w : World} {A A₀ : Around} {E : Value → Shared → Prop} {s : Shared} {K : Frag} {L : Addr} {h₀ base : Heap} {m mg mb : Str → Option Value} {p : Program} {loose : List Str} {mean : ExcName → Option Value} {Q : Value → Shared → Prop}
    {env : Env} {outer : List Env} {name qual : Str} {params : Arguments} {body : List Stmt} {scope : Scope} {dV kV doc pm cdv ct oc : Value} {an od : Option Addr} {osl : Array (Option Value)} {f : Addr} {vals : List Value} {binds : List (Str × Value)}
    (B : Below A₀ base outer h₀) (F : Fr h₀ L s.heap m) (X₀ : K.In h₀) (T : Top p loose mean mg mb h₀) (hA : A.frames = some (env :: outer)) (hf : env.frame = some L) (hke : env.scope.kind = .function)
    (ho : K.lookup f = some ⟨oc, od, .func (fnOf name qual params body scope dV kV doc pm an cdv ct), osl⟩) (hcd : codeIn K cdv qual = true) (hroom : A.depth < recursionLimit)
    (hbind : BindsTo s (fnOf name qual params body scope dV kV doc pm an cdv ct) ⟨vals, []⟩ binds) (hloc : ∀ y ∈ binds, scope.names.lookup y.1 = some .local)
    (h : ∀ L' h₁ tk, Fr s.heap L' h₁ (fun y => binds.reverse.lookup y) → News s.heap L' h₁ [] → Below A base (env :: outer) s.heap → K.In s.heap → Top p loose mean mg mb s.heap →
      wpAny (model prog w) (A.deeper (envOf qual scope L' f cdv)) (execs body (envOf qual scope L' f cdv))
        (fun fl s' => Q (match fl with | .ret v => v | _ => .none) s') (fun _ _ => False) { s with heap := h₁, toks := tk })
    (hco : scope.isCoroutine = false) (hgen : scope.isGenerator = false) (hk : scope.kind = .function)
    (hcell : ∀ x ∈ scope.names, x.2 ≠ .cell) : wpAny (model prog w) A (call (.ref f) vals) Q E s :=
  call_pure B F X₀ T hA hf hke ho hcd hroom hbind hloc (fun L' h₁ a b c d e => h L' h₁ _ a b c d e) hco hgen hk hcell
theorem hold_intro {p : Prop} (h : Hold p) : p := h
/-- the text behind the first sign -/
def fmTail (M : Int) : Str := ⟨#[sc M 1, sc M 2, sc M 3, sc M 4, sc M 5, sc M 6, sc M 7, sc M 8, sc M 9]⟩
theorem fm_slice1 (M : Int) : Txt.slice (fmText M) (some 1) none = fmTail M := by
  rw [fmText_eq]
  have e : Builtin.Str.strSliceIndices (some 1) none 1 10 = [1, 2, 3, 4, 5, 6, 7, 8, 9] := by decide +kernel
  unfold Txt.slice
  simp only [Str.length, List.size_toArray, List.length_cons, List.length_nil, Nat.zero_add, Nat.reduceAdd, e]
  rfl
section
variable {prog : Program} {w : World} {A : Around} {E : Value → Shared → Prop} {s : Shared} {h₀ : Heap} {L : Addr} {m : Str → Option Value} {news : List (Addr × Obj)} {value slice : PySem.Expr} {M : Int} {t : Tok} {Q : Value → Shared → Prop}
theorem fm_slice {ui : Tok} (hF : Fr h₀ L s.heap m) (hN : News h₀ L s.heap news) (h : ∀ h' t' k, Fr h₀ L h' m → News h₀ L h' news → Q (.str (fmTail M) t') { s with heap := h', toks := k })
    (hs : subscripted slice false (.str (fmText M) t) (.ref s.heap.objs.size) = operate [.ref s.heap.objs.size, .str (fmText M) t] (getItem (.str (fmText M) t) (.ref s.heap.objs.size)))
    (ht : ∀ r, letTemporaryGo value (.str (fmText M) t) r = pure ()) :
    wpAny (model prog w) A (subscriptTail value slice (.str (fmText M) t) (.ref s.heap.objs.size)) Q E { s with heap := s.heap.push { cls := .type "slice", data := .fields #[.int 1 ui, .none, .none] } } :=
  slice_strN_sn hF hN (fun h' t' k a b => by rw [fm_slice1]; exact h h' t' k a b) hs ht (by rw [fmText_len]; decide)
end
section
variable {prog : Program} {w : World} {A : Around} {E : Value → Shared → Prop} {s : Shared} {t u : Tok} {Q : Value → Shared → Prop}
end
theorem cat9 (c0 c1 c2 c3 c4 c5 c6 c7 c8 c9 : Nat) : (⟨#[c0]⟩ : Str) ++ (⟨#[c1, c2, c3, c4, c5, c6, c7, c8, c9]⟩ : Str) = ⟨#[c0, c1, c2, c3, c4, c5, c6, c7, c8, c9]⟩ := by
  show (⟨#[c0] ++ #[c1, c2, c3, c4, c5, c6, c7, c8, c9]⟩ : Str) = _
  simp
end Mine
namespace Mine
open PyProof.Rows.LCg
open Sem (wp)
section
variable {prog : Program} {w : World} {A : Around} {E : Value → Shared → Prop} {s : Shared}
variable {z TI TO i1 i2 : Addr} {fp1 fp2 : List Addr} {n1 n2 : Nat} {P1 P2 : Nat → Value → Prop} {St1 St2 : Nat → Heap → Prop}
end
abbrev zs1 (h : Heap) (l1 : Addr) : Heap := h.push { cls := .type "list_iterator", data := .fields #[.ref l1, .int 0 0] }
abbrev zs2 (h : Heap) (l1 : Addr) (x : Str) (t : Tok) : Heap := (zs1 h l1).push { cls := .type (strIterType x), data := .fields #[.str x t, .int 0 0] }
abbrev zs3 (h : Heap) (l1 : Addr) (x : Str) (t : Tok) : Heap := (zs2 h l1 x t).push { cls := .type "tuple", data := .seq #[.ref h.objs.size, .ref (zs1 h l1).objs.size] }
abbrev zs4 (h : Heap) (l1 : Addr) (x : Str) (t : Tok) : Heap := (zs3 h l1 x t).push { cls := .type "tuple", data := .seq #[.none, .none] }
abbrev zs5 (h : Heap) (l1 : Addr) (x : Str) (t : Tok) : Heap := (zs4 h l1 x t).push { cls := .type "zip", data := .fields #[.none, .bool false, .bool false, .ref (zs2 h l1 x t).objs.size, .ref (zs3 h l1 x t).objs.size] }
section
variable {prog : Program} {w : World} {A : Around} {E : Value → Shared → Prop} {s : Shared} {env : Env} {h₀ h' : Heap} {L l1 : Addr} {m : Str → Option Value} {news : List (Addr × Obj)} {elt : Expr} {a b : Str} {pa pb tp : Pos} {kk : Nat} {scope : Scope} {cl : List (Str × Addr)} {RR : Value → Addr → Result → Shared → Prop}
end
end Mine
namespace Mine
open PyProof.Rows.LCg
section
variable {prog : Program} {w : World} {A : Around} {E : Value → Shared → Prop} {s : Shared} {env : Env}
theorem letGo_name {x : Str} {px : Pos} {it v : Value} {Q : Unit → Shared → Prop} (h : Q () s) : wpAny (model prog w) A (letOwnedTupleGo (.Name x px) it v) Q E s := wpAny_pure h
/-- a source of single things; the element may be a new thing of the heap -/
structure OneSrc (prog : Program) (w : World) (A : Around) (env : Env) (elt : Expr) (a : Str) (pa : Pos) (scope : Scope) (cl : List (Str × Addr)) (RR : Value → Addr → Result → Shared → Prop) (s₂ : Shared)
    (I : Addr) (fp wr : List Addr) (n : Nat) (P : Nat → Value → Prop) (St : Nat → Heap → Prop) (G : Nat → Value → Heap → List Addr → Prop) : Prop where
  W : Walks prog w A I fp wr n P St
  sz : n ≤ sizeLine
  st : St 0 s₂.heap
  low : ∀ c ∈ fp, c < s₂.heap.objs.size
  live : ∀ i h, St i h → ∀ c ∈ wr, ∃ o, h.get? c = some o
  stab : ∀ i v h h' off, G i v h off → (∀ c o, c ∉ off → h.get? c = some o → h'.get? c = some o) → G i v h' off
  elt : ∀ C i x h₃ tk₃ m₃ E' off, i < n → s₂.heap.objs.size < C → P i x → h₃.Ns C m₃ → m₃ a = some x → (∀ c ∈ off, ∃ o, h₃.get? c = some o) → (∀ c o, c ∉ wr → s₂.heap.get? c = some o → h₃.get? c = some o) →
    wpAny (model prog w) A (eval elt (compEnvC scope cl C env)) (fun v s₄ => G i v s₄.heap off ∧ Keeps { s₂ with heap := h₃, toks := tk₃ } s₄) E' { s₂ with heap := h₃, toks := tk₃ }
  fin : ∀ D C h' tk m' ys off, s₂.heap.objs.size ≤ D → s₂.heap.objs.size ≤ C → C ≠ D → h'.Ns C m' → h'.get? D = some (lst ys) → ys.length = n → (∀ i v, ys[i]? = some v → G i v h' off) → C ∈ off → (∀ c o, c ∉ wr → s₂.heap.get? c = some o → h'.get? c = some o) →
    RR (.ref D) C (.ok .next) { s₂ with heap := h', toks := tk }
theorem one_block {elt iter : Expr} {a : Str} {pa : Pos} {scope : Scope} {cl : List (Str × Addr)} {pos : Pos} {RR : Value → Addr → Result → Shared → Prop} {s₂ : Shared} {I : Addr} {fp wr : List Addr} {n : Nat} {P : Nat → Value → Prop} {St : Nat → Heap → Prop} {G : Nat → Value → Heap → List Addr → Prop}
    (hcell : ∀ y ∈ scope.names, y.2 ≠ .cell) (hkind : scope.kind = .function) (hxa : scope.names.lookup a = some .local)
    (S : OneSrc prog w A env elt a pa scope cl RR s₂ I fp wr n P St G) :
    wpAny (model prog w) A (newList []) (fun acc s₃ => wpAny (model prog w) A (newFunctionEnv scope env.globals cl [] env.qual none .none (some env)) (fun cenv s₄ =>
      codeAny (model prog w) A (.compStart (.ListComp elt [⟨.Name a pa, iter, [], 0⟩] scope pos) 0 (.ref I) acc { cenv with scope := relabel scope env }) (RR acc cenv.locals) s₄) E s₃) E s₂ := by
  refine wpAny_newObj_type (wpAny_newFunctionEnv hcell (by intro y hy; simp at hy) (fun h₁ hns₁ hsb₁ => ?_) hkind)
  dsimp only at hns₁ hsb₁ ⊢
  generalize hH2 : s₂.heap.push { cls := .type "list", dict := none, data := .seq ([] : List Value).toArray } = H2 at hns₁ hsb₁ ⊢
  have hC : H2.objs.size = s₂.heap.objs.size + 1 := by rw [← hH2, Heap.size_push]
  have hCD : H2.objs.size ≠ s₂.heap.objs.size := by rw [hC]; exact Nat.succ_ne_self _
  have low : ∀ c, c < s₂.heap.objs.size → c ≠ H2.objs.size ∧ c ≠ s₂.heap.objs.size := fun c hc => ⟨by rw [hC]; exact Nat.ne_of_lt (Nat.lt_succ_of_lt hc), Nat.ne_of_lt hc⟩
  have fpC : ∀ c ∈ fp, c ≠ H2.objs.size := fun c hc => (low c (S.low c hc)).1
  have fpD : ∀ c ∈ fp, c ≠ s₂.heap.objs.size := fun c hc => (low c (S.low c hc)).2
  have old : ∀ c o, s₂.heap.get? c = some o → h₁.get? c = some o := fun c o e => hsb₁.extBut c o (low c (Heap.lt_size e)).1 (Heap.get?_push_of_some _ (hH2 ▸ Heap.get?_push_of_some _ e))
  have acc₁ : h₁.get? s₂.heap.objs.size = some (lst []) := hsb₁.extBut _ _ (Ne.symm hCD) (Heap.get?_push_of_some _ (hH2 ▸ Heap.get?_push_size _ rfl))
  have st₁ : St 0 h₁ := S.W.frame _ _ _ S.st fun c _ o e => old c o e
  have loop : ∀ s₃ : Shared, s₃ = { s₂ with heap := h₁, toks := s₂.toks + ([] : List (Str × Value)).length } →
      codeAny (model prog w) A (.compLoop (.ListComp elt [⟨.Name a pa, iter, [], 0⟩] scope pos) 0 (.ref I) (.ref s₂.heap.objs.size) (compEnvC scope cl H2.objs.size env))
        (RR (.ref s₂.heap.objs.size) H2.objs.size) s₃ := by
    rintro s₃ rfl
    refine kcp_loop
      (fun k s' => ∃ h' tk i ys m', s' = { s₂ with heap := h', toks := tk } ∧ i ≤ n ∧ k = n + 1 - i ∧ ys.length = i ∧ St i h' ∧ h'.Ns H2.objs.size m' ∧ h'.get? s₂.heap.objs.size = some (lst ys) ∧ (∀ j v, ys[j]? = some v → G j v h' (s₂.heap.objs.size :: H2.objs.size :: wr)) ∧
        ∀ c o, c ∉ wr → s₂.heap.get? c = some o → h'.get? c = some o) ?_ (n + 1)
      ⟨h₁, _, 0, [], _, rfl, Nat.zero_le _, rfl, rfl, st₁, hns₁, acc₁, fun j v e => by simp at e, fun c o _ e => old c o e⟩
    rintro k s' ⟨h', tk, i, ys, m', rfl, hi, rfl, hyl, st', ns', acc', hG, keep⟩
    by_cases hlt : i < n
    · refine S.W.item i _ _ _ hlt st' fun v h₃ tk₃ hP st₃ hk₃ => ?_
      refine letGo_name ?_
      have up₃ : ∀ c o, c ∉ wr → h'.get? c = some o → h₃.get? c = some o := hk₃
      have Cw : H2.objs.size ∉ wr := fun hm => fpC _ (S.W.sub _ hm) rfl
      have Dw : s₂.heap.objs.size ∉ wr := fun hm => fpD _ (S.W.sub _ hm) rfl
      refine wpAny_assign_Name (wpAny_storeName_local (lookup_relabel_local hxa) (ns'.at' fun o e => up₃ _ o Cw e) (fun h₄ ns₄ hsb₄ => ?_) (by simp [compEnvC, relabel, hkind]))
      have hs₄ : ∀ c o, c ≠ H2.objs.size → h₃.get? c = some o → h₄.get? c = some o := fun c o hc e => hsb₄.extBut c o hc e
      have acc₄ : h₄.get? s₂.heap.objs.size = some (lst ys) := hs₄ _ _ (Ne.symm hCD) (up₃ _ _ Dw acc')
      refine wpAny_mono (S.elt H2.objs.size i v h₄ _ _ _ (s₂.heap.objs.size :: H2.objs.size :: wr) hlt (by rw [hC]; exact Nat.lt_succ_self _) hP ns₄ (by simp) (fun c hc => ?_) (fun c o hc e => hs₄ c o ((low c (Heap.lt_size e)).1) (up₃ c o hc (keep c o hc e)))) (fun v s₅ h₅ => ?_) fun _ _ e => e
      · rcases List.mem_cons.mp hc with rfl | hc
        · exact ⟨_, acc₄⟩
        · rcases List.mem_cons.mp hc with rfl | hc
          · obtain ⟨o, _, _, ho, _⟩ := ns₄; exact ⟨o, ho⟩
          · obtain ⟨o, ho⟩ := S.live _ _ st₃ c hc
            exact ⟨o, hs₄ c o (fpC c (S.W.sub _ hc)) ho⟩
      obtain ⟨hv, h₅, tk₅, rfl, hk₅⟩ := h₅
      have acc₅ : h₅.get? s₂.heap.objs.size = some (lst ys) := hk₅ _ _ acc₄
      have st₅ : St (i + 1) h₅ := S.W.frame _ _ _ st₃ fun c hc o e => hk₅ c o (hs₄ c o (fpC c hc) e)
      have ns₅ := ns₄.at' fun o e => hk₅ _ o e
      refine append_at (hsz := by show ys.toArray.size ≤ sizeLine; rw [List.size_toArray, hyl]; exact Nat.le_trans hi S.sz) acc₅ fun h₆ hs₆ acc₆ => ?_
      have off6 : ∀ c o, c ∉ s₂.heap.objs.size :: H2.objs.size :: wr → h'.get? c = some o → h₆.get? c = some o := fun c o hc e =>
        hs₆.extBut c o (fun q => hc (by rw [q]; exact .head _)) (hk₅ c o (hs₄ c o (fun q => hc (by rw [q]; exact .tail _ (.head _))) (up₃ c o (fun q => hc (.tail _ (.tail _ q))) e)))
      refine ⟨n + 1 - (i + 1), by omega, h₆, tk₅, i + 1, ys ++ [v], _, rfl, hlt, rfl, by rw [List.length_append, List.length_singleton, hyl], S.W.frame _ _ _ st₅ fun c hc o e => hs₆.extBut c o (fpD c hc) e,
        ns₅.sameBut hs₆ hCD, acc₆.trans (congrArg some (lst_snoc ys v)), ?_, fun c o hc e => hs₆.extBut c o (low c (Heap.lt_size e)).2 (hk₅ c o (hs₄ c o (low c (Heap.lt_size e)).1 (up₃ c o hc (keep c o hc e))))⟩
      intro j u e
      rcases Nat.lt_or_ge j ys.length with hj | hj
      · rw [List.getElem?_append_left hj] at e; exact S.stab _ _ _ _ _ (hG j u e) off6
      · rw [List.getElem?_append_right hj] at e
        have hj0 : j - ys.length = 0 := by
          have := (List.getElem?_eq_some_iff.mp e).1
          simp at this; omega
        rw [hj0] at e
        have : j = i := by omega
        subst this
        cases e; exact S.stab _ _ _ _ _ hv fun c o hc e => hs₆.extBut c o (fun q => hc (by rw [q]; exact .head _)) e
    · obtain rfl : i = n := Nat.le_antisymm hi (Nat.not_lt.mp hlt)
      refine S.W.done _ _ _ st' fun h₂ tk₂ hk₂ => ?_
      have Cw : H2.objs.size ∉ wr := fun hm => fpC _ (S.W.sub _ hm) rfl
      have Dw : s₂.heap.objs.size ∉ wr := fun hm => fpD _ (S.W.sub _ hm) rfl
      exact S.fin _ _ h₂ tk₂ _ ys _ (Nat.le_refl _) (by rw [hC]; exact Nat.le_succ _) hCD (ns'.at' fun o e => hk₂ _ o Cw e) (hk₂ _ _ Dw acc') hyl
        (fun j v e => S.stab _ _ _ _ _ (hG j v e) fun c o hc e => hk₂ c o (fun q => hc (.tail _ (.tail _ q))) e) (.tail _ (.head _)) fun c o hc e => hk₂ c o hc (keep c o hc e)
  exact codeAny_compStart_list (loop _ rfl) (S.W.self 0 _ _ _ st₁ (loop _ rfl))
theorem comp_one {elt iter : Expr} {a : Str} {pa : Pos} {scope : Scope} {cl : List (Str × Addr)} {pos : Pos} {Q : Value → Shared → Prop}
    (hclos : closureFor scope env = pure cl) (hcell : ∀ y ∈ scope.names, y.2 ≠ .cell) (hkind : scope.kind = .function)
    (hnames : ∀ y ∈ scope.names, y.2 = .local → scope.names.lookup y.1 = some .local) (hxa : scope.names.lookup a = some .local)
    (h : wpAny (model prog w) A (eval iter env) (fun xv s₁ => wpAny (model prog w) A (pyIter xv) (fun it s₂ => ∃ I fp wr n P St G, it = .ref I ∧ OneSrc prog w A env elt a pa scope cl (compPost (model prog w) A E none Q) s₂ I fp wr n P St G) E s₁) E s)
    (hs : ∀ x, foldedSetIterable iter env x = pure x := by intro _; rfl) :
    wpAny (model prog w) A (eval (.ListComp elt [⟨.Name a pa, iter, [], 0⟩] scope pos) env) Q E s := by
  rw [eval_ListComp]
  refine wpAny_comprehension_free (use := none) rfl hs hclos hkind hnames (wpAny_mono h (fun xv s₁ h₁ => wpAny_mono h₁ (fun it s₂ h₂ => ?_) fun _ _ e => e) fun _ _ e => e)
  obtain ⟨I, fp, wr, n, P, St, G, rfl, S⟩ := h₂
  exact one_block hcell hkind hxa S
theorem comp_oneA {elt iter : Expr} {a z : Str} {pa pz : Pos} {scope : Scope} {cl : List (Str × Addr)} {pos spos : Pos} {Q : Flow → Shared → Prop}
    (hsw : swapsWith (.ListComp elt [⟨.Name a pa, iter, [], 0⟩] scope pos) (some (.Name z pz)) spos.line env = pure true)
    (hclos : closureFor scope env = pure cl) (hcell : ∀ y ∈ scope.names, y.2 ≠ .cell) (hkind : scope.kind = .function)
    (hnames : ∀ y ∈ scope.names, y.2 = .local → scope.names.lookup y.1 = some .local) (hxa : scope.names.lookup a = some .local)
    (h : wpAny (model prog w) A (eval iter env) (fun xv s₁ => wpAny (model prog w) A (pyIter xv) (fun it s₂ => ∃ I fp wr n P St G, it = .ref I ∧ OneSrc prog w A env elt a pa scope cl (compPost (model prog w) A E (some (assign (.Name z pz) env)) (fun _ s' => Q .next s')) s₂ I fp wr n P St G) E s₁) E s)
    (hs : ∀ x, foldedSetIterable iter env x = pure x := by intro _; rfl) :
    wpAny (model prog w) A (exec (.Assign [.Name z pz] (.ListComp elt [⟨.Name a pa, iter, [], 0⟩] scope pos) spos) env) Q E s := by
  rw [exec_Assign_Name_used _ _ _ _ hsw]
  refine wpAny_bind (wpAny_standAt (wpAny_bind ?_))
  show wpAny _ A (do let _ ← comprehension (.ListComp elt [⟨.Name a pa, iter, [], 0⟩] scope pos) scope env _ (newList []) false (eval iter env) (some (assign (.Name z pz) env))) _ _ s
  refine wpAny_bind (wpAny_mono (wpAny_comprehension_free (use := some (assign (.Name z pz) env)) (Q := fun _ s' => Q .next s') rfl hs hclos hkind hnames
    (wpAny_mono h (fun xv s₁ h₁ => wpAny_mono h₁ (fun it s₂ h₂ => ?_) fun _ _ e => e) fun _ _ e => e)) (fun _ s' hq => wpAny_pure (wpAny_pure hq)) fun _ _ e => e)
  obtain ⟨I, fp, wr, n, P, St, G, rfl, S⟩ := h₂
  exact one_block hcell hkind hxa S
end
/-- the same, where the elements may be new things -/
def FinOk1 (RR : Value → Addr → Result → Shared → Prop) (h₀ : Heap) (L : Addr) (m : Str → Option Value) (news : List (Addr × Obj)) (s : Shared) (n : Nat) (G : Nat → Value → Heap → List Addr → Prop) : Prop :=
  ∀ D C h tk m' ys off, Fr h₀ L h m → News h₀ L h ((D, lst ys) :: news) → (∀ p ∈ news, p.1 < D) → (∀ p ∈ (D, lst ys) :: news, p.1 ≠ C) → C ≠ L → h₀.get? C = none → h.Ns C m' → ys.length = n → (∀ i v, ys[i]? = some v → G i v h off) → C ∈ off →
    RR (.ref D) C (.ok .next) { s with heap := h, toks := tk }
section
variable {prog : Program} {w : World} {A : Around} {E : Value → Shared → Prop} {s : Shared} {env : Env} {h₀ : Heap} {L : Addr} {m : Str → Option Value} {news : List (Addr × Obj)} {n : Nat}
theorem FinOk1.of {RR : Value → Addr → Result → Shared → Prop} {G : Nat → Value → Prop} (h : FinOk RR h₀ L m news s n G) : FinOk1 RR h₀ L m news s n (fun i v _ _ => G i v) :=
  fun D C h' tk m' ys _ F N l off hCL hC₀ ns hy hG _ => h D C h' tk m' ys F N l off hCL hC₀ ns hy hG
end
section
variable {prog : Program} {w : World} {A : Around} {E : Value → Shared → Prop} {s : Shared} {env : Env} {h₀ : Heap} {L : Addr} {m : Str → Option Value} {news : List (Addr × Obj)} {elt : Expr} {x : Str} {px : Pos} {scope : Scope} {cl : List (Str × Addr)} {RR : Value → Addr → Result → Shared → Prop}
theorem one_core {I : Addr} {oI : Obj} {n : Nat} {P : Nat → Value → Prop} {St : Nat → Heap → Prop} {fp : List Addr} (F : Fr h₀ L s.heap m) (N : News h₀ L s.heap news) (hI : I = s.heap.objs.size) (W : Walks prog w A I fp [I] n P St) (st : St 0 (s.heap.push oI)) (hn : n ≤ sizeLine)
    (low : ∀ c ∈ fp, c < (s.heap.push oI).objs.size) (live : ∀ i h, St i h → ∃ o, h.get? I = some o) (G : Nat → Value → Heap → List Addr → Prop) (stab : ∀ i v h h' off, G i v h off → (∀ c o, c ∉ off → h.get? c = some o → h'.get? c = some o) → G i v h' off)
    (hel : ∀ i v C oC m₃ h tk E' off, i < n → P i v → Fr h₀ L h m → News h₀ L h ((C, oC) :: news) → (∀ p ∈ news, p.1 < C) → NsObj oC m₃ → m₃ x = some v → (∀ c ∈ off, ∃ o, h.get? c = some o) →
      wpAny (model prog w) A (eval elt (compEnvC scope cl C env)) (fun v s₄ => G i v s₄.heap off ∧ Keeps { s with heap := h, toks := tk } s₄) E' { s with heap := h, toks := tk })
    (hfin : FinOk1 RR h₀ L m news s n G) :
    ∃ I' fp wr n P St G, Value.ref I = .ref I' ∧ OneSrc prog w A env elt x px scope cl RR { s with heap := s.heap.push oI } I' fp wr n P St G := by
  subst hI
  have oldN : ∀ c o, s.heap.get? c = some o → c ∉ [s.heap.objs.size] := fun c o e hc => absurd (Heap.lt_size e) (by rw [List.mem_singleton.mp hc]; exact Nat.lt_irrefl _)
  have hsz : (s.heap.push oI).objs.size = s.heap.objs.size + 1 := Heap.size_push ..
  refine ⟨_, fp, [s.heap.objs.size], n, P, St, G, rfl, ⟨W, hn, st, low, ?_, stab, ?_, ?_⟩⟩
  · intro i h hst c hc
    rw [List.mem_singleton.mp hc]
    exact live i h hst
  · intro C i v h₃ tk₃ m₃ E' off hi hC hP ns ma hoff keep
    have up : ∀ c o, s.heap.get? c = some o → h₃.get? c = some o := fun c o e => keep c o (oldN c o e) (Heap.get?_push_of_some _ e)
    obtain ⟨oC, hoC, hNs⟩ := ns_obj ns
    have hC' : s.heap.objs.size ≤ C := by
      have : (s.heap.push oI).objs.size < C := hC
      rw [hsz] at this
      exact Nat.le_of_lt (Nat.lt_of_succ_lt this)
    refine hel i v C oC m₃ h₃ tk₃ E' off hi hP (F.keeps up) (fun p hp => ?_) (fun p hp => Nat.lt_of_lt_of_le (Heap.lt_size (N p hp).1) hC') hNs ma hoff
    rcases List.mem_cons.mp hp with rfl | hp
    · exact ⟨hoC, fun e => absurd F.ns.lt (Nat.not_lt.mpr (e ▸ hC')), base_new F hC'⟩
    · exact N.grown up p hp
  · intro D C h₃ tk₃ m₃ ys off hD hC hCD ns hg hlen hG hCo keep
    have up : ∀ c o, s.heap.get? c = some o → h₃.get? c = some o := fun c o e => keep c o (oldN c o e) (Heap.get?_push_of_some _ e)
    have hD' : s.heap.objs.size ≤ D := by
      have : (s.heap.push oI).objs.size ≤ D := hD
      rw [hsz] at this
      exact Nat.le_of_lt this
    have hC' : s.heap.objs.size ≤ C := by
      have : (s.heap.push oI).objs.size ≤ C := hC
      rw [hsz] at this
      exact Nat.le_of_lt this
    refine hfin D C h₃ tk₃ m₃ ys off (F.keeps up) (fun p hp => ?_) (fun p hp => Nat.lt_of_lt_of_le (Heap.lt_size (N p hp).1) hD') (fun p hp => ?_) (fun e => absurd F.ns.lt (Nat.not_lt.mpr (e ▸ hC'))) (base_new F hC') ns hlen hG hCo
    · rcases List.mem_cons.mp hp with rfl | hp
      · exact ⟨hg, fun e => absurd F.ns.lt (Nat.not_lt.mpr (e ▸ hD')), base_new F hD'⟩
      · exact N.grown up p hp
    · rcases List.mem_cons.mp hp with rfl | hp
      · exact Ne.symm hCD
      · exact Nat.ne_of_lt (Nat.lt_of_lt_of_le (Heap.lt_size (N p hp).1) hC')
theorem range_core {r : Addr} {a b : Int} {t u v : Tok} {n : Nat} (hh : A.handled = none) (F : Fr h₀ L s.heap m) (N : News h₀ L s.heap news) (hr : IsRange s.heap r a b 1 t u v) (hsmall : Builtin.Range.small a b 1 = true) (hsz : Builtin.Range.rangeSize a b 1 = (n : Int)) (hn : n ≤ sizeLine)
    (G : Nat → Value → Heap → List Addr → Prop) (stab : ∀ i v h h' off, G i v h off → (∀ c o, c ∉ off → h.get? c = some o → h'.get? c = some o) → G i v h' off)
    (hel : ∀ i k t C oC m₃ h tk E' off, i < n → k = a + (i : Int) → Fr h₀ L h m → News h₀ L h ((C, oC) :: news) → (∀ p ∈ news, p.1 < C) → NsObj oC m₃ → m₃ x = some (.int k t) → (∀ c ∈ off, ∃ o, h.get? c = some o) →
      wpAny (model prog w) A (eval elt (compEnvC scope cl C env)) (fun v s₄ => G i v s₄.heap off ∧ Keeps { s with heap := h, toks := tk } s₄) E' { s with heap := h, toks := tk })
    (hfin : FinOk1 RR h₀ L m news s n G) :
    wpAny (model prog w) A (pyIter (.ref r)) (fun it s₂ => ∃ I fp wr n P St G, it = .ref I ∧ OneSrc prog w A env elt x px scope cl RR s₂ I fp wr n P St G) E s := by
  refine wpAny_pyIter_range hr hsmall ?_
  refine one_core (I := s.heap.objs.size) F N rfl (Walks.range hh s.heap.objs.size a 1 n) ?_ hn ?_ ?_ G stab ?_ hfin
  · rw [hsz]
    show IsRangeIter _ _ (a + ((0 : Nat) : Int) * 1) ((n : Int) - ((0 : Nat) : Int)) 1
    have e1 : a + ((0 : Nat) : Int) * 1 = a := by omega
    have e2 : (n : Int) - ((0 : Nat) : Int) = n := by omega
    rw [e1, e2]
    exact Heap.get?_push_size _ rfl
  · intro c hc
    rw [List.mem_singleton.mp hc, Heap.size_push]; exact Nat.lt_succ_self _
  · exact fun i h st => ⟨_, st⟩
  · rintro i v C oC m₃ h tk E' off hi ⟨t', rfl⟩ F' N' l hNs ma hoff
    exact hel i _ t' C oC m₃ h tk E' off hi (by omega) F' N' l hNs ma hoff
/-- over a range: the elements are plain values -/
theorem range_vals {r : Addr} {a b : Int} {t u v : Tok} {n : Nat} (hh : A.handled = none) (F : Fr h₀ L s.heap m) (N : News h₀ L s.heap news) (hr : IsRange s.heap r a b 1 t u v) (hsmall : Builtin.Range.small a b 1 = true) (hsz : Builtin.Range.rangeSize a b 1 = (n : Int)) (hn : n ≤ sizeLine)
    (G : Nat → Value → Prop)
    (hel : ∀ i k t C oC m₃ h tk E', i < n → k = a + (i : Int) → Fr h₀ L h m → News h₀ L h ((C, oC) :: news) → (∀ p ∈ news, p.1 < C) → NsObj oC m₃ → m₃ x = some (.int k t) →
      wpAny (model prog w) A (eval elt (compEnvC scope cl C env)) (fun v s₄ => Hold (G i v ∧ Keeps { s with heap := h, toks := tk } s₄)) E' { s with heap := h, toks := tk })
    (hfin : FinOk RR h₀ L m news s n G) :
    wpAny (model prog w) A (pyIter (.ref r)) (fun it s₂ => ∃ I fp wr n P St G, it = .ref I ∧ OneSrc prog w A env elt x px scope cl RR s₂ I fp wr n P St G) E s :=
  range_core hh F N hr hsmall hsz hn (fun i v _ _ => G i v) (fun _ _ _ _ _ h _ => h) (fun i k t C oC m₃ h tk E' _ hi hk F' N' l hNs ma _ => hel i k t C oC m₃ h tk E' hi hk F' N' l hNs ma) (FinOk1.of hfin)
end
section
variable {prog : Program} {w : World} {A : Around} {E : Value → Shared → Prop} {s : Shared} {env : Env} {h₀ : Heap} {target : Expr} {body orelse : List Stmt} {Q : Flow → Shared → Prop} {m : Str → Option Value} {news : List (Addr × Obj)}
end
end Mine
namespace Mine
open PyProof.Rows.LCg
open PySem.SeqAt
section
variable {prog : Program} {w : World} {A : Around} {E : Value → Shared → Prop} {s : Shared} {l b : Addr} {xs ys : List Value} {Q : Value → Shared → Prop}
theorem ne_lists_same (hl : s.heap.IsList l xs.toArray) (hb : s.heap.IsList b ys.toArray) (hlen : xs.length = ys.length) (hu : A.units < cLine) (he : ∀ (j : Nat) x y, xs[j]? = some x → ys[j]? = some y → EqAt A.in1 s x y true)
    (h : Q (.bool false) s) : wpAny (model prog w) A (compareOp .NotEq (.ref l) (.ref b)) Q E s := by
  refine RcNeAt.lists (e := fun _ => true) hl hb (by simpa using hlen) hu (fun j h1 h2 => he j _ _ ?_ ?_) prog w E Q ?_
  · simp at h1; simp [h1]
  · simp at h2; simp [h2]
  · have e : (List.range xs.toArray.size).all (fun _ => true) = true := List.all_eq_true.mpr fun _ _ => rfl
    rw [e]; exact h
end
end Mine
namespace Mine
open PyProof.Rows.LCg
open Sem (wp)
/-- a thing that is no whole number -/
inductive Thing (h : Heap) : Value → Prop where
  | str (x : Str) (t : Tok) : Thing h (.str x t)
  | none : Thing h .none
  | bytes (b : Array UInt8) (t : Tok) : Thing h (.bytes b t)
  | seq (a : Addr) (o : Obj) (xs : Array Value) (n : Nat) (ho : h.get? a = some o) (hc : o.cls = .type "list" ∨ o.cls = .type "tuple") (hd : o.data = .seq xs n) : Thing h (.ref a)
  | dict (a : Addr) (o : Obj) (es : Array DictEntry) (n : Nat) (ho : h.get? a = some o) (hc : o.cls = .type "dict") (hd : o.data = .dict es n) : Thing h (.ref a)
theorem Thing.keeps {h h' : Heap} {v : Value} (x : Thing h v) (k : ∀ b o, h.get? b = some o → h'.get? b = some o) : Thing h' v := by
  cases x with
  | str x t => exact .str x t
  | none => exact .none
  | bytes b t => exact .bytes b t
  | seq a o xs n ho hc hd => exact .seq a o xs n (k _ _ ho) hc hd
  | dict a o es n ho hc hd => exact .dict a o es n (k _ _ ho) hc hd
theorem noFill_of {T : String} (h1 : typeLookup (.type T) (dunder "and") = pure .none) (h2 : typeLookup (.type T) (dunderR "and") = pure .none) : fillsNumberSlot (.type T) "and" = pure false := by
  simp only [fillsNumberSlot, h1, h2, pure_bind]; rfl
theorem nf_str : fillsNumberSlot (.type "str") "and" = pure false := noFill_of (by rw [typeLookup_type, builtinLookup_eq_fast]; kernel_rfl) (by rw [typeLookup_type, builtinLookup_eq_fast]; kernel_rfl)
theorem nf_none : fillsNumberSlot (.type "NoneType") "and" = pure false := noFill_of (by rw [typeLookup_type, builtinLookup_eq_fast]; kernel_rfl) (by rw [typeLookup_type, builtinLookup_eq_fast]; kernel_rfl)
theorem nf_bytes : fillsNumberSlot (.type "bytes") "and" = pure false := noFill_of (by rw [typeLookup_type, builtinLookup_eq_fast]; kernel_rfl) (by rw [typeLookup_type, builtinLookup_eq_fast]; kernel_rfl)
theorem nf_list : fillsNumberSlot (.type "list") "and" = pure false := noFill_of (by rw [typeLookup_type, builtinLookup_eq_fast]; kernel_rfl) (by rw [typeLookup_type, builtinLookup_eq_fast]; kernel_rfl)
theorem nf_tuple : fillsNumberSlot (.type "tuple") "and" = pure false := noFill_of (by rw [typeLookup_type, builtinLookup_eq_fast]; kernel_rfl) (by rw [typeLookup_type, builtinLookup_eq_fast]; kernel_rfl)
theorem nf_dict : fillsNumberSlot (.type "dict") "and" = pure false := noFill_of (by rw [typeLookup_type, builtinLookup_eq_fast]; kernel_rfl) (by rw [typeLookup_type, builtinLookup_eq_fast]; kernel_rfl)
theorem rand_bytes (a : Int) (t : Tok) (b : Array UInt8) (u : Tok) : Gives (Builtin.«int.__rand__» ⟨[.int a t, .bytes b u], []⟩) (.val (Value.notImplemented)) :=
  .of_wp fun M A E s Q h => by obtain ⟨hp, g, d, tk, os⟩ := s; wp_walk; exact ⟨_, rfl, h⟩
theorem rand_seq (a : Int) (t : Tok) (l : Addr) (c : Value) (dct : Option Addr) (xs : Array Value) (n : Nat) (sl : Array (Option Value)) :
    Meets (Builtin.«int.__rand__» ⟨[.int a t, .ref l], []⟩) (fun _ R s => s.heap.get? l = some { cls := c, dict := dct, data := .seq xs n, slots := sl } ∧ R (.ok (.ret Value.notImplemented)) s) :=
  .of_wp fun prog w A R s h => by obtain ⟨hp, g, d, tk, os⟩ := s; obtain ⟨hl, h⟩ := h; wp_walk; exact ⟨_, rfl, h⟩
theorem rand_dict (a : Int) (t : Tok) (l : Addr) (c : Value) (dct : Option Addr) (es : Array DictEntry) (n : Nat) (sl : Array (Option Value)) :
    Meets (Builtin.«int.__rand__» ⟨[.int a t, .ref l], []⟩) (fun _ R s => s.heap.get? l = some { cls := c, dict := dct, data := .dict es n, slots := sl } ∧ R (.ok (.ret Value.notImplemented)) s) :=
  .of_wp fun prog w A R s h => by obtain ⟨hp, g, d, tk, os⟩ := s; obtain ⟨hl, h⟩ := h; wp_walk; exact ⟨_, rfl, h⟩
section
variable {prog : Program} {w : World} {A : Around} {E : Value → Shared → Prop} {s : Shared} {Q : Value → Shared → Prop}
theorem shown_len {T : String} (h : T = "str" ∨ T = "NoneType" ∨ T = "bytes" ∨ T = "list" ∨ T = "tuple" ∨ T = "dict" ∨ T = "int") : (shownName T).length ≤ 100 := by
  rcases h with rfl | rfl | rfl | rfl | rfl | rfl | rfl <;> decide +kernel
theorem and_raises_of {v : Value} {T : String} {k : Int} {t : Tok} (hh : A.handled = none) (hT : s.TypeIs v T) (hn : T = "str" ∨ T = "NoneType" ∨ T = "bytes" ∨ T = "list" ∨ T = "tuple" ∨ T = "dict") (hf : fillsNumberSlot (.type T) "and" = pure false)
    (hc : ∀ Q', Q' .notImplemented s → wpAny (model prog w) A (call (.builtin "int.__rand__") [.int k t, v]) Q' E s)
    (hE : ∀ h' tk e, Heap.NewExc s.heap h' e "TypeError" → E (.ref e) { s with heap := h', toks := tk }) : wpAny (model prog w) A (binaryOp .BitAnd v (.int k t)) Q E s := by
  have hTU : (Value.type T == Value.type "int") = false := by rcases hn with rfl | rfl | rfl | rfl | rfl | rfl <;> decide
  have hTf : (Value.type T == Value.type "builtin_function_or_method") = false := by rcases hn with rfl | rfl | rfl | rfl | rfl | rfl <;> decide
  unfold binaryOp
  refine wpAny_holding ?_
  refine wpAny_bind (wpAny_binaryOp1_right_declines (nm := "and") hTU hT (typeIs_int s k t) hf F.fills_int_and F.slot_int_rand (hc _ ⟨rfl, ?_⟩))
  show wpAny _ _ (binopTypeError _ _ _) _ _ _
  unfold binopTypeError
  refine wpAny_bind (wpAny_rule (wpAny_bind (wpAny_typeNameOf' hT hTf (wpAny_bind (wpAny_typeNameOf' (typeIs_int s k t) (by decide) (wpAny_raiseTypeError hh hE ?_))))))
  show (Str.ofString _).length ≤ sizeLine
  rw [PySem.ofString_length, sizeLine_eq]
  simp only [String.length_append, toString]
  have l1 := shown_len (T := T) (by rcases hn with h | h | h | h | h | h <;> simp [h])
  have l2 := shown_len (T := "int") (by simp)
  have e1 : "unsupported operand type(s) for ".length ≤ 100 := by decide
  have e2 : (Operator.BitAnd.info.1).length ≤ 100 := by decide
  have e3 : ": '".length ≤ 100 := by decide
  have e4 : "' and '".length ≤ 100 := by decide
  have e5 : "'".length ≤ 100 := by decide
  have e6 : "".length ≤ 100 := by decide
  have e7 : "&".length ≤ 100 := by decide
  omega
theorem and_raises {v : Value} {k : Int} {t : Tok} (hh : A.handled = none) (hv : Thing s.heap v)
    (hE : ∀ h' tk e, Heap.NewExc s.heap h' e "TypeError" → E (.ref e) { s with heap := h', toks := tk }) : wpAny (model prog w) A (binaryOp .BitAnd v (.int k t)) Q E s := by
  cases hv with
  | str x u => exact and_raises_of (T := "str") hh rfl (by simp) nf_str (fun Q' q => call_gives F.slot_int_rand (typeIs_int s k t) F.entry_int_rand (F.args_int_rand_2 _ _) (AutoIntG7.int___rand___int_str_0 k t x u) q) hE
  | none => exact and_raises_of (T := "NoneType") hh rfl (by simp) nf_none (fun Q' q => call_gives F.slot_int_rand (typeIs_int s k t) F.entry_int_rand (F.args_int_rand_2 _ _) (AutoIntG6.int___rand___int_none_0 k t) q) hE
  | bytes b u => exact and_raises_of (T := "bytes") hh rfl (by simp) nf_bytes (fun Q' q => call_gives F.slot_int_rand (typeIs_int s k t) F.entry_int_rand (F.args_int_rand_2 _ _) (rand_bytes k t b u) q) hE
  | seq a o xs n ho hc hd =>
    obtain ⟨c, dct, dt, sl⟩ := o
    replace hd : dt = .seq xs n := hd
    subst hd
    rcases hc with hc | hc
    · exact and_raises_of (T := "list") hh ⟨_, ho, hc⟩ (by simp) nf_list (fun Q' q => call_meets F.slot_int_rand (typeIs_int s k t) F.entry_int_rand (F.args_int_rand_2 _ _) (rand_seq k t a c dct xs n sl) ⟨ho, q⟩) hE
    · exact and_raises_of (T := "tuple") hh ⟨_, ho, hc⟩ (by simp) nf_tuple (fun Q' q => call_meets F.slot_int_rand (typeIs_int s k t) F.entry_int_rand (F.args_int_rand_2 _ _) (rand_seq k t a c dct xs n sl) ⟨ho, q⟩) hE
  | dict a o es n ho hc hd =>
    obtain ⟨c, dct, dt, sl⟩ := o
    replace hd : dt = .dict es n := hd
    subst hd
    exact and_raises_of (T := "dict") hh ⟨_, ho, hc⟩ (by simp) nf_dict (fun Q' q => call_meets F.slot_int_rand (typeIs_int s k t) F.entry_int_rand (F.args_int_rand_2 _ _) (rand_dict k t a c dct es n sl) ⟨ho, q⟩) hE
end
/-- a call of a def of the text, its ground the whole heap: its answer, and what it raises -/
theorem call_both {prog : Program} {w : World} {A A₀ : Around} {E : Value → Shared → Prop} {s : Shared} {K : Frag} {L : Addr} {h₀ base : Heap} {m mg mb : Str → Option Value} {p : Program} {loose : List Str} {mean : ExcName → Option Value} {Q : Value → Shared → Prop}
    {env : Env} {outer : List Env} {name qual : Str} {params : Arguments} {body : List Stmt} {scope : Scope} {dV kV doc pm cdv ct oc : Value} {an od : Option Addr} {osl : Array (Option Value)} {f : Addr} {vals : List Value} {binds : List (Str × Value)}
    (B : Below A₀ base outer h₀) (F : Fr h₀ L s.heap m) (X₀ : K.In h₀) (T : Top p loose mean mg mb h₀) (hA : A.frames = some (env :: outer)) (hf : env.frame = some L) (hke : env.scope.kind = .function)
    (ho : K.lookup f = some ⟨oc, od, .func (fnOf name qual params body scope dV kV doc pm an cdv ct), osl⟩) (hcd : codeIn K cdv qual = true) (hroom : A.depth < recursionLimit)
    (hbind : BindsTo s (fnOf name qual params body scope dV kV doc pm an cdv ct) ⟨vals, []⟩ binds) (hloc : ∀ y ∈ binds, scope.names.lookup y.1 = some .local)
    (h : ∀ L' h₁ tk, Fr s.heap L' h₁ (fun y => binds.reverse.lookup y) → News s.heap L' h₁ [] → Below A base (env :: outer) s.heap → K.In s.heap → Top p loose mean mg mb s.heap →
      wpAny (model prog w) (A.deeper (envOf qual scope L' f cdv)) (execs body (envOf qual scope L' f cdv))
        (fun fl s' => Q (match fl with | .ret v => v | _ => .none) s')
        (fun e s' => wpAny (model prog w) (A.deeper (envOf qual scope L' f cdv)) (leaving (envOf qual scope L' f cdv) e) (fun _ s'' => E e s'') (fun e' s'' => E e' s'') s') { s with heap := h₁, toks := tk })
    (hco : scope.isCoroutine = false) (hgen : scope.isGenerator = false) (hk : scope.kind = .function)
    (hcell : ∀ x ∈ scope.names, x.2 ≠ .cell) : wpAny (model prog w) A (call (.ref f) vals) Q E s := by
  refine wpAny_call ?_
  obtain ⟨FG, BG, st, lv⟩ := groundX (R := fun _ _ => True) B F (News.nil (h₀ := h₀) (L := L)) hA hf hke
  have st' : h₀.StaysIn s.heap := st
  refine codeAny_call_def (fd := fnOf name qual params body scope dV kV doc pm an cdv ct) (body := body) (binds := binds) hroom ((X₀.keeps F.keep) _ _ ho) rfl (T.nolimit.keeps F.keep) (codeRec_of (X₀.keeps F.keep) hcd) rfl hbind hcell hloc (fun h₁ hns hk₁ => ?_) hco hgen hk
  exact wpAny_mono (h s.heap.objs.size h₁ _ ⟨hns, hk₁, Nat.le_refl _⟩ News.nil BG (X₀.keeps F.keep) (T.keeps st')) (fun fl s' hl => hl) fun _ _ x => x
/-- what a door does with a thing: it raises, from the caller's heap -/
def Flies (base G : Heap) (l : List Env) (E : Value → Shared → Prop) (s : Shared) : Prop :=
  ∀ h' tk e, RaisedSN base G l e (.type "TypeError") [] h' → G.UpToSlots h' → E (.ref e) { s with heap := h', toks := tk }
end Mine
namespace Mine
open PyProof.Rows.LCg
section
variable {prog : Program} {w : World} {A : Around} {E : Value → Shared → Prop} {s : Shared} {env : Env} {h₀ : Heap} {L : Addr} {m : Str → Option Value} {news : List (Addr × Obj)} {elt : Expr} {x : Str} {px : Pos} {scope : Scope} {cl : List (Str × Addr)} {RR : Value → Addr → Result → Shared → Prop}
/-- over a list: the elements are plain values -/
theorem list_vals {l : Addr} {xs : List Value} (hh : A.handled = none) (F : Fr h₀ L s.heap m) (N : News h₀ L s.heap news) (hl : s.heap.IsList l xs.toArray) (hn : xs.length ≤ sizeLine)
    (G : Nat → Value → Prop)
    (hel : ∀ i v C oC m₃ h tk E', xs[i]? = some v → Fr h₀ L h m → News h₀ L h ((C, oC) :: news) → (∀ p ∈ news, p.1 < C) → NsObj oC m₃ → m₃ x = some v →
      wpAny (model prog w) A (eval elt (compEnvC scope cl C env)) (fun v s₄ => Hold (G i v ∧ Keeps { s with heap := h, toks := tk } s₄)) E' { s with heap := h, toks := tk })
    (hfin : FinOk RR h₀ L m news s xs.length G) :
    wpAny (model prog w) A (pyIter (.ref l)) (fun it s₂ => ∃ I fp wr n P St G, it = .ref I ∧ OneSrc prog w A env elt x px scope cl RR s₂ I fp wr n P St G) E s := by
  have hlt : l < s.heap.objs.size := by obtain ⟨o, ho, _⟩ := hl; exact Heap.lt_size ho
  refine wpAny_pyIter_list hl ?_
  refine one_core (I := s.heap.objs.size) F N rfl (Walks.list hh s.heap.objs.size l (Nat.ne_of_lt hlt) xs.toArray) ?_ (by rw [List.size_toArray]; exact hn) ?_ ?_ (fun i v _ _ => G i v) (fun _ _ _ _ _ h _ => h) ?_ (by rw [List.size_toArray]; exact FinOk1.of hfin)
  · exact ⟨⟨_, Heap.get?_push_size _ rfl, rfl, rfl⟩, hl.at fun o e => Heap.get?_push_of_some _ e⟩
  · intro c hc
    rw [Heap.size_push]
    have hc' : c = s.heap.objs.size ∨ c = l := by simpa using hc
    rcases hc' with rfl | rfl
    · exact Nat.lt_succ_self _
    · exact Nat.lt_succ_of_lt hlt
  · exact fun i h st => let ⟨o, ho, _⟩ := st.1; ⟨o, ho⟩
  · intro i v C oC m₃ h tk E' off hi hv F' N' l hNs ma hoff
    exact hel i v C oC m₃ h tk E' (by simpa using hv) F' N' l hNs ma
/-- over a tuple: the elements are plain values -/
theorem tuple_vals {l : Addr} {xs : List Value} (hh : A.handled = none) (F : Fr h₀ L s.heap m) (N : News h₀ L s.heap news) (hl : s.heap.IsTuple l xs.toArray) (hn : xs.length ≤ sizeLine)
    (G : Nat → Value → Prop)
    (hel : ∀ i v C oC m₃ h tk E', xs[i]? = some v → Fr h₀ L h m → News h₀ L h ((C, oC) :: news) → (∀ p ∈ news, p.1 < C) → NsObj oC m₃ → m₃ x = some v →
      wpAny (model prog w) A (eval elt (compEnvC scope cl C env)) (fun v s₄ => Hold (G i v ∧ Keeps { s with heap := h, toks := tk } s₄)) E' { s with heap := h, toks := tk })
    (hfin : FinOk RR h₀ L m news s xs.length G) :
    wpAny (model prog w) A (pyIter (.ref l)) (fun it s₂ => ∃ I fp wr n P St G, it = .ref I ∧ OneSrc prog w A env elt x px scope cl RR s₂ I fp wr n P St G) E s := by
  have hlt : l < s.heap.objs.size := by obtain ⟨o, ho, _⟩ := hl; exact Heap.lt_size ho
  refine wpAny_pyIter_tuple hl ?_
  refine one_core (I := s.heap.objs.size) F N rfl (Walks.tuple hh s.heap.objs.size l (Nat.ne_of_lt hlt) xs.toArray) ?_ (by rw [List.size_toArray]; exact hn) ?_ ?_ (fun i v _ _ => G i v) (fun _ _ _ _ _ h _ => h) ?_ (by rw [List.size_toArray]; exact FinOk1.of hfin)
  · exact ⟨⟨_, Heap.get?_push_size _ rfl, rfl, rfl⟩, hl.at fun o e => Heap.get?_push_of_some _ e⟩
  · intro c hc
    rw [Heap.size_push]
    have hc' : c = s.heap.objs.size ∨ c = l := by simpa using hc
    rcases hc' with rfl | rfl
    · exact Nat.lt_succ_self _
    · exact Nat.lt_succ_of_lt hlt
  · exact fun i h st => let ⟨o, ho, _⟩ := st.1; ⟨o, ho⟩
  · intro i v C oC m₃ h tk E' off hi hv F' N' l hNs ma hoff
    exact hel i v C oC m₃ h tk E' (by simpa using hv) F' N' l hNs ma
/-- over a text's signs: the elements are plain values -/
theorem str_vals {y : Str} {t : Tok} (hh : A.handled = none) (F : Fr h₀ L s.heap m) (N : News h₀ L s.heap news) (hn : y.cps.size ≤ sizeLine)
    (G : Nat → Value → Prop)
    (hel : ∀ i c u C oC m₃ h tk E', y.cps[i]? = some c → Fr h₀ L h m → News h₀ L h ((C, oC) :: news) → (∀ p ∈ news, p.1 < C) → NsObj oC m₃ → m₃ x = some (.str ⟨#[c]⟩ u) →
      wpAny (model prog w) A (eval elt (compEnvC scope cl C env)) (fun v s₄ => Hold (G i v ∧ Keeps { s with heap := h, toks := tk } s₄)) E' { s with heap := h, toks := tk })
    (hfin : FinOk RR h₀ L m news s y.cps.size G) :
    wpAny (model prog w) A (pyIter (.str y t)) (fun it s₂ => ∃ I fp wr n P St G, it = .ref I ∧ OneSrc prog w A env elt x px scope cl RR s₂ I fp wr n P St G) E s := by
  have fin : ∀ (o : Obj) (St : Nat → Heap → Prop) (W : Walks prog w A s.heap.objs.size [s.heap.objs.size] [s.heap.objs.size] y.cps.size (SignAt y) St) (st : St 0 (s.heap.push o)) (live : ∀ i h, St i h → ∃ o, h.get? s.heap.objs.size = some o),
      ∃ I fp wr n P St G, Value.ref s.heap.objs.size = .ref I ∧ OneSrc prog w A env elt x px scope cl RR { s with heap := s.heap.push o } I fp wr n P St G := by
    intro o St W st live
    refine one_core (I := s.heap.objs.size) F N rfl W st hn ?_ live (fun i v _ _ => G i v) (fun _ _ _ _ _ h _ => h) ?_ (FinOk1.of hfin)
    · intro c hc
      rw [List.mem_singleton.mp hc, Heap.size_push]; exact Nat.lt_succ_self _
    · rintro i v C oC m₃ h tk E' off hi ⟨c, u, hc, rfl⟩ F' N' l hNs ma hoff
      exact hel i c u C oC m₃ h tk E' hc F' N' l hNs ma
  cases ha : y.cps.all (· < 128)
  · exact wpAny_pyIter_wide ha (fin _ _ (Walks.strWide hh _ y t) ⟨_, Heap.get?_push_size _ rfl, rfl, rfl⟩ fun i h st => let ⟨o, ho, _⟩ := st; ⟨o, ho⟩)
  · exact wpAny_pyIter_ascii ha (fin _ _ (Walks.strAscii hh _ y t) ⟨_, Heap.get?_push_size _ rfl, rfl, rfl⟩ fun i h st => let ⟨o, ho, _⟩ := st; ⟨o, ho⟩)
end
open PySem.SeqAt
section
variable {prog : Program} {w : World} {A : Around} {E : Value → Shared → Prop} {s : Shared} {l b : Addr} {xs ys : List Value} {Q : Value → Shared → Prop}
theorem ne_bools {bs : List Bool} (hl : s.heap.IsList l xs.toArray) (hb : s.heap.IsList b ys.toArray) (hx : xs = bs.map Value.bool) (hy : ys = bs.map Value.bool) (hu : A.units < cLine)
    (h : Q (.bool false) s) : wpAny (model prog w) A (compareOp .NotEq (.ref l) (.ref b)) Q E s := by
  subst hx hy
  refine ne_lists_same hl hb rfl hu (fun j x y e1 e2 => ?_) h
  rw [e1] at e2
  cases e2
  obtain ⟨c, _, rfl⟩ : ∃ c, bs[j]? = some c ∧ Value.bool c = x := by simpa [Option.map_eq_some_iff] using e1
  have := EqAt.bool_bool (A := A.in1) (s := s) c c
  simpa using this
theorem notin_bools {bs : List Bool} {a : Bool} (hl : s.heap.IsList l xs.toArray) (hx : xs = bs.map Value.bool) (h : Q (.bool (!(bs.any (· == a)))) s) : wpAny (model prog w) A (compareOp .NotIn (.bool a) (.ref l)) Q E s := by
  subst hx
  refine notIn_listAt (fun v => match v with | .bool b => b == a | _ => false) hl (fun y hy => ?_) ?_
  · obtain ⟨c, _, rfl⟩ : ∃ c ∈ bs, Value.bool c = y := by simpa using hy
    exact EqAt.bool_bool c a
  · have : (List.toArray (bs.map Value.bool)).any (fun v => match v with | .bool b => b == a | _ => false) = bs.any (· == a) := by
      rw [List.any_toArray, List.any_map]; rfl
    rw [this]; exact h
end
/-- behind a call that has caught: the frame's slots may differ, all else stands -/
theorem turn_keep {L : Addr} {h g h' : Heap} (T : KtsTurn [L] h g) (k : ∀ b o, g.get? b = some o → h'.get? b = some o) : ∀ b o, b ≠ L → h.get? b = some o → h'.get? b = some o :=
  fun b o hb e => k b o (T.other b o e fun hm => hb (List.mem_singleton.mp hm))
theorem fr_turned {h₀ h g h' : Heap} {L : Addr} {m : Str → Option Value} (F : Fr h₀ L h m) (T : KtsTurn [L] h g) (k : ∀ b o, g.get? b = some o → h'.get? b = some o) : Fr h₀ L h' m := by
  refine ⟨?_, fun b o e => turn_keep T k b o (fun q => ?_) (F.keep b o e), F.above⟩
  · obtain ⟨o, es, ep, ho, r⟩ := F.ns
    obtain ⟨sl, hs⟩ := T.frame L o ho (List.mem_singleton.mpr rfl)
    exact ⟨_, es, ep, k _ _ hs, r⟩
  · rw [q, kts_self F] at e; cases e
theorem news_turned {h₀ h g h' : Heap} {L : Addr} {news : List (Addr × Obj)} (N : News h₀ L h news) (T : KtsTurn [L] h g) (k : ∀ b o, g.get? b = some o → h'.get? b = some o) : News h₀ L h' news :=
  fun p hp => ⟨turn_keep T k _ _ (N p hp).2.1 (N p hp).1, (N p hp).2⟩
/-- a thing that is plain or stands in the ledger -/
inductive ThingIn (l : List (Addr × Obj)) : Value → Prop where
  | str (x : Str) (t : Tok) : ThingIn l (.str x t)
  | none : ThingIn l .none
  | bytes (b : Array UInt8) (t : Tok) : ThingIn l (.bytes b t)
  | seq (a : Addr) (o : Obj) (xs : Array Value) (n : Nat) (ho : (a, o) ∈ l) (hc : o.cls = .type "list" ∨ o.cls = .type "tuple") (hd : o.data = .seq xs n) : ThingIn l (.ref a)
  | dict (a : Addr) (o : Obj) (es : Array DictEntry) (n : Nat) (ho : (a, o) ∈ l) (hc : o.cls = .type "dict") (hd : o.data = .dict es n) : ThingIn l (.ref a)
theorem ThingIn.at {l : List (Addr × Obj)} {v : Value} {h₀ h : Heap} {L : Addr} (x : ThingIn l v) (N : News h₀ L h l) : Thing h v := by
  cases x with
  | str x t => exact .str x t
  | none => exact .none
  | bytes b t => exact .bytes b t
  | seq a o xs n ho hc hd => exact .seq a o xs n (N _ ho).1 hc hd
  | dict a o es n ho hc hd => exact .dict a o es n (N _ ho).1 hc hd
theorem ThingIn.sub {l l' : List (Addr × Obj)} {v : Value} (x : ThingIn l v) (h : ∀ p ∈ l, p ∈ l') : ThingIn l' v := by
  cases x with
  | str x t => exact .str x t
  | none => exact .none
  | bytes b t => exact .bytes b t
  | seq a o xs n ho hc hd => exact .seq a o xs n (h _ ho) hc hd
  | dict a o es n ho hc hd => exact .dict a o es n (h _ ho) hc hd
end Mine
namespace Mine
open PyProof.Rows.LCg
section
variable {prog : Program} {w : World} {A : Around} {E : Value → Shared → Prop} {s : Shared} {env : Env}
/-- a source of single things none of which passes the test -/
structure NoneSrc (prog : Program) (w : World) (A : Around) (env : Env) (ct : Expr) (a : Str) (pa : Pos) (scope : Scope) (cl : List (Str × Addr)) (RR : Value → Addr → Result → Shared → Prop) (s₂ : Shared)
    (I : Addr) (fp wr : List Addr) (n : Nat) (P : Nat → Value → Prop) (St : Nat → Heap → Prop) : Prop where
  W : Walks prog w A I fp wr n P St
  st : St 0 s₂.heap
  low : ∀ c ∈ fp, c < s₂.heap.objs.size
  test : ∀ C i x h₃ tk₃ m₃ E', i < n → s₂.heap.objs.size < C → P i x → h₃.Ns C m₃ → m₃ a = some x → (∀ c o, c ∉ wr → s₂.heap.get? c = some o → h₃.get? c = some o) →
    wpAny (model prog w) A (isTrue ct (compEnvC scope cl C env) (eval ct (compEnvC scope cl C env))) (fun ok s₄ => ok = false ∧ Keeps { s₂ with heap := h₃, toks := tk₃ } s₄) E' { s₂ with heap := h₃, toks := tk₃ }
  fin : ∀ D C h' tk m', s₂.heap.objs.size ≤ D → s₂.heap.objs.size ≤ C → C ≠ D → h'.Ns C m' → h'.get? D = some (lst []) → (∀ c o, c ∉ wr → s₂.heap.get? c = some o → h'.get? c = some o) →
    RR (.ref D) C (.ok .next) { s₂ with heap := h', toks := tk }
theorem none_block {elt ct iter : Expr} {a : Str} {pa : Pos} {scope : Scope} {cl : List (Str × Addr)} {pos : Pos} {RR : Value → Addr → Result → Shared → Prop} {s₂ : Shared} {I : Addr} {fp wr : List Addr} {n : Nat} {P : Nat → Value → Prop} {St : Nat → Heap → Prop}
    (hcell : ∀ y ∈ scope.names, y.2 ≠ .cell) (hkind : scope.kind = .function) (hxa : scope.names.lookup a = some .local)
    (S : NoneSrc prog w A env ct a pa scope cl RR s₂ I fp wr n P St) :
    wpAny (model prog w) A (newList []) (fun acc s₃ => wpAny (model prog w) A (newFunctionEnv scope env.globals cl [] env.qual none .none (some env)) (fun cenv s₄ =>
      codeAny (model prog w) A (.compStart (.ListComp elt [⟨.Name a pa, iter, [ct], 0⟩] scope pos) 0 (.ref I) acc { cenv with scope := relabel scope env }) (RR acc cenv.locals) s₄) E s₃) E s₂ := by
  refine wpAny_newObj_type (wpAny_newFunctionEnv hcell (by intro y hy; simp at hy) (fun h₁ hns₁ hsb₁ => ?_) hkind)
  dsimp only at hns₁ hsb₁ ⊢
  generalize hH2 : s₂.heap.push { cls := .type "list", dict := none, data := .seq ([] : List Value).toArray } = H2 at hns₁ hsb₁ ⊢
  have hC : H2.objs.size = s₂.heap.objs.size + 1 := by rw [← hH2, Heap.size_push]
  have hCD : H2.objs.size ≠ s₂.heap.objs.size := by rw [hC]; exact Nat.succ_ne_self _
  have low : ∀ c, c < s₂.heap.objs.size → c ≠ H2.objs.size ∧ c ≠ s₂.heap.objs.size := fun c hc => ⟨by rw [hC]; exact Nat.ne_of_lt (Nat.lt_succ_of_lt hc), Nat.ne_of_lt hc⟩
  have fpC : ∀ c ∈ fp, c ≠ H2.objs.size := fun c hc => (low c (S.low c hc)).1
  have fpD : ∀ c ∈ fp, c ≠ s₂.heap.objs.size := fun c hc => (low c (S.low c hc)).2
  have old : ∀ c o, s₂.heap.get? c = some o → h₁.get? c = some o := fun c o e => hsb₁.extBut c o (low c (Heap.lt_size e)).1 (Heap.get?_push_of_some _ (hH2 ▸ Heap.get?_push_of_some _ e))
  have acc₁ : h₁.get? s₂.heap.objs.size = some (lst []) := hsb₁.extBut _ _ (Ne.symm hCD) (Heap.get?_push_of_some _ (hH2 ▸ Heap.get?_push_size _ rfl))
  have st₁ : St 0 h₁ := S.W.frame _ _ _ S.st fun c _ o e => old c o e
  have loop : ∀ s₃ : Shared, s₃ = { s₂ with heap := h₁, toks := s₂.toks + ([] : List (Str × Value)).length } →
      codeAny (model prog w) A (.compLoop (.ListComp elt [⟨.Name a pa, iter, [ct], 0⟩] scope pos) 0 (.ref I) (.ref s₂.heap.objs.size) (compEnvC scope cl H2.objs.size env))
        (RR (.ref s₂.heap.objs.size) H2.objs.size) s₃ := by
    rintro s₃ rfl
    refine codeAny_compLoop_tests
      (fun k s' => ∃ h' tk i m', s' = { s₂ with heap := h', toks := tk } ∧ i ≤ n ∧ k = n + 1 - i ∧ St i h' ∧ h'.Ns H2.objs.size m' ∧ h'.get? s₂.heap.objs.size = some (lst []) ∧
        ∀ c o, c ∉ wr → s₂.heap.get? c = some o → h'.get? c = some o) ?_ (n + 1)
      ⟨h₁, _, 0, _, rfl, Nat.zero_le _, rfl, st₁, hns₁, acc₁, fun c o _ e => old c o e⟩
    rintro k s' ⟨h', tk, i, m', rfl, hi, rfl, st', ns', acc', keep⟩
    have Cw : H2.objs.size ∉ wr := fun hm => fpC _ (S.W.sub _ hm) rfl
    have Dw : s₂.heap.objs.size ∉ wr := fun hm => fpD _ (S.W.sub _ hm) rfl
    by_cases hlt : i < n
    · refine S.W.item i _ _ _ hlt st' fun v h₃ tk₃ hP st₃ hk₃ => ?_
      refine wpAny_assign_Name (wpAny_storeName_local (lookup_relabel_local hxa) (ns'.at' fun o e => hk₃ _ o Cw e) (fun h₄ ns₄ hsb₄ => ?_) (by simp [compEnvC, relabel, hkind]))
      have hs₄ : ∀ c o, c ≠ H2.objs.size → h₃.get? c = some o → h₄.get? c = some o := fun c o hc e => hsb₄.extBut c o hc e
      have acc₄ : h₄.get? s₂.heap.objs.size = some (lst []) := hs₄ _ _ (Ne.symm hCD) (hk₃ _ _ Dw acc')
      refine wpAny_tests_one (wpAny_mono (S.test H2.objs.size i v h₄ _ _ _ hlt (by rw [hC]; exact Nat.lt_succ_self _) hP ns₄ (by simp) (fun c o hc e => hs₄ c o ((low c (Heap.lt_size e)).1) (hk₃ c o hc (keep c o hc e)))) (fun ok s₅ h₅ => ?_) fun _ _ e => e)
      obtain ⟨rfl, h₅, tk₅, rfl, hk₅⟩ := h₅
      rw [if_neg Bool.false_ne_true]
      exact ⟨n + 1 - (i + 1), by omega, h₅, tk₅, i + 1, _, rfl, hlt, rfl, S.W.frame _ _ _ st₃ fun c hc o e => hk₅ c o (hs₄ c o (fpC c hc) e), ns₄.at' fun o e => hk₅ _ o e, hk₅ _ _ acc₄,
        fun c o hc e => hk₅ c o (hs₄ c o (low c (Heap.lt_size e)).1 (hk₃ c o hc (keep c o hc e)))⟩
    · obtain rfl : i = n := Nat.le_antisymm hi (Nat.not_lt.mp hlt)
      refine S.W.done _ _ _ st' fun h₂ tk₂ hk₂ => ?_
      exact S.fin _ _ h₂ tk₂ _ (Nat.le_refl _) (by rw [hC]; exact Nat.le_succ _) hCD (ns'.at' fun o e => hk₂ _ o Cw e) (hk₂ _ _ Dw acc') fun c o hc e => hk₂ c o hc (keep c o hc e)
  exact codeAny_compStart_list (loop _ rfl) (S.W.self 0 _ _ _ st₁ (loop _ rfl))
theorem comp_none {elt ct iter : Expr} {a : Str} {pa : Pos} {scope : Scope} {cl : List (Str × Addr)} {pos : Pos} {Q : Value → Shared → Prop}
    (hclos : closureFor scope env = pure cl) (hcell : ∀ y ∈ scope.names, y.2 ≠ .cell) (hkind : scope.kind = .function)
    (hnames : ∀ y ∈ scope.names, y.2 = .local → scope.names.lookup y.1 = some .local) (hxa : scope.names.lookup a = some .local)
    (h : wpAny (model prog w) A (eval iter env) (fun xv s₁ => wpAny (model prog w) A (pyIter xv) (fun it s₂ => ∃ I fp wr n P St, it = .ref I ∧ NoneSrc prog w A env ct a pa scope cl (compPost (model prog w) A E none Q) s₂ I fp wr n P St) E s₁) E s)
    (hs : ∀ x, foldedSetIterable iter env x = pure x := by intro _; rfl) :
    wpAny (model prog w) A (eval (.ListComp elt [⟨.Name a pa, iter, [ct], 0⟩] scope pos) env) Q E s := by
  rw [eval_ListComp]
  refine wpAny_comprehension_free (use := none) rfl hs hclos hkind hnames (wpAny_mono h (fun xv s₁ h₁ => wpAny_mono h₁ (fun it s₂ h₂ => ?_) fun _ _ e => e) fun _ _ e => e)
  obtain ⟨I, fp, wr, n, P, St, rfl, S⟩ := h₂
  exact none_block hcell hkind hxa S
end
section
variable {prog : Program} {w : World} {A : Around} {E : Value → Shared → Prop} {s : Shared} {env : Env} {h₀ : Heap} {L : Addr} {m : Str → Option Value} {news : List (Addr × Obj)} {ct : Expr} {x : Str} {px : Pos} {scope : Scope} {cl : List (Str × Addr)} {RR : Value → Addr → Result → Shared → Prop}
theorem none_list {l : Addr} {xs : List Value} (hh : A.handled = none) (F : Fr h₀ L s.heap m) (N : News h₀ L s.heap news) (hl : s.heap.IsList l xs.toArray)
    (hel : ∀ (i : Nat) v C oC m₃ h tk E', xs[i]? = some v → Fr h₀ L h m → News h₀ L h ((C, oC) :: news) → (∀ p ∈ news, p.1 < C) → NsObj oC m₃ → m₃ x = some v →
      wpAny (model prog w) A (isTrue ct (compEnvC scope cl C env) (eval ct (compEnvC scope cl C env))) (fun ok s₄ => Hold (ok = false ∧ Keeps { s with heap := h, toks := tk } s₄)) E' { s with heap := h, toks := tk })
    (hfin : FinOk RR h₀ L m news s 0 (fun _ _ => True)) :
    wpAny (model prog w) A (pyIter (.ref l)) (fun it s₂ => ∃ I fp wr n P St, it = .ref I ∧ NoneSrc prog w A env ct x px scope cl RR s₂ I fp wr n P St) E s := by
  have hlt : l < s.heap.objs.size := by obtain ⟨o, ho, _⟩ := hl; exact Heap.lt_size ho
  refine wpAny_pyIter_list hl ?_
  have oldN : ∀ c o, s.heap.get? c = some o → c ∉ [s.heap.objs.size] := fun c o e hc => absurd (Heap.lt_size e) (by rw [List.mem_singleton.mp hc]; exact Nat.lt_irrefl _)
  have hsz : ∀ oI, (s.heap.push oI).objs.size = s.heap.objs.size + 1 := fun _ => Heap.size_push ..
  refine ⟨_, _, [s.heap.objs.size], _, _, _, rfl, ⟨Walks.list hh s.heap.objs.size l (Nat.ne_of_lt hlt) xs.toArray, ?_, ?_, ?_, ?_⟩⟩
  · exact ⟨⟨_, Heap.get?_push_size _ rfl, rfl, rfl⟩, hl.at fun o e => Heap.get?_push_of_some _ e⟩
  · intro c hc
    show c < (s.heap.push _).objs.size
    rw [Heap.size_push]
    have hc' : c = s.heap.objs.size ∨ c = l := by simpa using hc
    rcases hc' with rfl | rfl
    · exact Nat.lt_succ_self _
    · exact Nat.lt_succ_of_lt hlt
  · intro C i v h₃ tk₃ m₃ E' hi hC hP ns ma keep
    have up : ∀ c o, s.heap.get? c = some o → h₃.get? c = some o := fun c o e => keep c o (oldN c o e) (Heap.get?_push_of_some _ e)
    obtain ⟨oC, hoC, hNs⟩ := ns_obj ns
    have hC' : s.heap.objs.size ≤ C := by
      have h1 : (s.heap.push _).objs.size < C := hC
      rw [hsz] at h1
      exact Nat.le_of_lt (Nat.lt_of_succ_lt h1)
    refine hel i v C oC m₃ h₃ tk₃ E' (by simpa using hP) (F.keeps up) (fun p hp => ?_) (fun p hp => Nat.lt_of_lt_of_le (Heap.lt_size (N p hp).1) hC') hNs ma
    rcases List.mem_cons.mp hp with rfl | hp
    · exact ⟨hoC, fun e => absurd F.ns.lt (Nat.not_lt.mpr (e ▸ hC')), base_new F hC'⟩
    · exact N.grown up p hp
  · intro D C h₃ tk₃ m₃ hD hC hCD ns hg keep
    have up : ∀ c o, s.heap.get? c = some o → h₃.get? c = some o := fun c o e => keep c o (oldN c o e) (Heap.get?_push_of_some _ e)
    have hD' : s.heap.objs.size ≤ D := by
      have h1 : (s.heap.push _).objs.size ≤ D := hD
      rw [hsz] at h1
      exact Nat.le_of_lt h1
    have hC' : s.heap.objs.size ≤ C := by
      have h1 : (s.heap.push _).objs.size ≤ C := hC
      rw [hsz] at h1
      exact Nat.le_of_lt h1
    refine hfin D C h₃ tk₃ m₃ [] (F.keeps up) (fun p hp => ?_) (fun p hp => Nat.lt_of_lt_of_le (Heap.lt_size (N p hp).1) hD') (fun p hp => ?_) (fun e => absurd F.ns.lt (Nat.not_lt.mpr (e ▸ hC'))) (base_new F hC') ns rfl (fun _ _ _ => trivial)
    · rcases List.mem_cons.mp hp with rfl | hp
      · exact ⟨hg, fun e => absurd F.ns.lt (Nat.not_lt.mpr (e ▸ hD')), base_new F hD'⟩
      · exact N.grown up p hp
    · rcases List.mem_cons.mp hp with rfl | hp
      · exact Ne.symm hCD
      · exact Nat.ne_of_lt (Nat.lt_of_lt_of_le (Heap.lt_size (N p hp).1) hC')
end
end Mine
namespace Mine
section
variable {prog : Program} {w : World} {A : Around} {E : Value → Shared → Prop} {s : Shared} {env : Env} {h₀ : Heap} {L : Addr} {m : Str → Option Value} {news : List (Addr × Obj)} {Q : Value → Shared → Prop}
/-- a dict display of one pair, its key a written int, its value an int that the ledger knows -/
theorem dict_one {k x : Int} {kk : Nat} {kp pos : Pos} {ve : Expr} {tx : Tok} (F : Fr h₀ L s.heap m) (N : News h₀ L s.heap news) (hbig : sysModules < h₀.objs.size)
    (hv : ∀ (s₁ : Shared) (Q' : Value → Shared → Prop), News h₀ L s₁.heap news → Q' (.int x tx) s₁ → wpAny (model prog w) A (eval ve env) Q' E s₁)
    (h : ∀ D o h' tk, Fr h₀ L h' m → News h₀ L h' ((D, o) :: news) → (∀ p ∈ news, p.1 < D) → o.IsDictOf (intKind prog w) [(k, .int x tx)] → Q (.ref D) { s with heap := h', toks := tk }) :
    wpAny (model prog w) A (eval (.Dict [some (.Constant (.int k) kk kp)] [ve] pos) env) Q E s := by
  refine Dict_made_int rfl F rfl rfl (List.cons_ne_nil _ _) (show 1 ≤ 15 by decide) fun _ => ?_
  refine pairTrees_cons_walk ?_
  refine wpAny_Constant_int ?_
  refine hv _ _ (N.grown fun b o e => Heap.get?_push_of_some _ e) ?_
  refine pairTrees_nil_walk ?_
  exact madeTab_int (vs := [(.int k _, .int x tx)]) F N hbig rfl (by simp [intKeyPairs]) rfl fun h' o F' N' _ hd _ => h _ o h' _ F' N' (fun p hp => Heap.lt_size (N p hp).1) hd
theorem thing_dict {D : Addr} {o : Obj} {kvs : List (Int × Value)} {l : List (Addr × Obj)} (hd : o.IsDictOf (intKind prog w) kvs) (hm : (D, o) ∈ l) : ThingIn l (.ref D) := by
  obtain ⟨es, ep, hx, hdd, _⟩ := hd
  exact .dict D o es ep hm hx.1 hdd
end
end Mine
namespace Mine
/-- my_loop, where the iterator may look at things that stand in the ledger at every turn -/
theorem my_loopJ {prog : Program} {w : World} {A : Around} {E : Value → Shared → Prop} {s : Shared} {env : Env} {h₀ : Heap} {target : Expr} {body orelse : List Stmt} {Q : Flow → Shared → Prop}
    {I : Addr} {fp wr : List Addr} {ws : List Addr} {n : Nat} {P Md : Nat → Value → Heap → Prop} {St : Nat → Heap → Prop} {m : Str → Option Value} {news : List (Addr × Obj)}
    (W : KTurns prog w A target I fp wr n P Md St)
    (J : Nat → (Str → Option Value) → List (Addr × Obj) → Prop) (h0 : J 0 m news)
    (hfp : ∀ b ∈ fp, b ∈ ws ∨ ∃ o, ∀ i m news, J i m news → (b, o) ∈ news) (hwr : ∀ b ∈ wr, b ∈ ws) (hws : ∀ b ∈ ws, h₀.get? b = none ∧ b ≠ env.locals)
    (hob : ∀ i h, St i h → ∀ b ∈ ws, ∃ o, h.get? b = some o)
    (hnw : ∀ p ∈ news, p.1 ∉ ws) (hst : St 0 s.heap) (F : Fr h₀ env.locals s.heap m) (N : News h₀ env.locals s.heap news)
    (step : ∀ i v m₁ news₁ h₁ tk₁ its, i < n → P i v h₁ → J i m₁ news₁ → (∀ p ∈ news₁, p.1 ∉ ws) → its.map (·.1) = ws → Fr h₀ env.locals h₁ m₁ → News h₀ env.locals h₁ (its ++ news₁) →
      wpAny (model prog w) A (assign target env v) (fun _ s₂ => wpAny (model prog w) A (execs body env)
        (StepPost h₀ env.locals ws its s (J (i + 1)) Q) E s₂) E { s with heap := h₁, toks := tk₁ })
    (done : ∀ h' tk m' news', Fr h₀ env.locals h' m' → News h₀ env.locals h' news' → (∀ p ∈ news', p.1 ∉ ws) → J n m' news' → wpAny (model prog w) A (execs orelse env) Q E { s with heap := h', toks := tk })
    (hE : PassesOwn (model prog w) A env E) :
    codeAny (model prog w) A (.forLoop target (.ref I) body orelse env) (fun r s' => match r with | .ok f => Q f s' | .error e => cameBackBy (model prog w) A env E e s') s := by
  have hLw : env.locals ∉ wr := fun h => (hws _ (hwr _ h)).2 rfl
  have old : ∀ b o, h₀.get? b = some o → b ∉ wr := fun b o e hb => by rw [(hws b (hwr b hb)).1] at e; cases e
  have nw : ∀ b, b ∉ ws → b ∉ wr := fun b hb h => hb (hwr b h)
  refine codeAny_forLoop_any
    (fun k s' => ∃ h' tk m' news' i, s' = { s with heap := h', toks := tk } ∧ St i h' ∧ Fr h₀ env.locals h' m' ∧ News h₀ env.locals h' news' ∧ (∀ p ∈ news', p.1 ∉ ws) ∧ J i m' news' ∧ i ≤ n ∧ k = n + 1 - i) ?_ (n + 1)
    ⟨s.heap, s.toks, m, news, 0, rfl, hst, F, N, hnw, h0, Nat.zero_le _, rfl⟩
  rintro k s' ⟨h', tk, m', news', i, rfl, hst', F', N', hnw', hJ, hi, rfl⟩
  have next : ∀ h₁ : Heap, (∀ b o, b ∉ wr → h'.get? b = some o → h₁.get? b = some o) → Fr h₀ env.locals h₁ m' ∧ News h₀ env.locals h₁ news' := fun h₁ hk₁ =>
    ⟨⟨F'.ns.at' fun o e => hk₁ _ o hLw e, fun b o e => hk₁ b o (old b o e) (F'.keep b o e), F'.above⟩, fun p hp => ⟨hk₁ _ _ (nw _ (hnw' p hp)) (N' p hp).1, (N' p hp).2⟩⟩
  by_cases hlt : i < n
  · refine W.item i _ _ _ hlt hst' fun v h₁ tk₁ hMd hk₁ => ?_
    refine W.go i v _ _ _ hMd fun h₂ hP hst₂ hk₂ => ?_
    obtain ⟨F₂, N₂⟩ := next h₂ fun b o hb x => hk₂ b o hb (hk₁ b o hb x)
    obtain ⟨its, hits, hat⟩ := objsAt (hob _ _ hst₂)
    have Nits : News h₀ env.locals h₂ (its ++ news') := fun p hp => by
      rcases List.mem_append.mp hp with hp | hp
      · have hb : p.1 ∈ ws := hits ▸ List.mem_map.mpr ⟨p, hp, rfl⟩
        exact ⟨hat p hp, (hws _ hb).2, (hws _ hb).1⟩
      · exact N₂ p hp
    have fin : ∀ s₃, StepEnd h₀ env.locals ws its s (J (i + 1)) s₃ → ∃ k', k' < n + 1 - i ∧ ∃ h' tk m' news' i, s₃ = { s with heap := h', toks := tk } ∧ St i h' ∧ Fr h₀ env.locals h' m' ∧ News h₀ env.locals h' news' ∧ (∀ p ∈ news', p.1 ∉ ws) ∧ J i m' news' ∧ i ≤ n ∧ k' = n + 1 - i := by
      rintro s₃ ⟨h₃, tk₃, m₃, news₃, rfl, F₃, N₃, ha₃, hJ₃⟩
      refine ⟨n + 1 - (i + 1), by omega, h₃, tk₃, m₃, news₃, i + 1, rfl, ?_, F₃, fun p hp => N₃ p (List.mem_append_right _ hp), ha₃, hJ₃, hlt, rfl⟩
      refine W.frame _ _ _ hst₂ fun b hb o e => ?_
      rcases hfp b hb with hb | ⟨o₀, ho₀⟩
      · obtain ⟨p, hp, rfl⟩ := List.mem_map.mp (hits ▸ hb)
        have q := hat p hp
        rw [e] at q
        cases q
        exact (N₃ p (List.mem_append_left _ hp)).1
      · have q := (N₂ _ (ho₀ _ _ _ hJ)).1
        dsimp only at q
        rw [e] at q
        cases q
        exact (N₃ _ (List.mem_append_right _ (ho₀ _ _ _ hJ₃))).1
    refine wpAny_mono (step i v m' news' h₂ tk₁ its hlt hP hJ hnw' hits F₂ Nits) (fun _ s₂ h₂' => wpAny_mono h₂' (fun f s₃ h₃ => ?_) hE) hE
    cases f with
    | ret v => exact h₃
    | brk => exact h₃
    | cont => exact fin s₃ h₃
    | next => exact fin s₃ h₃
  · have hin : i = n := by omega
    subst hin
    refine W.done _ _ _ hst' fun h₁ tk₁ hk₁ => ?_
    obtain ⟨F₁, N₁⟩ := next h₁ hk₁
    exact wpAny_mono (done h₁ tk₁ m' news' F₁ N₁ hnw' hJ) (fun _ _ x => x) hE
section
variable {prog : Program} {w : World} {A : Around} {E : Value → Shared → Prop} {s : Shared} {env : Env} {h₀ : Heap} {target : Expr} {body orelse : List Stmt} {Q : Flow → Shared → Prop} {m : Str → Option Value} {news : List (Addr × Obj)}
/-- over a list of the ledger, that stays in it -/
theorem iter_kept {T : Addr} {oT : Obj} {items : Array Value} (hh : A.handled = none) (hT : s.heap.IsList T items) (F : Fr h₀ env.locals s.heap m) (N : News h₀ env.locals s.heap news)
    (J : Nat → (Str → Option Value) → List (Addr × Obj) → Prop) (hJT : ∀ i m news, J i m news → (T, oT) ∈ news) (h0 : J 0 m news)
    (step : ∀ i v m₁ news₁ h₁ tk₁ I o, items[i]? = some v → J i m₁ news₁ → (∀ p ∈ news₁, p.1 ≠ I) → Fr h₀ env.locals h₁ m₁ → News h₀ env.locals h₁ ((I, o) :: news₁) → (∀ p ∈ news, p.1 < I) →
      wpAny (model prog w) A (assign target env v) (fun _ s₂ => wpAny (model prog w) A (execs body env)
        (StepPost h₀ env.locals [I] [(I, o)] s (J (i + 1)) Q) E s₂) E { s with heap := h₁, toks := tk₁ })
    (done : ∀ h' tk m' news', Fr h₀ env.locals h' m' → News h₀ env.locals h' news' → J items.size m' news' → wpAny (model prog w) A (execs orelse env) Q E { s with heap := h', toks := tk })
    (hE : PassesOwn (model prog w) A env E) :
    wpAny (model prog w) A (pyIter (.ref T)) (fun it s₂ => codeAny (model prog w) A (.forLoop target it body orelse env) (LoopR prog w A env Q E) s₂) E s := by
  obtain ⟨oT', hoT, hcT, nT, hdT⟩ := id hT
  have hlt : T < s.heap.objs.size := Heap.lt_size hoT
  have hne : T ≠ s.heap.objs.size := Nat.ne_of_lt hlt
  have hLs : env.locals < s.heap.objs.size := F.ns.lt
  refine wpAny_pyIter_list hT ?_
  refine my_loopJ (s := { s with heap := s.heap.push _ }) (ws := [s.heap.objs.size]) (KTurns.ofWalks (Walks.list hh s.heap.objs.size T hne items) fun i v s Q E st q => letGo_listiter st.1 q) J h0 ?_ ?_ ?_ ?_ ?_ ?_ (F.push _) (fun p hp => ⟨Heap.get?_push_of_some _ (N p hp).1, (N p hp).2⟩) ?_ ?_ hE
  · intro b hb
    have hb' : b = s.heap.objs.size ∨ b = T := by simpa using hb
    rcases hb' with rfl | rfl
    · exact .inl (by simp)
    · exact .inr ⟨oT, hJT⟩
  · intro b hb; exact hb
  · intro b hb
    have hb' : b = s.heap.objs.size := by simpa using hb
    subst hb'
    exact ⟨base_new F (Nat.le_refl _), Nat.ne_of_gt hLs⟩
  · rintro i h ⟨⟨o, ho, _⟩, _⟩ b hb
    have hb' : b = s.heap.objs.size := by simpa using hb
    subst hb'
    exact ⟨o, ho⟩
  · intro p hp hI
    have hb' : p.1 = s.heap.objs.size := by simpa using hI
    exact absurd (Heap.lt_size (N p hp).1) (hb' ▸ Nat.lt_irrefl _)
  · exact ⟨⟨_, Heap.get?_push_size _ rfl, rfl, rfl⟩, hT.at fun o e => Heap.get?_push_of_some _ e⟩
  · intro i v m₁ news₁ h₁ tk₁ its hi hP hJ hoff hits F₁ N₁
    obtain ⟨o, rfl⟩ := one_of hits
    exact step i v m₁ news₁ h₁ tk₁ _ o hP hJ (fun p hp e => hoff p hp (by simp [e])) F₁ N₁ fun p hp => Heap.lt_size (N p hp).1
  · intro h' tk m' news' F' N' _ hJ
    exact done h' tk m' news' F' N' hJ
end
end Mine
namespace Mine
theorem bitAnd_low (x : Int) : Builtin.bitAnd x 4095 = x % 4096 := by
  by_cases hx : 0 ≤ x
  · rw [bitAnd_pp hx (by decide), show (4095 : Int).toNat = 2 ^ 12 - 1 from rfl, Nat.and_two_pow_sub_one_eq_mod]; omega
  · rw [bitAnd_np hx (by decide), show (4095 : Int).toNat = 2 ^ 12 - 1 from rfl, Nat.and_comm, Nat.and_two_pow_sub_one_eq_mod]
    unfold Builtin.bitNot; omega
def duesL : List Int := [1, 2, 4, 6, 8, 10, 12]
def kindOf4 (x : Int) : Int := (x.fdiv 4096).fmod 16
theorem kind_is (x : Int) : kindOf4 x = x / 4096 % 16 := by unfold kindOf4; rw [fdv0 (by decide), fmv0 (by decide)]
def ansB (x : Int) (i : Nat) : Bool := decide (kindOf4 x = duesL.getD i 0)
def ansL (x : Int) : List Bool := (List.range 7).map (ansB x)
theorem ans_of {x k m : Int} (h : m = 4096 * k) : decide (Builtin.bitAnd x 61440 = m) = decide (kindOf4 x = k) := by
  rw [bitAnd_type, kind_is, h]
  exact decide_eq_decide.mpr (by omega)
theorem ans0 (x : Int) : decide (Builtin.bitAnd x 61440 = 4096) = ansB x 0 := ans_of rfl
theorem ans1 (x : Int) : decide (Builtin.bitAnd x 61440 = 8192) = ansB x 1 := ans_of rfl
theorem ans2 (x : Int) : decide (Builtin.bitAnd x 61440 = 16384) = ansB x 2 := ans_of rfl
theorem ans3 (x : Int) : decide (Builtin.bitAnd x 61440 = 24576) = ansB x 3 := ans_of rfl
theorem ans4 (x : Int) : decide (Builtin.bitAnd x 61440 = 32768) = ansB x 4 := ans_of rfl
theorem ans5 (x : Int) : decide (Builtin.bitAnd x 61440 = 40960) = ansB x 5 := ans_of rfl
theorem ans6 (x : Int) : decide (Builtin.bitAnd x 61440 = 49152) = ansB x 6 := ans_of rfl
def sigs7 : Str := Str.ofString "pcdb-ls"
theorem sixteen {P : Int → Prop} (h : ∀ n : Fin 16, P ((n : Nat) : Int)) (x : Int) : P (x / 4096 % 16) := by
  have h1 : 0 ≤ x / 4096 % 16 := by omega
  have h2 : x / 4096 % 16 < 16 := by omega
  generalize x / 4096 % 16 = k at *
  have := h ⟨k.toNat, by omega⟩
  have e : ((k.toNat : Nat) : Int) = k := by omega
  simpa [e] using this
theorem ans_sign (x : Int) {i c : Nat} (hc : sigs7.cps[i]? = some c) : (fmSign x 0 == (⟨#[c]⟩ : Str)) = ansB x i := by
  have hi : i < 7 := (Array.getElem?_eq_some_iff.mp hc).1
  have hc' : sigs7.cps.getD i 0 = c := by rw [Array.getD_eq_getD_getElem?, hc]; rfl
  subst hc'
  unfold ansB
  rw [sign0, kind_is]
  refine sixteen (P := fun k => (typeSign k == (⟨#[sigs7.cps.getD i 0]⟩ : Str)) = decide (k = duesL.getD i 0)) ?_ x
  rcases (by omega : i = 0 ∨ i = 1 ∨ i = 2 ∨ i = 3 ∨ i = 4 ∨ i = 5 ∨ i = 6) with rfl | rfl | rfl | rfl | rfl | rfl | rfl <;> decide +kernel
theorem ans_none (x : Int) : (!((ansL x).any (· == true))) = (fmSign x 0 == Str.ofString "?") := by
  rw [sign0]
  have e : ansL x = (List.range 7).map fun i => decide (x / 4096 % 16 = duesL.getD i 0) := by
    unfold ansL ansB; simp only [kind_is]
  rw [e]
  exact sixteen (P := fun k => (!(((List.range 7).map fun i => decide (k = duesL.getD i 0)).any (· == true))) = (typeSign k == Str.ofString "?")) (by decide +kernel) x
theorem ifmt_is (x : Int) : Builtin.bitAnd x 61440 = 4096 * kindOf4 x := by rw [bitAnd_type, kind_is]
theorem imode_is (x : Int) : Builtin.bitAnd x 4095 = x.fmod 4096 := by rw [bitAnd_low, fmv0 (by decide)]
theorem sc_eq {x y : Int} {i : Nat} (h : fmSign x i = fmSign y i) : sc x i = sc y i := by unfold sc; rw [h]
theorem mixed (x y : Int) : fmText (Builtin.bitAnd x 61440 + Builtin.bitAnd y 4095) = fmSign x 0 ++ fmTail y := by
  rw [bitAnd_type, bitAnd_low]
  have e0 : (4096 * (x / 4096 % 16) + y % 4096) / 4096 % 16 = x / 4096 % 16 := by omega
  have g : ∀ z : Int, z = 4096 * (x / 4096 % 16) + y % 4096 → z / 4096 % 16 = x / 4096 % 16 → fmText z = fmSign x 0 ++ fmTail y := by
    intro z hz e0
    have b0 : z / 1 % 2 = y / 1 % 2 := by omega
    have b1 : z / 2 % 2 = y / 2 % 2 := by omega
    have b2 : z / 4 % 2 = y / 4 % 2 := by omega
    have b3 : z / 8 % 2 = y / 8 % 2 := by omega
    have b4 : z / 16 % 2 = y / 16 % 2 := by omega
    have b5 : z / 32 % 2 = y / 32 % 2 := by omega
    have b6 : z / 64 % 2 = y / 64 % 2 := by omega
    have b7 : z / 128 % 2 = y / 128 % 2 := by omega
    have b8 : z / 256 % 2 = y / 256 % 2 := by omega
    have b9 : z / 512 % 2 = y / 512 % 2 := by omega
    have b10 : z / 1024 % 2 = y / 1024 % 2 := by omega
    have b11 : z / 2048 % 2 = y / 2048 % 2 := by omega
    have s0 : sc z 0 = sc x 0 := sc_eq (by rw [sign0, sign0, e0])
    have s1 : sc z 1 = sc y 1 := sc_eq (by rw [sign1, sign1, b8])
    have s2 : sc z 2 = sc y 2 := sc_eq (by rw [sign2, sign2, b7])
    have s3 : sc z 3 = sc y 3 := sc_eq (by rw [sign3, sign3, b6, b11])
    have s4 : sc z 4 = sc y 4 := sc_eq (by rw [sign4, sign4, b5])
    have s5 : sc z 5 = sc y 5 := sc_eq (by rw [sign5, sign5, b4])
    have s6 : sc z 6 = sc y 6 := sc_eq (by rw [sign6, sign6, b3, b10])
    have s7 : sc z 7 = sc y 7 := sc_eq (by rw [sign7, sign7, b2])
    have s8 : sc z 8 = sc y 8 := sc_eq (by rw [sign8, sign8, b1])
    have s9 : sc z 9 = sc y 9 := sc_eq (by rw [sign9, sign9, b0, b9])
    rw [fmText_eq, fmSign_sc x 0, fmTail, s0, s1, s2, s3, s4, s5, s6, s7, s8, s9, cat9]
  exact g _ rfl e0
end Mine
namespace Mine
open_top hd for PySem.Challenge.rw_dn0160_04
end Mine
namespace Mine
def tabRows : List (Addr × List (Addr × Int × Str)) :=
  [(106, [(99, 40960, Str.ofString "l"), (100, 49152, Str.ofString "s"), (101, 32768, Str.ofString "-"), (102, 24576, Str.ofString "b"), (103, 16384, Str.ofString "d"), (104, 8192, Str.ofString "c"), (105, 4096, Str.ofString "p")]),
   (108, [(107, 256, Str.ofString "r")]), (110, [(109, 128, Str.ofString "w")]), (114, [(111, 2112, Str.ofString "s"), (112, 2048, Str.ofString "S"), (113, 64, Str.ofString "x")]),
   (116, [(115, 32, Str.ofString "r")]), (118, [(117, 16, Str.ofString "w")]), (122, [(119, 1032, Str.ofString "s"), (120, 1024, Str.ofString "S"), (121, 8, Str.ofString "x")]),
   (124, [(123, 4, Str.ofString "r")]), (126, [(125, 2, Str.ofString "w")]), (130, [(127, 513, Str.ofString "t"), (128, 512, Str.ofString "T"), (129, 1, Str.ofString "x")])]
theorem tab_is (w : World) {h : Heap} (X : (hd.heap_39 w.params).In h) : TabIs h 131 tabRows := by
  refine TabIs.of X rfl ?_ rfl
  intro r hr
  simp only [tabRows, List.mem_cons, List.not_mem_nil, or_false] at hr
  rcases hr with rfl | rfl | rfl | rfl | rfl | rfl | rfl | rfl | rfl | rfl
  all_goals
    refine ⟨rfl, ?_⟩
    intro q hq
    simp only [List.mem_cons, List.not_mem_nil, or_false] at hq
    repeat' (first | (rcases hq with rfl | hq) | (subst hq))
    all_goals exact ⟨_, _, rfl⟩
local macro_rules | `(tactic| walk_at "MyEnter") => `(tactic| (k_dflt ((case kA => exact rfl); (case kF => exact rfl); (case kK => assumption); (case ho => k_is); (case hcd => k_is); (case hroom => ktr_room); (case hb => exact BindsTo.of_eq rfl); (case hl => exact locs rfl); (case c1 => exact rfl); (case c2 => exact rfl); (case c3 => exact rfl); (case c4 => decide); k_whole)))
local macro_rules | `(tactic| walk_at "MyOff") => `(tactic| repeat' (first | exact off0 | exact nmem0 | (refine off1 ?_ ?_) | (refine nmem1 (by k_ne) ?_)))
local macro_rules | `(tactic| walk_at "exec For Tuple Call cons nil") => `(tactic| (k_here; (with_reducible refine wpAny_For ?_ ?hs); (case hs => (intro _; rfl))))
local macro_rules | `(tactic| walk_at "exec For Tuple Name cons cons") => `(tactic| (k_here; (with_reducible refine wpAny_For ?_ ?hs); (case hs => (intro _; rfl))))
theorem ifmt_contract {w : World} {p : Program} {loose : List Str} {mean : ExcName → Option Value} {mg mb : Str → Option Value} {x : Int} {tx : Tok}
   {dp un : Nat} {gd : Option (List Code)} {cn : Str} {cs : Scope} {a : Addr} {ccd : Value} {cl : List (Str × Addr)} {outer : List Env} {A₀ : Around} {base h₀ : Heap} {L : Addr} {m : Str → Option Value} {s : Shared} {Q E : Value → Shared → Prop}
    (B : Below A₀ base outer h₀) (F : Fr h₀ L s.heap m) (X : (hd.heap_39 w.params).In h₀) (T : Top p loose mean mg mb h₀) (hcs : cs.kind = .function)
    (hdp : dp + 1 < recursionLimit) (hun : un + 10 < cLine)
    (hret : ∀ (t : Tok) (h' : Heap) (tk' : Nat), (∀ b o, s.heap.get? b = some o → h'.get? b = some o) → Q (.int (Builtin.bitAnd x 61440) t) { s with heap := h', toks := tk' }) :
    wpAny (model PySem.Challenge.rw_dn0160_04.row.prog w) (ktrTop dp un gd cn cs L a ccd cl outer) (call (.ref 28) [.int x tx]) Q E s := by
  w_top off
  revert X; k_fill; intro X
  refine' call_pure B F X T ?kA ?kF ?kK ?ho ?hcd ?hroom ?hb ?hl ?_ ?c1 ?c2 ?c3 ?c4
  walk_at "MyEnter"
  intro L' h₁ F' N' B' X' T'
  clear B F X T
  replace F' : Fr s.heap L' h₁ (fun y => List.lookup y [(Str.ofString "mode", Value.int x tx)]) := F'
  k_steps
  rename Fr _ _ _ _ => F1
  exact hret _ _ _ F1.keep
local macro_rules | `(tactic| walk_at "call ref") => `(tactic| (k_here; (with_reducible show wpAny _ _ (call (Value.ref 28) [Value.int _ _]) _ _ _); k_dflt (refine' ifmt_contract ?k1 ?k2 ?k3 ?k5 ?kK ?kd ?ku ?_; (case k1 => k_asm); (case k2 => k_asm); (case k3 => k_asm); (case k5 => k_asm); (case kK => first | exact rfl | assumption); (case kd => ktr_room); (case ku => ktr_units)); (rename Fr _ _ _ _ => kF9); (rename News _ _ _ _ => kN9); intro t9 h9 tk9 hk9; (have F9 := Fr.keeps kF9 hk9); (have N9 := News.grown kN9 hk9); clear kF9 kN9 hk9; (try dsimp only)))
theorem fm_contract {w : World} {p : Program} {loose : List Str} {mean : ExcName → Option Value} {mg mb : Str → Option Value} {x : Int} {tx : Tok} 
   {dp un : Nat} {gd : Option (List Code)} {cn : Str} {cs : Scope} {a : Addr} {ccd : Value} {cl : List (Str × Addr)} {outer : List Env} {A₀ : Around} {base h₀ : Heap} {L : Addr} {m : Str → Option Value} {s : Shared} {Q E : Value → Shared → Prop}
    (B : Below A₀ base outer h₀) (F : Fr h₀ L s.heap m) (X : (hd.heap_39 w.params).In h₀) (T : Top p loose mean mg mb h₀) (hcs : cs.kind = .function)
    (hdp : dp + 3 < recursionLimit) (hun : un + 40 < cLine)
    (hret : ∀ (h' : Heap) (tk' : Nat), (∀ b o, s.heap.get? b = some o → h'.get? b = some o) → ∀ (t : Tok), Q (.str (fmText x) t) { s with heap := h', toks := tk' }) :
    wpAny (model PySem.Challenge.rw_dn0160_04.row.prog w) (ktrTop dp un gd cn cs L a ccd cl outer) (call (.ref 138) [.int x tx]) Q E s := by
  w_top off
  revert X; k_fill; intro X
  refine' call_pure B F X T ?kA ?kF ?kK ?ho ?hcd ?hroom ?hb ?hl ?_ ?c1 ?c2 ?c3 ?c4
  walk_at "MyEnter"
  intro L' h₁ F' N' B' X' T'
  have TB := tab_is w X'
  clear B F X T
  replace F' : Fr s.heap L' h₁ (fun y => List.lookup y [(Str.ofString "mode", Value.int x tx)]) := F'
  k_steps
  rename Fr _ _ _ _ => F1
  rename News _ _ _ _ => N1
  rename_i pa _ _ _
  refine iter_enumTuple (items := (tabRows.map fun r => Value.ref r.1).toArray) rfl TB.1 F1 N1
    (fun i m₁ news₁ => m₁ (Str.ofString "mode") = some (.int x tx) ∧ m₁ (Str.ofString "perm") = some (.ref pa) ∧ ∃ vs n, news₁ = [(pa, listOf vs.toArray n)] ∧ StrsAre vs ((fmSigns x).take i)) ?_ ?_ ?_ PassesOwn.never
  · exact ⟨rfl, rfl, [], 0, rfl, by simpa using StrsAre.nil⟩
  · clear F1 N1
    intro i v t U m₁ news₁ h₂ tk₁ e oe I o hv hJ hoff hU F2 N2 hlt hIe
    obtain ⟨hm1, hm2, vs, n, rfl, hvs⟩ := hJ
    obtain ⟨S, ps, rfl, hR, htab, hi⟩ := TB.item hv
    rw [chain2 hm1 hm2] at F2
    have hp1 := hlt (pa, _) (.head _)
    have hp2 := ltN hp1
    have hp3 := ltN hIe
    clear hp1 hlt hoff hm1 hm2
    dsimp only at hp2
    k_steps
    clear hU
    rename Fr _ _ _ _ => F3
    rename News _ _ _ _ => N3
    refine iter_tuple (items := (ps.map fun q => Value.ref q.1).toArray) rfl hR.1 F3 N3
      (fun j m₂ news₂ => m₂ (Str.ofString "mode") = some (.int x tx) ∧ m₂ (Str.ofString "perm") = some (.ref pa) ∧ m₂ (Str.ofString "index") = some (.int (i : Int) t) ∧ news₂ = [(e, oe), (I, o), (pa, listOf vs.toArray n)] ∧ ∀ k q, k < j → ps[k]? = some q → pickTest x i q.2.1 = false) ?_ ?_ ?_ PassesOwn.never
    · exact ⟨rfl, rfl, rfl, rfl, fun k q hk => absurd hk (Nat.not_lt_zero _)⟩
    · clear F3 N3
      intro j v m₂ news₂ h₃ tk₃ I₂ o₂ hv₂ hJ hoff F3 N3 hlt₂
      obtain ⟨hm1, hm2, hm3, rfl, hno⟩ := hJ
      obtain ⟨q, hq, rfl⟩ : ∃ q, ps[j]? = some q ∧ Value.ref q.1 = v := by
        have h' : ps[j]?.map (fun q => Value.ref q.1) = some v := by simpa using hv₂
        exact Option.map_eq_some_iff.mp h'
      obtain ⟨tb, tc, hpair⟩ := hR.2 q (List.mem_of_getElem? hq)
      obtain ⟨pr, b, c⟩ := q
      have hpr : IsTup h₃ pr #[.int b tb, .str c tc] := by
        obtain ⟨o', ho', r⟩ := hpair
        exact ⟨o', F3.keep _ _ ho', r⟩
      rw [chain3 hm1 hm2 hm3] at F3
      have l1 := ltN (hlt₂ (e, oe) (.head _))
      have l2 := ltN (hlt₂ (I, o) (.tail _ (.head _)))
      have l3 := ltN (hlt₂ (pa, _) (.tail _ (.tail _ (.head _))))
      dsimp only at l1 l2 l3
      have hfit := signs_fit hvs
      replace F3 : Fr s.heap L' h₃ _ := F3
      replace N3 : News s.heap L' h₃ _ := N3
      clear hlt₂ hoff hm1 hm2 hm3 hv₂
      rcases Nat.eq_zero_or_pos i with hi0 | hi0
      · subst hi0
        k_steps
        · (change wpAny _ _ (execs [] _) _ _ _); k_steps
          rename News _ _ _ _ => N4
          refine step_next (its := [(e, oe), (I, o)]) (news₂ := [(pa, listOf (vs ++ [Value.str c tc]).toArray (n + 1))]) (by k_asm) (by rw [← List.push_toArray]; exact news_tail N4) ?_ ?_
          · walk_at "MyOff"
          · refine ⟨rfl, rfl, _, _, rfl, sign_more hvs hi htab (sign_hit hno hq ?_)⟩
            simp [pickTest]; assumption
        · refine step_next (its := [(I₂, o₂)]) (news₂ := [(e, oe), (I, o), (pa, listOf vs.toArray n)]) (by k_asm) (by k_asm) ?_ ?_
          · walk_at "MyOff"
          · refine ⟨rfl, rfl, rfl, rfl, no_more hno hq ?_⟩
            simp [pickTest]; assumption
      · k_steps
        · exfalso; omega
        · (change wpAny _ _ (execs [] _) _ _ _); k_steps
          rename News _ _ _ _ => N4
          refine step_next (its := [(e, oe), (I, o)]) (news₂ := [(pa, listOf (vs ++ [Value.str c tc]).toArray (n + 1))]) (by k_asm) (by rw [← List.push_toArray]; exact news_tail N4) ?_ ?_
          · walk_at "MyOff"
          · refine ⟨rfl, rfl, _, _, rfl, sign_more hvs hi htab (sign_hit hno hq ?_)⟩
            simp [pickTest, Nat.ne_of_gt hi0]; assumption
        · refine step_next (its := [(I₂, o₂)]) (news₂ := [(e, oe), (I, o), (pa, listOf vs.toArray n)]) (by k_asm) (by k_asm) ?_ ?_
          · walk_at "MyOff"
          · refine ⟨rfl, rfl, rfl, rfl, no_more hno hq ?_⟩
            simp [pickTest, Nat.ne_of_gt hi0]; assumption
    · clear F3 N3
      intro h₃ tk₃ m₂ news₂ F3 N3 hJ
      obtain ⟨hm1, hm2, hm3, rfl, hno⟩ := hJ
      rw [chain3 hm1 hm2 hm3] at F3
      replace F3 : Fr s.heap L' h₃ _ := F3
      replace N3 : News s.heap L' h₃ _ := N3
      have hfit := signs_fit hvs
      have hmiss := sign_miss (by simp) hno
      rcases Nat.eq_zero_or_pos i with hi0 | hi0
      · subst hi0
        k_steps
        rename News _ _ _ _ => N4
        refine step_next (its := [(e, oe), (I, o)]) (news₂ := [(pa, listOf (vs ++ [Value.str (Str.ofString "?") _]).toArray (n + 1))]) (by k_asm) (by rw [← List.push_toArray]; exact N4) ?_ ?_
        · walk_at "MyOff"
        · exact ⟨rfl, rfl, _, _, rfl, sign_more hvs hi htab hmiss⟩
      · k_steps
        · exfalso; omega
        · rename News _ _ _ _ => N4
          refine step_next (its := [(e, oe), (I, o)]) (news₂ := [(pa, listOf (vs ++ [Value.str (Str.ofString "-") _]).toArray (n + 1))]) (by k_asm) (by rw [← List.push_toArray]; exact N4) ?_ ?_
          · walk_at "MyOff"
          · exact ⟨rfl, rfl, _, _, rfl, sign_more hvs hi htab (hmiss.trans (by simp [pickDflt, Nat.ne_of_gt hi0]))⟩
  · clear F1 N1
    intro h₃ tk₃ m₂ news₂ F3 N3 hJ
    obtain ⟨hm1, hm2, vs, n, rfl, hvs⟩ := hJ
    rw [chain2 hm1 hm2] at F3
    replace F3 : Fr s.heap L' h₃ _ := F3
    replace N3 : News s.heap L' h₃ _ := N3
    k_steps
    have hvs' : StrsAre vs.toArray.toList (fmSigns x) := by
      have e : (tabRows.map fun r => Value.ref r.1).toArray.size = 10 := rfl
      rw [e, List.take_of_length_le (by rw [fmSigns_length]; exact Nat.le_refl _)] at hvs
      simpa using hvs
    refine join_listW (News.isList N3 (.head _)) hvs' (by decide) (fmSigns_weight x) ?_
    intro t' k'
    exact hret _ _ F3.keep _
end Mine
namespace Mine
local macro_rules | `(tactic| walk_at "execs nil") => `(tactic| (k_here; (dsimp only); k_gentoks))
local macro_rules | `(tactic| walk_at "execs cons") => `(tactic| (k_here; (dsimp only); k_gentoks))
local macro_rules | `(tactic| walk_at "MyEnter") => `(tactic| (k_dflt ((case kA => exact rfl); (case kF => exact rfl); (case kK => assumption); (case ho => k_is); (case hcd => k_is); (case hroom => ktr_room); (case hb => exact BindsTo.of_eq rfl); (case hl => exact locs rfl); (case c1 => exact rfl); (case c2 => exact rfl); (case c3 => exact rfl); (case c4 => decide); k_whole)))
local macro_rules | `(tactic| walk_at "MyOff") => `(tactic| repeat' (first | exact off0 | exact nmem0 | (refine off1 ?_ ?_) | (refine nmem1 (by k_ne) ?_)))
local macro_rules | `(tactic| walk_at "MyIdx") => `(tactic| first | omega | l_idx | (split <;> omega))
local macro_rules | `(tactic| walk_at "MyStrs") => `(tactic| first | assumption | exact StrsAre.cons _ _ StrsAre.nil | (repeat' (first | exact StrsAre.nil | refine StrsAre.cons _ _ ?_)))
local macro_rules | `(tactic| walk_at "call builtin:str.join") => `(tactic| (k_here; (with_reducible show wpAny _ _ (call (Value.builtin "str.join") [Value.str _ _, Value.ref _]) _ _ _); k_dflt (refine' join_listW ?l ?i ?s ?w ?_; (case l => kmk_list); (case i => walk_at "MyStrs"); (case s => decide); (case w => first | decide | exact fmSigns_weight _); k_whole); intro t9 k9))
local macro_rules | `(tactic| walk_at "call type:list") => `(tactic| (k_here; (with_reducible show wpAny _ _ (call (Value.type _) [Value.str _ _]) _ _ _); k_dflt (refine' list_strN ?hh ?F ?N ?_ ?z; (case hh => exact rfl); (case F => k_asm); (case N => k_asm); (case z => decide)); intro D' ys' n' h' tk' F' N' l1 hI'; (try k_lt l1); (try k_sweep)))
local macro_rules | `(tactic| walk_at "MySize") => `(tactic| ((simp only [sizeLine_eq, List.length_append, List.length_cons, List.length_nil, List.length_take, List.length_drop, List.length_set]); omega))
local macro_rules | `(tactic| walk_at "eval IfExp") => `(tactic| (k_here; (with_reducible show wpAny _ _ (eval (PySem.Expr.IfExp _ (PySem.Expr.Constant (PySem.Const.int _) _ _) (PySem.Expr.Constant (PySem.Const.int _) _ _) _) _) _ _ _); refine ifexp_ints ?_))
local macro_rules | `(tactic| walk_at "subscriptTail") => `(tactic| (k_here; (with_reducible show wpAny _ _ (subscriptTail _ _ (Value.ref _) (Value.int _ _)) _ _ _); k_dflt (refine' strs_item ?l ?ss ?a ?b ?c ?_ ?s; (case l => kmk_list); (case ss => assumption); (case a => walk_at "MyIdx"); (case b => walk_at "MyIdx"); (case c => walk_at "MyIdx"); (case s => with_unfolding_all rfl); k_whole); intro t9))
local macro_rules | `(tactic| walk_at "subscriptTail Name Slice ref ref") => `(tactic| (k_here; (with_reducible show wpAny _ _ (subscriptTail _ (PySem.Expr.Slice _ _ none _) (Value.ref _) (Value.ref _)) _ _ _); k_dflt (refine' slice_strs ?F ?N ?l ?p ?q ?m ?_ ?s ?t ?z; (case F => k_asm); (case N => k_asm); (case l => kmk_list); (case p => kmk_part); (case q => kmk_part); (case m => first | exact strs_upto (by assumption) (by walk_at "MyIdx") | exact strs_from (by assumption) (by walk_at "MyIdx") | exact strs_run (by assumption) (by walk_at "MyIdx") (by walk_at "MyIdx") (by walk_at "MyIdx")); (case s => with_unfolding_all rfl); (case t => kmk_pure); (case z => exact strs_fit (by assumption) (by assumption) (by decide))); intro D' ws' h' F' N' l1 hI'; (try k_lt l1); (try k_sweep)))
local macro_rules | `(tactic| walk_at "binaryOp Add ref ref") => `(tactic| (k_here; (with_reducible show wpAny _ _ (binaryOp _ (Value.ref _) (Value.ref _)) _ _ _); k_dflt (refine' cat_strs ?F ?N ?a ?b ?i ?j ?_ ?z; (case F => k_asm); (case N => k_asm); (case a => kmk_list); (case b => kmk_list); (case i => walk_at "MyStrs"); (case j => walk_at "MyStrs"); (case z => walk_at "MySize")); intro D' ws' h' F' N' l1 hI'; (try k_lt l1); (try k_sweep)))
local macro_rules | `(tactic| walk_at "MyAnd") => `(tactic| (with_reducible refine and_raises rfl ?_ ?_))
local macro_rules | `(tactic| walk_at "binaryOp BitAnd") => `(tactic| (k_here; refine hold_intro ?_))
theorem ifmt_raises {w : World} {p : Program} {loose : List Str} {mean : ExcName → Option Value} {mg mb : Str → Option Value} {v : Value}
    {dp un : Nat} {gd : Option (List Code)} {cn : Str} {cs : Scope} {a : Addr} {ccd : Value} {cl : List (Str × Addr)} {outer : List Env} {A₀ : Around} {base h₀ : Heap} {L : Addr} {m : Str → Option Value} {s : Shared} {Q E : Value → Shared → Prop}
    (B : Below A₀ base outer h₀) (F : Fr h₀ L s.heap m) (X : (hd.heap_39 w.params).In h₀) (T : Top p loose mean mg mb h₀) (hcs : cs.kind = .function)
    (hdp : dp + 1 < recursionLimit) (hun : un + 10 < cLine) (hv : Thing s.heap v)
    (hE : Flies base s.heap (envX cn cs L a ccd cl :: outer) E s) :
    wpAny (model PySem.Challenge.rw_dn0160_04.row.prog w) (ktrTop dp un gd cn cs L a ccd cl outer) (call (.ref 28) [v]) Q E s := by
  w_top off
  revert X; k_fill; intro X
  refine' call_both B F X T ?kA ?kF ?kK ?ho ?hcd ?hroom ?hb ?hl ?_ ?c1 ?c2 ?c3 ?c4
  walk_at "MyEnter"
  intro L' h₁ tk₀ F' N' B' X' T'
  clear B F X T
  replace F' : Fr s.heap L' h₁ (fun y => List.lookup y [(Str.ofString "mode", v)]) := F'
  have hv' := hv.keeps F'.keep
  k_steps
  refine and_raises rfl hv' fun h₂ tk₂ e hx => ?_
  refine leave_newS B' hx F' N' ?_ rfl
  intro h₃ R _ U
  exact hE _ _ _ R U
theorem imode_raises {w : World} {p : Program} {loose : List Str} {mean : ExcName → Option Value} {mg mb : Str → Option Value} {v : Value}
    {dp un : Nat} {gd : Option (List Code)} {cn : Str} {cs : Scope} {a : Addr} {ccd : Value} {cl : List (Str × Addr)} {outer : List Env} {A₀ : Around} {base h₀ : Heap} {L : Addr} {m : Str → Option Value} {s : Shared} {Q E : Value → Shared → Prop}
    (B : Below A₀ base outer h₀) (F : Fr h₀ L s.heap m) (X : (hd.heap_39 w.params).In h₀) (T : Top p loose mean mg mb h₀) (hcs : cs.kind = .function)
    (hdp : dp + 1 < recursionLimit) (hun : un + 10 < cLine) (hv : Thing s.heap v)
    (hE : Flies base s.heap (envX cn cs L a ccd cl :: outer) E s) :
    wpAny (model PySem.Challenge.rw_dn0160_04.row.prog w) (ktrTop dp un gd cn cs L a ccd cl outer) (call (.ref 21) [v]) Q E s := by
  w_top off
  revert X; k_fill; intro X
  refine' call_both B F X T ?kA ?kF ?kK ?ho ?hcd ?hroom ?hb ?hl ?_ ?c1 ?c2 ?c3 ?c4
  walk_at "MyEnter"
  intro L' h₁ tk₀ F' N' B' X' T'
  clear B F X T
  replace F' : Fr s.heap L' h₁ (fun y => List.lookup y [(Str.ofString "mode", v)]) := F'
  have hv' := hv.keeps F'.keep
  k_steps
  refine and_raises rfl hv' fun h₂ tk₂ e hx => ?_
  refine leave_newS B' hx F' N' ?_ rfl
  intro h₃ R _ U
  exact hE _ _ _ R U
local macro_rules | `(tactic| walk_at "call ref") => `(tactic| (k_here; refine hold_intro ?_))
local macro_rules | `(tactic| walk_at "call ref cons nil") => `(tactic| (k_here; refine hold_intro ?_))
theorem fifo_raises {w : World} {p : Program} {loose : List Str} {mean : ExcName → Option Value} {mg mb : Str → Option Value} {v : Value}
    {dp un : Nat} {gd : Option (List Code)} {cn : Str} {cs : Scope} {a : Addr} {ccd : Value} {cl : List (Str × Addr)} {outer : List Env} {A₀ : Around} {base h₀ : Heap} {L : Addr} {m : Str → Option Value} {s : Shared} {Q E : Value → Shared → Prop}
    (B : Below A₀ base outer h₀) (F : Fr h₀ L s.heap m) (X : (hd.heap_39 w.params).In h₀) (T : Top p loose mean mg mb h₀) (hcs : cs.kind = .function)
    (hdp : dp + 2 < recursionLimit) (hun : un + 20 < cLine) (hv : Thing s.heap v)
    (hE : Flies base s.heap (envX cn cs L a ccd cl :: outer) E s) :
    wpAny (model PySem.Challenge.rw_dn0160_04.row.prog w) (ktrTop dp un gd cn cs L a ccd cl outer) (call (.ref 63) [v]) Q E s := by
  w_top off
  revert X; k_fill; intro X
  refine' call_both B F X T ?kA ?kF ?kK ?ho ?hcd ?hroom ?hb ?hl ?_ ?c1 ?c2 ?c3 ?c4
  walk_at "MyEnter"
  intro L' h₁ tk₀ F' N' B' X' T'
  clear B F X T
  replace F' : Fr s.heap L' h₁ (fun y => List.lookup y [(Str.ofString "mode", v)]) := F'
  have hv' := hv.keeps F'.keep
  k_steps
  rename Fr _ _ _ _ => F1
  refine ifmt_raises B' F1 X' T' rfl ?_ ?_ hv' ?_
  · ktr_room
  · ktr_units
  intro h₂ tk₂ e R U
  refine leave_onSN B' F1 R U ?_
  intro h₃ R' _ U'
  exact hE _ _ _ R' U'
theorem chr_raises {w : World} {p : Program} {loose : List Str} {mean : ExcName → Option Value} {mg mb : Str → Option Value} {v : Value}
    {dp un : Nat} {gd : Option (List Code)} {cn : Str} {cs : Scope} {a : Addr} {ccd : Value} {cl : List (Str × Addr)} {outer : List Env} {A₀ : Around} {base h₀ : Heap} {L : Addr} {m : Str → Option Value} {s : Shared} {Q E : Value → Shared → Prop}
    (B : Below A₀ base outer h₀) (F : Fr h₀ L s.heap m) (X : (hd.heap_39 w.params).In h₀) (T : Top p loose mean mg mb h₀) (hcs : cs.kind = .function)
    (hdp : dp + 2 < recursionLimit) (hun : un + 20 < cLine) (hv : Thing s.heap v)
    (hE : Flies base s.heap (envX cn cs L a ccd cl :: outer) E s) :
    wpAny (model PySem.Challenge.rw_dn0160_04.row.prog w) (ktrTop dp un gd cn cs L a ccd cl outer) (call (.ref 42) [v]) Q E s := by
  w_top off
  revert X; k_fill; intro X
  refine' call_both B F X T ?kA ?kF ?kK ?ho ?hcd ?hroom ?hb ?hl ?_ ?c1 ?c2 ?c3 ?c4
  walk_at "MyEnter"
  intro L' h₁ tk₀ F' N' B' X' T'
  clear B F X T
  replace F' : Fr s.heap L' h₁ (fun y => List.lookup y [(Str.ofString "mode", v)]) := F'
  have hv' := hv.keeps F'.keep
  k_steps
  rename Fr _ _ _ _ => F1
  refine ifmt_raises B' F1 X' T' rfl ?_ ?_ hv' ?_
  · ktr_room
  · ktr_units
  intro h₂ tk₂ e R U
  refine leave_onSN B' F1 R U ?_
  intro h₃ R' _ U'
  exact hE _ _ _ R' U'
theorem dir_raises {w : World} {p : Program} {loose : List Str} {mean : ExcName → Option Value} {mg mb : Str → Option Value} {v : Value}
    {dp un : Nat} {gd : Option (List Code)} {cn : Str} {cs : Scope} {a : Addr} {ccd : Value} {cl : List (Str × Addr)} {outer : List Env} {A₀ : Around} {base h₀ : Heap} {L : Addr} {m : Str → Option Value} {s : Shared} {Q E : Value → Shared → Prop}
    (B : Below A₀ base outer h₀) (F : Fr h₀ L s.heap m) (X : (hd.heap_39 w.params).In h₀) (T : Top p loose mean mg mb h₀) (hcs : cs.kind = .function)
    (hdp : dp + 2 < recursionLimit) (hun : un + 20 < cLine) (hv : Thing s.heap v)
    (hE : Flies base s.heap (envX cn cs L a ccd cl :: outer) E s) :
    wpAny (model PySem.Challenge.rw_dn0160_04.row.prog w) (ktrTop dp un gd cn cs L a ccd cl outer) (call (.ref 35) [v]) Q E s := by
  w_top off
  revert X; k_fill; intro X
  refine' call_both B F X T ?kA ?kF ?kK ?ho ?hcd ?hroom ?hb ?hl ?_ ?c1 ?c2 ?c3 ?c4
  walk_at "MyEnter"
  intro L' h₁ tk₀ F' N' B' X' T'
  clear B F X T
  replace F' : Fr s.heap L' h₁ (fun y => List.lookup y [(Str.ofString "mode", v)]) := F'
  have hv' := hv.keeps F'.keep
  k_steps
  rename Fr _ _ _ _ => F1
  refine ifmt_raises B' F1 X' T' rfl ?_ ?_ hv' ?_
  · ktr_room
  · ktr_units
  intro h₂ tk₂ e R U
  refine leave_onSN B' F1 R U ?_
  intro h₃ R' _ U'
  exact hE _ _ _ R' U'
theorem blk_raises {w : World} {p : Program} {loose : List Str} {mean : ExcName → Option Value} {mg mb : Str → Option Value} {v : Value}
    {dp un : Nat} {gd : Option (List Code)} {cn : Str} {cs : Scope} {a : Addr} {ccd : Value} {cl : List (Str × Addr)} {outer : List Env} {A₀ : Around} {base h₀ : Heap} {L : Addr} {m : Str → Option Value} {s : Shared} {Q E : Value → Shared → Prop}
    (B : Below A₀ base outer h₀) (F : Fr h₀ L s.heap m) (X : (hd.heap_39 w.params).In h₀) (T : Top p loose mean mg mb h₀) (hcs : cs.kind = .function)
    (hdp : dp + 2 < recursionLimit) (hun : un + 20 < cLine) (hv : Thing s.heap v)
    (hE : Flies base s.heap (envX cn cs L a ccd cl :: outer) E s) :
    wpAny (model PySem.Challenge.rw_dn0160_04.row.prog w) (ktrTop dp un gd cn cs L a ccd cl outer) (call (.ref 49) [v]) Q E s := by
  w_top off
  revert X; k_fill; intro X
  refine' call_both B F X T ?kA ?kF ?kK ?ho ?hcd ?hroom ?hb ?hl ?_ ?c1 ?c2 ?c3 ?c4
  walk_at "MyEnter"
  intro L' h₁ tk₀ F' N' B' X' T'
  clear B F X T
  replace F' : Fr s.heap L' h₁ (fun y => List.lookup y [(Str.ofString "mode", v)]) := F'
  have hv' := hv.keeps F'.keep
  k_steps
  rename Fr _ _ _ _ => F1
  refine ifmt_raises B' F1 X' T' rfl ?_ ?_ hv' ?_
  · ktr_room
  · ktr_units
  intro h₂ tk₂ e R U
  refine leave_onSN B' F1 R U ?_
  intro h₃ R' _ U'
  exact hE _ _ _ R' U'
theorem reg_raises {w : World} {p : Program} {loose : List Str} {mean : ExcName → Option Value} {mg mb : Str → Option Value} {v : Value}
    {dp un : Nat} {gd : Option (List Code)} {cn : Str} {cs : Scope} {a : Addr} {ccd : Value} {cl : List (Str × Addr)} {outer : List Env} {A₀ : Around} {base h₀ : Heap} {L : Addr} {m : Str → Option Value} {s : Shared} {Q E : Value → Shared → Prop}
    (B : Below A₀ base outer h₀) (F : Fr h₀ L s.heap m) (X : (hd.heap_39 w.params).In h₀) (T : Top p loose mean mg mb h₀) (hcs : cs.kind = .function)
    (hdp : dp + 2 < recursionLimit) (hun : un + 20 < cLine) (hv : Thing s.heap v)
    (hE : Flies base s.heap (envX cn cs L a ccd cl :: outer) E s) :
    wpAny (model PySem.Challenge.rw_dn0160_04.row.prog w) (ktrTop dp un gd cn cs L a ccd cl outer) (call (.ref 56) [v]) Q E s := by
  w_top off
  revert X; k_fill; intro X
  refine' call_both B F X T ?kA ?kF ?kK ?ho ?hcd ?hroom ?hb ?hl ?_ ?c1 ?c2 ?c3 ?c4
  walk_at "MyEnter"
  intro L' h₁ tk₀ F' N' B' X' T'
  clear B F X T
  replace F' : Fr s.heap L' h₁ (fun y => List.lookup y [(Str.ofString "mode", v)]) := F'
  have hv' := hv.keeps F'.keep
  k_steps
  rename Fr _ _ _ _ => F1
  refine ifmt_raises B' F1 X' T' rfl ?_ ?_ hv' ?_
  · ktr_room
  · ktr_units
  intro h₂ tk₂ e R U
  refine leave_onSN B' F1 R U ?_
  intro h₃ R' _ U'
  exact hE _ _ _ R' U'
theorem lnk_raises {w : World} {p : Program} {loose : List Str} {mean : ExcName → Option Value} {mg mb : Str → Option Value} {v : Value}
    {dp un : Nat} {gd : Option (List Code)} {cn : Str} {cs : Scope} {a : Addr} {ccd : Value} {cl : List (Str × Addr)} {outer : List Env} {A₀ : Around} {base h₀ : Heap} {L : Addr} {m : Str → Option Value} {s : Shared} {Q E : Value → Shared → Prop}
    (B : Below A₀ base outer h₀) (F : Fr h₀ L s.heap m) (X : (hd.heap_39 w.params).In h₀) (T : Top p loose mean mg mb h₀) (hcs : cs.kind = .function)
    (hdp : dp + 2 < recursionLimit) (hun : un + 20 < cLine) (hv : Thing s.heap v)
    (hE : Flies base s.heap (envX cn cs L a ccd cl :: outer) E s) :
    wpAny (model PySem.Challenge.rw_dn0160_04.row.prog w) (ktrTop dp un gd cn cs L a ccd cl outer) (call (.ref 70) [v]) Q E s := by
  w_top off
  revert X; k_fill; intro X
  refine' call_both B F X T ?kA ?kF ?kK ?ho ?hcd ?hroom ?hb ?hl ?_ ?c1 ?c2 ?c3 ?c4
  walk_at "MyEnter"
  intro L' h₁ tk₀ F' N' B' X' T'
  clear B F X T
  replace F' : Fr s.heap L' h₁ (fun y => List.lookup y [(Str.ofString "mode", v)]) := F'
  have hv' := hv.keeps F'.keep
  k_steps
  rename Fr _ _ _ _ => F1
  refine ifmt_raises B' F1 X' T' rfl ?_ ?_ hv' ?_
  · ktr_room
  · ktr_units
  intro h₂ tk₂ e R U
  refine leave_onSN B' F1 R U ?_
  intro h₃ R' _ U'
  exact hE _ _ _ R' U'
theorem sock_raises {w : World} {p : Program} {loose : List Str} {mean : ExcName → Option Value} {mg mb : Str → Option Value} {v : Value}
    {dp un : Nat} {gd : Option (List Code)} {cn : Str} {cs : Scope} {a : Addr} {ccd : Value} {cl : List (Str × Addr)} {outer : List Env} {A₀ : Around} {base h₀ : Heap} {L : Addr} {m : Str → Option Value} {s : Shared} {Q E : Value → Shared → Prop}
    (B : Below A₀ base outer h₀) (F : Fr h₀ L s.heap m) (X : (hd.heap_39 w.params).In h₀) (T : Top p loose mean mg mb h₀) (hcs : cs.kind = .function)
    (hdp : dp + 2 < recursionLimit) (hun : un + 20 < cLine) (hv : Thing s.heap v)
    (hE : Flies base s.heap (envX cn cs L a ccd cl :: outer) E s) :
    wpAny (model PySem.Challenge.rw_dn0160_04.row.prog w) (ktrTop dp un gd cn cs L a ccd cl outer) (call (.ref 77) [v]) Q E s := by
  w_top off
  revert X; k_fill; intro X
  refine' call_both B F X T ?kA ?kF ?kK ?ho ?hcd ?hroom ?hb ?hl ?_ ?c1 ?c2 ?c3 ?c4
  walk_at "MyEnter"
  intro L' h₁ tk₀ F' N' B' X' T'
  clear B F X T
  replace F' : Fr s.heap L' h₁ (fun y => List.lookup y [(Str.ofString "mode", v)]) := F'
  have hv' := hv.keeps F'.keep
  k_steps
  rename Fr _ _ _ _ => F1
  refine ifmt_raises B' F1 X' T' rfl ?_ ?_ hv' ?_
  · ktr_room
  · ktr_units
  intro h₂ tk₂ e R U
  refine leave_onSN B' F1 R U ?_
  intro h₃ R' _ U'
  exact hE _ _ _ R' U'
end Mine
namespace Mine
local macro_rules | `(tactic| walk_at "execs nil") => `(tactic| (k_here; (dsimp only); k_gentoks))
local macro_rules | `(tactic| walk_at "execs cons") => `(tactic| (k_here; (dsimp only); k_gentoks))
local macro_rules | `(tactic| walk_at "MyEnter") => `(tactic| (k_dflt ((case kA => exact rfl); (case kF => exact rfl); (case kK => assumption); (case ho => k_is); (case hcd => k_is); (case hroom => ktr_room); (case hb => exact BindsTo.of_eq rfl); (case hl => exact locs rfl); (case c1 => exact rfl); (case c2 => exact rfl); (case c3 => exact rfl); (case c4 => decide); k_whole)))
local macro_rules | `(tactic| walk_at "MyOff") => `(tactic| repeat' (first | exact off0 | exact nmem0 | (refine off1 ?_ ?_) | (refine nmem1 (by k_ne) ?_)))
local macro_rules | `(tactic| walk_at "MyIdx") => `(tactic| first | omega | l_idx | (split <;> omega))
local macro_rules | `(tactic| walk_at "MyStrs") => `(tactic| first | assumption | exact StrsAre.cons _ _ StrsAre.nil | (repeat' (first | exact StrsAre.nil | refine StrsAre.cons _ _ ?_)))
local macro_rules | `(tactic| walk_at "call builtin:str.join") => `(tactic| (k_here; (with_reducible show wpAny _ _ (call (Value.builtin "str.join") [Value.str _ _, Value.ref _]) _ _ _); k_dflt (refine' join_listW ?l ?i ?s ?w ?_; (case l => kmk_list); (case i => walk_at "MyStrs"); (case s => decide); (case w => first | decide | exact fmSigns_weight _); k_whole); intro t9 k9))
local macro_rules | `(tactic| walk_at "call type:list") => `(tactic| (k_here; (with_reducible show wpAny _ _ (call (Value.type _) [Value.str _ _]) _ _ _); k_dflt (refine' list_strN ?hh ?F ?N ?_ ?z; (case hh => exact rfl); (case F => k_asm); (case N => k_asm); (case z => decide)); intro D' ys' n' h' tk' F' N' l1 hI'; (try k_lt l1); (try k_sweep)))
local macro_rules | `(tactic| walk_at "MySize") => `(tactic| ((simp only [sizeLine_eq, List.length_append, List.length_cons, List.length_nil, List.length_take, List.length_drop, List.length_set]); omega))
local macro_rules | `(tactic| walk_at "eval IfExp") => `(tactic| (k_here; (with_reducible show wpAny _ _ (eval (PySem.Expr.IfExp _ (PySem.Expr.Constant (PySem.Const.int _) _ _) (PySem.Expr.Constant (PySem.Const.int _) _ _) _) _) _ _ _); refine ifexp_ints ?_))
local macro_rules | `(tactic| walk_at "subscriptTail") => `(tactic| (k_here; (with_reducible show wpAny _ _ (subscriptTail _ _ (Value.ref _) (Value.int _ _)) _ _ _); k_dflt (refine' strs_item ?l ?ss ?a ?b ?c ?_ ?s; (case l => kmk_list); (case ss => assumption); (case a => walk_at "MyIdx"); (case b => walk_at "MyIdx"); (case c => walk_at "MyIdx"); (case s => with_unfolding_all rfl); k_whole); intro t9))
local macro_rules | `(tactic| walk_at "subscriptTail Name Slice ref ref") => `(tactic| (k_here; (with_reducible show wpAny _ _ (subscriptTail _ (PySem.Expr.Slice _ _ none _) (Value.ref _) (Value.ref _)) _ _ _); k_dflt (refine' slice_strs ?F ?N ?l ?p ?q ?m ?_ ?s ?t ?z; (case F => k_asm); (case N => k_asm); (case l => kmk_list); (case p => kmk_part); (case q => kmk_part); (case m => first | exact strs_upto (by assumption) (by walk_at "MyIdx") | exact strs_from (by assumption) (by walk_at "MyIdx") | exact strs_run (by assumption) (by walk_at "MyIdx") (by walk_at "MyIdx") (by walk_at "MyIdx")); (case s => with_unfolding_all rfl); (case t => kmk_pure); (case z => exact strs_fit (by assumption) (by assumption) (by decide))); intro D' ws' h' F' N' l1 hI'; (try k_lt l1); (try k_sweep)))
local macro_rules | `(tactic| walk_at "binaryOp Add ref ref") => `(tactic| (k_here; (with_reducible show wpAny _ _ (binaryOp _ (Value.ref _) (Value.ref _)) _ _ _); k_dflt (refine' cat_strs ?F ?N ?a ?b ?i ?j ?_ ?z; (case F => k_asm); (case N => k_asm); (case a => kmk_list); (case b => kmk_list); (case i => walk_at "MyStrs"); (case j => walk_at "MyStrs"); (case z => walk_at "MySize")); intro D' ws' h' F' N' l1 hI'; (try k_lt l1); (try k_sweep)))
local macro_rules | `(tactic| walk_at "call ref") => `(tactic| (k_here; refine hold_intro ?_))
local macro_rules | `(tactic| walk_at "call ref cons nil") => `(tactic| (k_here; refine hold_intro ?_))
local macro_rules | `(tactic| walk_at "exec For Tuple Call cons nil") => `(tactic| (k_here; (with_reducible refine wpAny_For ?_ ?hs); (case hs => (intro _; rfl))))
local macro_rules | `(tactic| walk_at "exec For Tuple Name cons cons") => `(tactic| (k_here; (with_reducible refine wpAny_For ?_ ?hs); (case hs => (intro _; rfl))))
theorem fm_raises {w : World} {p : Program} {loose : List Str} {mean : ExcName → Option Value} {mg mb : Str → Option Value} {v : Value}
    {dp un : Nat} {gd : Option (List Code)} {cn : Str} {cs : Scope} {a : Addr} {ccd : Value} {cl : List (Str × Addr)} {outer : List Env} {A₀ : Around} {base h₀ : Heap} {L : Addr} {m : Str → Option Value} {s : Shared} {Q E : Value → Shared → Prop}
    (B : Below A₀ base outer h₀) (F : Fr h₀ L s.heap m) (X : (hd.heap_39 w.params).In h₀) (T : Top p loose mean mg mb h₀) (hcs : cs.kind = .function)
    (hdp : dp + 3 < recursionLimit) (hun : un + 40 < cLine) (hv : Thing s.heap v)
    (hE : Flies base s.heap (envX cn cs L a ccd cl :: outer) E s) :
    wpAny (model PySem.Challenge.rw_dn0160_04.row.prog w) (ktrTop dp un gd cn cs L a ccd cl outer) (call (.ref 138) [v]) Q E s := by
  w_top off
  revert X; k_fill; intro X
  refine' call_both B F X T ?kA ?kF ?kK ?ho ?hcd ?hroom ?hb ?hl ?_ ?c1 ?c2 ?c3 ?c4
  walk_at "MyEnter"
  intro L' h₁ tk₀ F' N' B' X' T'
  clear B F X T
  replace F' : Fr s.heap L' h₁ (fun y => List.lookup y [(Str.ofString "mode", v)]) := F'
  have hv' := hv.keeps F'.keep
  have TB := tab_is w X'
  k_steps
  rename Fr _ _ _ _ => F1
  rename News _ _ _ _ => N1
  rename_i pa _ _ _
  refine iter_enumTuple (items := (tabRows.map fun r => Value.ref r.1).toArray) rfl TB.1 F1 N1
    (fun i m₁ news₁ => i = 0 ∧ m₁ (Str.ofString "mode") = some v ∧ m₁ (Str.ofString "perm") = some (.ref pa)) ?_ ?_ ?_ PassesOwn.leaving
  · exact ⟨rfl, rfl, rfl⟩
  · clear F1 N1
    intro i u t U m₁ news₁ h₂ tk₁ e oe I o hu hJ hoff hU F2 N2 hlt hIe
    obtain ⟨rfl, hm1, hm2⟩ := hJ
    obtain ⟨S, ps, rfl, hR, htab, hi⟩ := TB.item hu
    rw [chain2 hm1 hm2] at F2
    have hp3 := ltN hIe
    clear hlt hoff hm1 hm2
    have N3 : News s.heap L' h₂ [(e, oe), (I, o)] := fun p hp => N2 p (by rcases List.mem_cons.mp hp with rfl | hp; exact .head _; rw [List.mem_singleton.mp hp]; exact .tail _ (.head _))
    clear N2
    k_steps
    clear hU
    rename Fr _ _ _ _ => F3
    rename News _ _ _ _ => N3
    have hps : ps.length = 7 := by have := congrArg List.length htab; simpa [fmTab] using this.symm
    refine iter_tuple (items := (ps.map fun q => Value.ref q.1).toArray) rfl hR.1 F3 N3
      (fun j m₂ news₂ => j = 0 ∧ m₂ (Str.ofString "mode") = some v ∧ m₂ (Str.ofString "index") = some (.int ((0 : Nat) : Int) t)) ?_ ?_ ?_ PassesOwn.leaving
    · exact ⟨rfl, rfl, rfl⟩
    · clear F3 N3
      intro j u m₂ news₂ h₃ tk₃ I₂ o₂ hv₂ hJ hoff F3 N3 hlt₂
      obtain ⟨rfl, hm1, hm2⟩ := hJ
      obtain ⟨q, hq, rfl⟩ : ∃ q, ps[0]? = some q ∧ Value.ref q.1 = u := by
        have h' : ps[0]?.map (fun q => Value.ref q.1) = some u := by simpa using hv₂
        exact Option.map_eq_some_iff.mp h'
      obtain ⟨tb, tc, hpair⟩ := hR.2 q (List.mem_of_getElem? hq)
      obtain ⟨pr, b, c⟩ := q
      have hpr : IsTup h₃ pr #[.int b tb, .str c tc] := by
        obtain ⟨o', ho', r⟩ := hpair
        exact ⟨o', F3.keep _ _ ho', r⟩
      rw [chain2 hm1 hm2] at F3
      replace F3 : Fr s.heap L' h₃ _ := F3
      have N4 : News s.heap L' h₃ [(I₂, o₂)] := fun p hp => N3 p (by rw [List.mem_singleton.mp hp]; exact .head _)
      clear hlt₂ hoff hm1 hm2 hv₂ N3
      k_steps
      rename Fr _ _ _ _ => F5
      refine ifmt_raises B' F5 X' T' rfl ?_ ?_ (hv.keeps F5.keep) ?_
      · ktr_room
      · ktr_units
      intro h₂ tk₂ e R U
      refine leave_onSN B' F5 R U ?_
      intro h₃ R' _ U'
      exact hE _ _ _ R' U'
    · intro h₃ tk₃ m₂ news₂ F3 N3 hJ
      have := hJ.1
      simp [hps] at this
  · intro h₃ tk₃ m₂ news₂ F3 N3 hJ
    exact absurd hJ.1 (by decide)
end Mine
namespace Mine
local macro_rules | `(tactic| walk_at "execs nil") => `(tactic| (k_here; (dsimp only); k_gentoks))
local macro_rules | `(tactic| walk_at "execs cons") => `(tactic| (k_here; (dsimp only); k_gentoks))
local macro_rules | `(tactic| walk_at "MyEnter") => `(tactic| (k_dflt ((case kA => exact rfl); (case kF => exact rfl); (case kK => assumption); (case ho => k_is); (case hcd => k_is); (case hroom => ktr_room); (case hb => exact BindsTo.of_eq rfl); (case hl => exact locs rfl); (case c1 => exact rfl); (case c2 => exact rfl); (case c3 => exact rfl); (case c4 => decide); k_whole)))
local macro_rules | `(tactic| walk_at "MyOff") => `(tactic| repeat' (first | exact off0 | exact nmem0 | (refine off1 ?_ ?_) | (refine nmem1 (by k_ne) ?_)))
local macro_rules | `(tactic| walk_at "MyIdx") => `(tactic| first | omega | l_idx | (split <;> omega))
local macro_rules | `(tactic| walk_at "MyStrs") => `(tactic| first | assumption | exact StrsAre.cons _ _ StrsAre.nil | (repeat' (first | exact StrsAre.nil | refine StrsAre.cons _ _ ?_)))
local macro_rules | `(tactic| walk_at "call builtin:str.join") => `(tactic| (k_here; (with_reducible show wpAny _ _ (call (Value.builtin "str.join") [Value.str _ _, Value.ref _]) _ _ _); k_dflt (refine' join_listW ?l ?i ?s ?w ?_; (case l => kmk_list); (case i => walk_at "MyStrs"); (case s => decide); (case w => first | decide | exact fmSigns_weight _); k_whole); intro t9 k9))
local macro_rules | `(tactic| walk_at "call type:list") => `(tactic| (k_here; (with_reducible show wpAny _ _ (call (Value.type _) [Value.str _ _]) _ _ _); k_dflt (refine' list_strN ?hh ?F ?N ?_ ?z; (case hh => exact rfl); (case F => k_asm); (case N => k_asm); (case z => decide)); intro D' ys' n' h' tk' F' N' l1 hI'; (try k_lt l1); (try k_sweep)))
local macro_rules | `(tactic| walk_at "MySize") => `(tactic| ((simp only [sizeLine_eq, List.length_append, List.length_cons, List.length_nil, List.length_take, List.length_drop, List.length_set]); omega))
local macro_rules | `(tactic| walk_at "eval IfExp") => `(tactic| (k_here; (with_reducible show wpAny _ _ (eval (PySem.Expr.IfExp _ (PySem.Expr.Constant (PySem.Const.int _) _ _) (PySem.Expr.Constant (PySem.Const.int _) _ _) _) _) _ _ _); refine ifexp_ints ?_))
local macro_rules | `(tactic| walk_at "subscriptTail") => `(tactic| (k_here; (with_reducible show wpAny _ _ (subscriptTail _ _ (Value.ref _) (Value.int _ _)) _ _ _); k_dflt (refine' strs_item ?l ?ss ?a ?b ?c ?_ ?s; (case l => kmk_list); (case ss => assumption); (case a => walk_at "MyIdx"); (case b => walk_at "MyIdx"); (case c => walk_at "MyIdx"); (case s => with_unfolding_all rfl); k_whole); intro t9))
local macro_rules | `(tactic| walk_at "subscriptTail Name Slice ref ref") => `(tactic| (k_here; (with_reducible show wpAny _ _ (subscriptTail _ (PySem.Expr.Slice _ _ none _) (Value.ref _) (Value.ref _)) _ _ _); k_dflt (refine' slice_strs ?F ?N ?l ?p ?q ?m ?_ ?s ?t ?z; (case F => k_asm); (case N => k_asm); (case l => kmk_list); (case p => kmk_part); (case q => kmk_part); (case m => first | exact strs_upto (by assumption) (by walk_at "MyIdx") | exact strs_from (by assumption) (by walk_at "MyIdx") | exact strs_run (by assumption) (by walk_at "MyIdx") (by walk_at "MyIdx") (by walk_at "MyIdx")); (case s => with_unfolding_all rfl); (case t => kmk_pure); (case z => exact strs_fit (by assumption) (by assumption) (by decide))); intro D' ws' h' F' N' l1 hI'; (try k_lt l1); (try k_sweep)))
local macro_rules | `(tactic| walk_at "binaryOp Add ref ref") => `(tactic| (k_here; (with_reducible show wpAny _ _ (binaryOp _ (Value.ref _) (Value.ref _)) _ _ _); k_dflt (refine' cat_strs ?F ?N ?a ?b ?i ?j ?_ ?z; (case F => k_asm); (case N => k_asm); (case a => kmk_list); (case b => kmk_list); (case i => walk_at "MyStrs"); (case j => walk_at "MyStrs"); (case z => walk_at "MySize")); intro D' ws' h' F' N' l1 hI'; (try k_lt l1); (try k_sweep)))
local macro_rules | `(tactic| walk_at "call ref") => `(tactic| (k_here; refine hold_intro ?_))
local macro_rules | `(tactic| walk_at "call ref cons nil") => `(tactic| (k_here; refine hold_intro ?_))
def doorsL : List Addr := [63, 42, 35, 49, 56, 70, 77, 28, 21, 138]
theorem door_raises {w : World} {p : Program} {loose : List Str} {mean : ExcName → Option Value} {mg mb : Str → Option Value}
    {dp un : Nat} {gd : Option (List Code)} {cn : Str} {cs : Scope} {a : Addr} {ccd : Value} {cl : List (Str × Addr)} {outer : List Env} {A₀ : Around} {base h₀ : Heap} {L : Addr} {m : Str → Option Value} {s : Shared} {Q E : Value → Shared → Prop} {v : Value} {d : Addr}
    (B : Below A₀ base outer h₀) (F : Fr h₀ L s.heap m) (X : (hd.heap_39 w.params).In h₀) (T : Top p loose mean mg mb h₀) (hcs : cs.kind = .function)
    (hdp : dp + 3 < recursionLimit) (hun : un + 40 < cLine) (hv : Thing s.heap v) (hd : d ∈ doorsL)
    (hE : Flies base s.heap (envX cn cs L a ccd cl :: outer) E s) :
    wpAny (model PySem.Challenge.rw_dn0160_04.row.prog w) (ktrTop dp un gd cn cs L a ccd cl outer) (call (.ref d) [v]) Q E s := by
  simp only [doorsL, List.mem_cons, List.not_mem_nil, or_false] at hd
  rcases hd with rfl | rfl | rfl | rfl | rfl | rfl | rfl | rfl | rfl | rfl
  · exact fifo_raises B F X T hcs (by omega) (by omega) hv hE
  · exact chr_raises B F X T hcs (by omega) (by omega) hv hE
  · exact dir_raises B F X T hcs (by omega) (by omega) hv hE
  · exact blk_raises B F X T hcs (by omega) (by omega) hv hE
  · exact reg_raises B F X T hcs (by omega) (by omega) hv hE
  · exact lnk_raises B F X T hcs (by omega) (by omega) hv hE
  · exact sock_raises B F X T hcs (by omega) (by omega) hv hE
  · exact ifmt_raises B F X T hcs (by omega) (by omega) hv hE
  · exact imode_raises B F X T hcs (by omega) (by omega) hv hE
  · exact fm_raises B F X T hcs (by omega) (by omega) hv hE
theorem told_raises {w : World} {p : Program} {loose : List Str} {mean : ExcName → Option Value} {mg mb : Str → Option Value}
    {dp un : Nat} {gd : Option (List Code)} {cn : Str} {cs : Scope} {a : Addr} {ccd : Value} {cl : List (Str × Addr)} {A₀ : Around} {base h₀ : Heap} {L : Addr} {m : Str → Option Value} {s : Shared} {Q E : Value → Shared → Prop} {v : Value} {d : Addr}
    (B : Below A₀ base [] h₀) (F : Fr h₀ L s.heap m) (X : (hd.heap_39 w.params).In h₀) (T : Top p loose mean mg mb h₀) (hcs : cs.kind = .function)
    (hdp : dp + 4 < recursionLimit) (hun : un + 60 < cLine) (hv : Thing s.heap v) (hd : d ∈ doorsL)
    (hret : ∀ (h' g' : Heap) (tk' : Nat) (t : Tok), KtsTurn [L] s.heap g' → (∀ b o, g'.get? b = some o → h'.get? b = some o) → Q (.str (Str.ofString "TypeError") t) { s with heap := h', toks := tk' }) :
    wpAny (model PySem.Challenge.rw_dn0160_04.row.prog w) (ktrTop dp un gd cn cs L a ccd cl []) (call (.ref 145) [.ref d, v]) Q E s := by
  w_top off
  have B₀ : Below A₀ h₀ [] h₀ := ⟨B.stack, fun _ _ e => e, trivial⟩
  have D₀ : KtsDicts ((envX cn cs L a ccd cl :: []).filterMap (·.frame)) s.heap := by
    intro b hb
    obtain ⟨o, es, ep, ho, hd, _⟩ := F.ns
    have : b = L := by simpa using hb
    exact ⟨o, es, ep, this ▸ ho, hd⟩
  revert X; k_fill; intro X
  refine' call_pureT B₀ F X T ?kA ?kF ?kK ?ho ?hcd ?hroom ?hb ?hl ?_ ?c1 ?c2 ?c3 ?c4
  walk_at "MyEnter"
  intro L' h₁ tk₀ F' N' B' X' T'
  replace F' : Fr s.heap L' h₁ (fun y => List.lookup y [(Str.ofString "thing", v), (Str.ofString "door", Value.ref d)]) := F'
  have hv' := hv.keeps F'.keep
  have hd' := hd
  simp only [doorsL, List.mem_cons, List.not_mem_nil, or_false] at hd'
  rcases hd' with rfl | rfl | rfl | rfl | rfl | rfl | rfl | rfl | rfl | rfl
  all_goals
    k_steps
    rename Fr _ _ _ _ => F1
    refine door_raises B' F1 X' T' rfl ?_ ?_ hv' hd ?_
    · ktr_room
    · ktr_units
    intro h₂ tk₂ e R U
    refine caught_SN0 (x := Str.ofString "TypeError") (T' := "TypeError") (g₀ := s.heap) R F1 B' U X T D₀ KtsTurn.refl ?ex PyProof.Rows.Boot.«TypeError» (by decide) PySem.F.isExc_TypeError PySem.F.notTuple_TypeError PySem.F.self_TypeError ?_ rfl rfl (by decide) PassesOwnAt.never
    case ex => k_is
    intro h₃ g₃ K3 F3 N3 B3 X3 T3 D3
    clear B' F1 X' T' D₀ N' U R
    k_steps
    rename Fr _ _ _ _ => F4
    exact hret _ g₃ _ _ K3 F4.keep
end Mine
namespace Mine
local macro_rules | `(tactic| walk_at "execs nil") => `(tactic| (k_here; (dsimp only); k_gentoks))
local macro_rules | `(tactic| walk_at "execs cons") => `(tactic| (k_here; (dsimp only); k_gentoks))
local macro_rules | `(tactic| walk_at "MyEnter") => `(tactic| (k_dflt ((case kA => exact rfl); (case kF => exact rfl); (case kK => assumption); (case ho => k_is); (case hcd => k_is); (case hroom => ktr_room); (case hb => exact BindsTo.of_eq rfl); (case hl => exact locs rfl); (case c1 => exact rfl); (case c2 => exact rfl); (case c3 => exact rfl); (case c4 => decide); k_whole)))
local macro_rules | `(tactic| walk_at "MyOff") => `(tactic| repeat' (first | exact off0 | exact nmem0 | (refine off1 ?_ ?_) | (refine nmem1 (by k_ne) ?_)))
local macro_rules | `(tactic| walk_at "MyIdx") => `(tactic| first | omega | l_idx | (split <;> omega))
local macro_rules | `(tactic| walk_at "MyStrs") => `(tactic| first | assumption | exact StrsAre.cons _ _ StrsAre.nil | (repeat' (first | exact StrsAre.nil | refine StrsAre.cons _ _ ?_)))
local macro_rules | `(tactic| walk_at "call builtin:str.join") => `(tactic| (k_here; (with_reducible show wpAny _ _ (call (Value.builtin "str.join") [Value.str _ _, Value.ref _]) _ _ _); k_dflt (refine' join_listW ?l ?i ?s ?w ?_; (case l => kmk_list); (case i => walk_at "MyStrs"); (case s => decide); (case w => first | decide | exact fmSigns_weight _); k_whole); intro t9 k9))
local macro_rules | `(tactic| walk_at "call type:list") => `(tactic| (k_here; (with_reducible show wpAny _ _ (call (Value.type _) [Value.str _ _]) _ _ _); k_dflt (refine' list_strN ?hh ?F ?N ?_ ?z; (case hh => exact rfl); (case F => k_asm); (case N => k_asm); (case z => decide)); intro D' ys' n' h' tk' F' N' l1 hI'; (try k_lt l1); (try k_sweep)))
local macro_rules | `(tactic| walk_at "MySize") => `(tactic| ((simp only [sizeLine_eq, List.length_append, List.length_cons, List.length_nil, List.length_take, List.length_drop, List.length_set]); omega))
local macro_rules | `(tactic| walk_at "eval IfExp") => `(tactic| (k_here; (with_reducible show wpAny _ _ (eval (PySem.Expr.IfExp _ (PySem.Expr.Constant (PySem.Const.int _) _ _) (PySem.Expr.Constant (PySem.Const.int _) _ _) _) _) _ _ _); refine ifexp_ints ?_))
local macro_rules | `(tactic| walk_at "subscriptTail") => `(tactic| (k_here; (with_reducible show wpAny _ _ (subscriptTail _ _ (Value.ref _) (Value.int _ _)) _ _ _); k_dflt (refine' strs_item ?l ?ss ?a ?b ?c ?_ ?s; (case l => kmk_list); (case ss => assumption); (case a => walk_at "MyIdx"); (case b => walk_at "MyIdx"); (case c => walk_at "MyIdx"); (case s => with_unfolding_all rfl); k_whole); intro t9))
local macro_rules | `(tactic| walk_at "subscriptTail Name Slice ref ref") => `(tactic| (k_here; (with_reducible show wpAny _ _ (subscriptTail _ (PySem.Expr.Slice _ _ none _) (Value.ref _) (Value.ref _)) _ _ _); k_dflt (refine' slice_strs ?F ?N ?l ?p ?q ?m ?_ ?s ?t ?z; (case F => k_asm); (case N => k_asm); (case l => kmk_list); (case p => kmk_part); (case q => kmk_part); (case m => first | exact strs_upto (by assumption) (by walk_at "MyIdx") | exact strs_from (by assumption) (by walk_at "MyIdx") | exact strs_run (by assumption) (by walk_at "MyIdx") (by walk_at "MyIdx") (by walk_at "MyIdx")); (case s => with_unfolding_all rfl); (case t => kmk_pure); (case z => exact strs_fit (by assumption) (by assumption) (by decide))); intro D' ws' h' F' N' l1 hI'; (try k_lt l1); (try k_sweep)))
local macro_rules | `(tactic| walk_at "binaryOp Add ref ref") => `(tactic| (k_here; (with_reducible show wpAny _ _ (binaryOp _ (Value.ref _) (Value.ref _)) _ _ _); k_dflt (refine' cat_strs ?F ?N ?a ?b ?i ?j ?_ ?z; (case F => k_asm); (case N => k_asm); (case a => kmk_list); (case b => kmk_list); (case i => walk_at "MyStrs"); (case j => walk_at "MyStrs"); (case z => walk_at "MySize")); intro D' ws' h' F' N' l1 hI'; (try k_lt l1); (try k_sweep)))
theorem door_never {w : World} {p : Program} {loose : List Str} {mean : ExcName → Option Value} {mg mb : Str → Option Value} {v : Value}
    {dp un : Nat} {gd : Option (List Code)} {cn : Str} {cs : Scope} {a : Addr} {ccd : Value} {cl : List (Str × Addr)} {outer : List Env} {A₀ : Around} {base h₀ : Heap} {L : Addr} {m : Str → Option Value} {s : Shared} {Q E : Value → Shared → Prop}
    (B : Below A₀ base outer h₀) (F : Fr h₀ L s.heap m) (X : (hd.heap_39 w.params).In h₀) (T : Top p loose mean mg mb h₀) (hcs : cs.kind = .function)
    (hdp : dp + 1 < recursionLimit) (hun : un + 10 < cLine) 
    (hret : ∀ (h' : Heap) (tk' : Nat), (∀ b o, s.heap.get? b = some o → h'.get? b = some o) → Q (.bool false) { s with heap := h', toks := tk' }) :
    wpAny (model PySem.Challenge.rw_dn0160_04.row.prog w) (ktrTop dp un gd cn cs L a ccd cl outer) (call (.ref 84) [v]) Q E s := by
  w_top off
  revert X; k_fill; intro X
  refine' call_pureT B F X T ?kA ?kF ?kK ?ho ?hcd ?hroom ?hb ?hl ?_ ?c1 ?c2 ?c3 ?c4
  walk_at "MyEnter"
  intro L' h₁ tk₀ F' N' B' X' T'
  clear B F X T
  replace F' : Fr s.heap L' h₁ (fun y => List.lookup y [(Str.ofString "mode", v)]) := F'
  k_steps
  rename Fr _ _ _ _ => F1
  exact hret _ _ F1.keep
theorem port_never {w : World} {p : Program} {loose : List Str} {mean : ExcName → Option Value} {mg mb : Str → Option Value} {v : Value}
    {dp un : Nat} {gd : Option (List Code)} {cn : Str} {cs : Scope} {a : Addr} {ccd : Value} {cl : List (Str × Addr)} {outer : List Env} {A₀ : Around} {base h₀ : Heap} {L : Addr} {m : Str → Option Value} {s : Shared} {Q E : Value → Shared → Prop}
    (B : Below A₀ base outer h₀) (F : Fr h₀ L s.heap m) (X : (hd.heap_39 w.params).In h₀) (T : Top p loose mean mg mb h₀) (hcs : cs.kind = .function)
    (hdp : dp + 1 < recursionLimit) (hun : un + 10 < cLine) 
    (hret : ∀ (h' : Heap) (tk' : Nat), (∀ b o, s.heap.get? b = some o → h'.get? b = some o) → Q (.bool false) { s with heap := h', toks := tk' }) :
    wpAny (model PySem.Challenge.rw_dn0160_04.row.prog w) (ktrTop dp un gd cn cs L a ccd cl outer) (call (.ref 91) [v]) Q E s := by
  w_top off
  revert X; k_fill; intro X
  refine' call_pureT B F X T ?kA ?kF ?kK ?ho ?hcd ?hroom ?hb ?hl ?_ ?c1 ?c2 ?c3 ?c4
  walk_at "MyEnter"
  intro L' h₁ tk₀ F' N' B' X' T'
  clear B F X T
  replace F' : Fr s.heap L' h₁ (fun y => List.lookup y [(Str.ofString "mode", v)]) := F'
  k_steps
  rename Fr _ _ _ _ => F1
  exact hret _ _ F1.keep
theorem wht_never {w : World} {p : Program} {loose : List Str} {mean : ExcName → Option Value} {mg mb : Str → Option Value} {v : Value}
    {dp un : Nat} {gd : Option (List Code)} {cn : Str} {cs : Scope} {a : Addr} {ccd : Value} {cl : List (Str × Addr)} {outer : List Env} {A₀ : Around} {base h₀ : Heap} {L : Addr} {m : Str → Option Value} {s : Shared} {Q E : Value → Shared → Prop}
    (B : Below A₀ base outer h₀) (F : Fr h₀ L s.heap m) (X : (hd.heap_39 w.params).In h₀) (T : Top p loose mean mg mb h₀) (hcs : cs.kind = .function)
    (hdp : dp + 1 < recursionLimit) (hun : un + 10 < cLine) 
    (hret : ∀ (h' : Heap) (tk' : Nat), (∀ b o, s.heap.get? b = some o → h'.get? b = some o) → Q (.bool false) { s with heap := h', toks := tk' }) :
    wpAny (model PySem.Challenge.rw_dn0160_04.row.prog w) (ktrTop dp un gd cn cs L a ccd cl outer) (call (.ref 98) [v]) Q E s := by
  w_top off
  revert X; k_fill; intro X
  refine' call_pureT B F X T ?kA ?kF ?kK ?ho ?hcd ?hroom ?hb ?hl ?_ ?c1 ?c2 ?c3 ?c4
  walk_at "MyEnter"
  intro L' h₁ tk₀ F' N' B' X' T'
  clear B F X T
  replace F' : Fr s.heap L' h₁ (fun y => List.lookup y [(Str.ofString "mode", v)]) := F'
  k_steps
  rename Fr _ _ _ _ => F1
  exact hret _ _ F1.keep
theorem imode_contract {w : World} {p : Program} {loose : List Str} {mean : ExcName → Option Value} {mg mb : Str → Option Value} {x : Int} {t1 : Tok}
    {dp un : Nat} {gd : Option (List Code)} {cn : Str} {cs : Scope} {a : Addr} {ccd : Value} {cl : List (Str × Addr)} {outer : List Env} {A₀ : Around} {base h₀ : Heap} {L : Addr} {m : Str → Option Value} {s : Shared} {Q E : Value → Shared → Prop}
    (B : Below A₀ base outer h₀) (F : Fr h₀ L s.heap m) (X : (hd.heap_39 w.params).In h₀) (T : Top p loose mean mg mb h₀) (hcs : cs.kind = .function)
    (hdp : dp + 1 < recursionLimit) (hun : un + 10 < cLine) 
    (hret : ∀ (h' : Heap) (tk' : Nat), (∀ b o, s.heap.get? b = some o → h'.get? b = some o) → ∀ t, Q (.int (Builtin.bitAnd x 4095) t) { s with heap := h', toks := tk' }) :
    wpAny (model PySem.Challenge.rw_dn0160_04.row.prog w) (ktrTop dp un gd cn cs L a ccd cl outer) (call (.ref 21) [.int x t1]) Q E s := by
  w_top off
  revert X; k_fill; intro X
  refine' call_pureT B F X T ?kA ?kF ?kK ?ho ?hcd ?hroom ?hb ?hl ?_ ?c1 ?c2 ?c3 ?c4
  walk_at "MyEnter"
  intro L' h₁ tk₀ F' N' B' X' T'
  clear B F X T
  replace F' : Fr s.heap L' h₁ (fun y => List.lookup y [(Str.ofString "mode", Value.int x t1)]) := F'
  k_steps
  rename Fr _ _ _ _ => F1
  exact hret _ _ F1.keep _
local macro_rules | `(tactic| walk_at "call ref cons nil") => `(tactic| (k_here; (with_reducible show wpAny _ _ (call (Value.ref 28) [Value.int _ _]) _ _ _); k_dflt (refine' ifmt_contract ?k1 ?k2 ?k3 ?k5 ?kK ?kd ?ku ?_; (case k1 => k_asm); (case k2 => k_asm); (case k3 => k_asm); (case k5 => k_asm); (case kK => first | exact rfl | assumption); (case kd => ktr_room); (case ku => ktr_units)); (rename Fr _ _ _ _ => kF9); (rename News _ _ _ _ => kN9); intro t9 h9 tk9 hk9; (have F9 := Fr.keeps kF9 hk9); (have N9 := News.grown kN9 hk9); clear kF9 kN9 hk9; (try dsimp only)))
theorem fifo_contract {w : World} {p : Program} {loose : List Str} {mean : ExcName → Option Value} {mg mb : Str → Option Value} {x : Int} {t1 : Tok}
    {dp un : Nat} {gd : Option (List Code)} {cn : Str} {cs : Scope} {a : Addr} {ccd : Value} {cl : List (Str × Addr)} {outer : List Env} {A₀ : Around} {base h₀ : Heap} {L : Addr} {m : Str → Option Value} {s : Shared} {Q E : Value → Shared → Prop}
    (B : Below A₀ base outer h₀) (F : Fr h₀ L s.heap m) (X : (hd.heap_39 w.params).In h₀) (T : Top p loose mean mg mb h₀) (hcs : cs.kind = .function)
    (hdp : dp + 2 < recursionLimit) (hun : un + 20 < cLine) 
    (hret : ∀ (h' : Heap) (tk' : Nat), (∀ b o, s.heap.get? b = some o → h'.get? b = some o) → Q (.bool (decide (Builtin.bitAnd x 61440 = 4096))) { s with heap := h', toks := tk' }) :
    wpAny (model PySem.Challenge.rw_dn0160_04.row.prog w) (ktrTop dp un gd cn cs L a ccd cl outer) (call (.ref 63) [.int x t1]) Q E s := by
  w_top off
  revert X; k_fill; intro X
  refine' call_pureT B F X T ?kA ?kF ?kK ?ho ?hcd ?hroom ?hb ?hl ?_ ?c1 ?c2 ?c3 ?c4
  walk_at "MyEnter"
  intro L' h₁ tk₀ F' N' B' X' T'
  clear B F X T
  replace F' : Fr s.heap L' h₁ (fun y => List.lookup y [(Str.ofString "mode", Value.int x t1)]) := F'
  k_steps
  rename Fr _ _ _ _ => F1
  exact hret _ _ F1.keep
theorem chr_contract {w : World} {p : Program} {loose : List Str} {mean : ExcName → Option Value} {mg mb : Str → Option Value} {x : Int} {t1 : Tok}
    {dp un : Nat} {gd : Option (List Code)} {cn : Str} {cs : Scope} {a : Addr} {ccd : Value} {cl : List (Str × Addr)} {outer : List Env} {A₀ : Around} {base h₀ : Heap} {L : Addr} {m : Str → Option Value} {s : Shared} {Q E : Value → Shared → Prop}
    (B : Below A₀ base outer h₀) (F : Fr h₀ L s.heap m) (X : (hd.heap_39 w.params).In h₀) (T : Top p loose mean mg mb h₀) (hcs : cs.kind = .function)
    (hdp : dp + 2 < recursionLimit) (hun : un + 20 < cLine) 
    (hret : ∀ (h' : Heap) (tk' : Nat), (∀ b o, s.heap.get? b = some o → h'.get? b = some o) → Q (.bool (decide (Builtin.bitAnd x 61440 = 8192))) { s with heap := h', toks := tk' }) :
    wpAny (model PySem.Challenge.rw_dn0160_04.row.prog w) (ktrTop dp un gd cn cs L a ccd cl outer) (call (.ref 42) [.int x t1]) Q E s := by
  w_top off
  revert X; k_fill; intro X
  refine' call_pureT B F X T ?kA ?kF ?kK ?ho ?hcd ?hroom ?hb ?hl ?_ ?c1 ?c2 ?c3 ?c4
  walk_at "MyEnter"
  intro L' h₁ tk₀ F' N' B' X' T'
  clear B F X T
  replace F' : Fr s.heap L' h₁ (fun y => List.lookup y [(Str.ofString "mode", Value.int x t1)]) := F'
  k_steps
  rename Fr _ _ _ _ => F1
  exact hret _ _ F1.keep
theorem dir_contract {w : World} {p : Program} {loose : List Str} {mean : ExcName → Option Value} {mg mb : Str → Option Value} {x : Int} {t1 : Tok}
    {dp un : Nat} {gd : Option (List Code)} {cn : Str} {cs : Scope} {a : Addr} {ccd : Value} {cl : List (Str × Addr)} {outer : List Env} {A₀ : Around} {base h₀ : Heap} {L : Addr} {m : Str → Option Value} {s : Shared} {Q E : Value → Shared → Prop}
    (B : Below A₀ base outer h₀) (F : Fr h₀ L s.heap m) (X : (hd.heap_39 w.params).In h₀) (T : Top p loose mean mg mb h₀) (hcs : cs.kind = .function)
    (hdp : dp + 2 < recursionLimit) (hun : un + 20 < cLine) 
    (hret : ∀ (h' : Heap) (tk' : Nat), (∀ b o, s.heap.get? b = some o → h'.get? b = some o) → Q (.bool (decide (Builtin.bitAnd x 61440 = 16384))) { s with heap := h', toks := tk' }) :
    wpAny (model PySem.Challenge.rw_dn0160_04.row.prog w) (ktrTop dp un gd cn cs L a ccd cl outer) (call (.ref 35) [.int x t1]) Q E s := by
  w_top off
  revert X; k_fill; intro X
  refine' call_pureT B F X T ?kA ?kF ?kK ?ho ?hcd ?hroom ?hb ?hl ?_ ?c1 ?c2 ?c3 ?c4
  walk_at "MyEnter"
  intro L' h₁ tk₀ F' N' B' X' T'
  clear B F X T
  replace F' : Fr s.heap L' h₁ (fun y => List.lookup y [(Str.ofString "mode", Value.int x t1)]) := F'
  k_steps
  rename Fr _ _ _ _ => F1
  exact hret _ _ F1.keep
theorem blk_contract {w : World} {p : Program} {loose : List Str} {mean : ExcName → Option Value} {mg mb : Str → Option Value} {x : Int} {t1 : Tok}
    {dp un : Nat} {gd : Option (List Code)} {cn : Str} {cs : Scope} {a : Addr} {ccd : Value} {cl : List (Str × Addr)} {outer : List Env} {A₀ : Around} {base h₀ : Heap} {L : Addr} {m : Str → Option Value} {s : Shared} {Q E : Value → Shared → Prop}
    (B : Below A₀ base outer h₀) (F : Fr h₀ L s.heap m) (X : (hd.heap_39 w.params).In h₀) (T : Top p loose mean mg mb h₀) (hcs : cs.kind = .function)
    (hdp : dp + 2 < recursionLimit) (hun : un + 20 < cLine) 
    (hret : ∀ (h' : Heap) (tk' : Nat), (∀ b o, s.heap.get? b = some o → h'.get? b = some o) → Q (.bool (decide (Builtin.bitAnd x 61440 = 24576))) { s with heap := h', toks := tk' }) :
    wpAny (model PySem.Challenge.rw_dn0160_04.row.prog w) (ktrTop dp un gd cn cs L a ccd cl outer) (call (.ref 49) [.int x t1]) Q E s := by
  w_top off
  revert X; k_fill; intro X
  refine' call_pureT B F X T ?kA ?kF ?kK ?ho ?hcd ?hroom ?hb ?hl ?_ ?c1 ?c2 ?c3 ?c4
  walk_at "MyEnter"
  intro L' h₁ tk₀ F' N' B' X' T'
  clear B F X T
  replace F' : Fr s.heap L' h₁ (fun y => List.lookup y [(Str.ofString "mode", Value.int x t1)]) := F'
  k_steps
  rename Fr _ _ _ _ => F1
  exact hret _ _ F1.keep
theorem reg_contract {w : World} {p : Program} {loose : List Str} {mean : ExcName → Option Value} {mg mb : Str → Option Value} {x : Int} {t1 : Tok}
    {dp un : Nat} {gd : Option (List Code)} {cn : Str} {cs : Scope} {a : Addr} {ccd : Value} {cl : List (Str × Addr)} {outer : List Env} {A₀ : Around} {base h₀ : Heap} {L : Addr} {m : Str → Option Value} {s : Shared} {Q E : Value → Shared → Prop}
    (B : Below A₀ base outer h₀) (F : Fr h₀ L s.heap m) (X : (hd.heap_39 w.params).In h₀) (T : Top p loose mean mg mb h₀) (hcs : cs.kind = .function)
    (hdp : dp + 2 < recursionLimit) (hun : un + 20 < cLine) 
    (hret : ∀ (h' : Heap) (tk' : Nat), (∀ b o, s.heap.get? b = some o → h'.get? b = some o) → Q (.bool (decide (Builtin.bitAnd x 61440 = 32768))) { s with heap := h', toks := tk' }) :
    wpAny (model PySem.Challenge.rw_dn0160_04.row.prog w) (ktrTop dp un gd cn cs L a ccd cl outer) (call (.ref 56) [.int x t1]) Q E s := by
  w_top off
  revert X; k_fill; intro X
  refine' call_pureT B F X T ?kA ?kF ?kK ?ho ?hcd ?hroom ?hb ?hl ?_ ?c1 ?c2 ?c3 ?c4
  walk_at "MyEnter"
  intro L' h₁ tk₀ F' N' B' X' T'
  clear B F X T
  replace F' : Fr s.heap L' h₁ (fun y => List.lookup y [(Str.ofString "mode", Value.int x t1)]) := F'
  k_steps
  rename Fr _ _ _ _ => F1
  exact hret _ _ F1.keep
theorem lnk_contract {w : World} {p : Program} {loose : List Str} {mean : ExcName → Option Value} {mg mb : Str → Option Value} {x : Int} {t1 : Tok}
    {dp un : Nat} {gd : Option (List Code)} {cn : Str} {cs : Scope} {a : Addr} {ccd : Value} {cl : List (Str × Addr)} {outer : List Env} {A₀ : Around} {base h₀ : Heap} {L : Addr} {m : Str → Option Value} {s : Shared} {Q E : Value → Shared → Prop}
    (B : Below A₀ base outer h₀) (F : Fr h₀ L s.heap m) (X : (hd.heap_39 w.params).In h₀) (T : Top p loose mean mg mb h₀) (hcs : cs.kind = .function)
    (hdp : dp + 2 < recursionLimit) (hun : un + 20 < cLine) 
    (hret : ∀ (h' : Heap) (tk' : Nat), (∀ b o, s.heap.get? b = some o → h'.get? b = some o) → Q (.bool (decide (Builtin.bitAnd x 61440 = 40960))) { s with heap := h', toks := tk' }) :
    wpAny (model PySem.Challenge.rw_dn0160_04.row.prog w) (ktrTop dp un gd cn cs L a ccd cl outer) (call (.ref 70) [.int x t1]) Q E s := by
  w_top off
  revert X; k_fill; intro X
  refine' call_pureT B F X T ?kA ?kF ?kK ?ho ?hcd ?hroom ?hb ?hl ?_ ?c1 ?c2 ?c3 ?c4
  walk_at "MyEnter"
  intro L' h₁ tk₀ F' N' B' X' T'
  clear B F X T
  replace F' : Fr s.heap L' h₁ (fun y => List.lookup y [(Str.ofString "mode", Value.int x t1)]) := F'
  k_steps
  rename Fr _ _ _ _ => F1
  exact hret _ _ F1.keep
theorem sock_contract {w : World} {p : Program} {loose : List Str} {mean : ExcName → Option Value} {mg mb : Str → Option Value} {x : Int} {t1 : Tok}
    {dp un : Nat} {gd : Option (List Code)} {cn : Str} {cs : Scope} {a : Addr} {ccd : Value} {cl : List (Str × Addr)} {outer : List Env} {A₀ : Around} {base h₀ : Heap} {L : Addr} {m : Str → Option Value} {s : Shared} {Q E : Value → Shared → Prop}
    (B : Below A₀ base outer h₀) (F : Fr h₀ L s.heap m) (X : (hd.heap_39 w.params).In h₀) (T : Top p loose mean mg mb h₀) (hcs : cs.kind = .function)
    (hdp : dp + 2 < recursionLimit) (hun : un + 20 < cLine) 
    (hret : ∀ (h' : Heap) (tk' : Nat), (∀ b o, s.heap.get? b = some o → h'.get? b = some o) → Q (.bool (decide (Builtin.bitAnd x 61440 = 49152))) { s with heap := h', toks := tk' }) :
    wpAny (model PySem.Challenge.rw_dn0160_04.row.prog w) (ktrTop dp un gd cn cs L a ccd cl outer) (call (.ref 77) [.int x t1]) Q E s := by
  w_top off
  revert X; k_fill; intro X
  refine' call_pureT B F X T ?kA ?kF ?kK ?ho ?hcd ?hroom ?hb ?hl ?_ ?c1 ?c2 ?c3 ?c4
  walk_at "MyEnter"
  intro L' h₁ tk₀ F' N' B' X' T'
  clear B F X T
  replace F' : Fr s.heap L' h₁ (fun y => List.lookup y [(Str.ofString "mode", Value.int x t1)]) := F'
  k_steps
  rename Fr _ _ _ _ => F1
  exact hret _ _ F1.keep
local macro_rules | `(tactic| walk_at "call ref cons nil") => `(tactic| (k_here; (with_reducible show wpAny _ _ (call (Value.ref 84) [_]) _ _ _); k_dflt (refine' door_never ?k1 ?k2 ?k3 ?k5 ?kK ?kd ?ku  ?_; (case k1 => k_asm); (case k2 => k_asm); (case k3 => k_asm); (case k5 => k_asm); (case kK => first | exact rfl | assumption); (case kd => ktr_room); (case ku => ktr_units);  skip); (rename Fr _ _ _ _ => kF9); (rename News _ _ _ _ => kN9); intro h9 tk9 hk9 ; (have F9 := Fr.keeps kF9 hk9); (have N9 := News.grown kN9 hk9);  clear kF9 kN9 hk9; (try dsimp only)))
local macro_rules | `(tactic| walk_at "call ref cons nil") => `(tactic| (k_here; (with_reducible show wpAny _ _ (call (Value.ref 91) [_]) _ _ _); k_dflt (refine' port_never ?k1 ?k2 ?k3 ?k5 ?kK ?kd ?ku  ?_; (case k1 => k_asm); (case k2 => k_asm); (case k3 => k_asm); (case k5 => k_asm); (case kK => first | exact rfl | assumption); (case kd => ktr_room); (case ku => ktr_units);  skip); (rename Fr _ _ _ _ => kF9); (rename News _ _ _ _ => kN9); intro h9 tk9 hk9 ; (have F9 := Fr.keeps kF9 hk9); (have N9 := News.grown kN9 hk9);  clear kF9 kN9 hk9; (try dsimp only)))
local macro_rules | `(tactic| walk_at "call ref cons nil") => `(tactic| (k_here; (with_reducible show wpAny _ _ (call (Value.ref 98) [_]) _ _ _); k_dflt (refine' wht_never ?k1 ?k2 ?k3 ?k5 ?kK ?kd ?ku  ?_; (case k1 => k_asm); (case k2 => k_asm); (case k3 => k_asm); (case k5 => k_asm); (case kK => first | exact rfl | assumption); (case kd => ktr_room); (case ku => ktr_units);  skip); (rename Fr _ _ _ _ => kF9); (rename News _ _ _ _ => kN9); intro h9 tk9 hk9 ; (have F9 := Fr.keeps kF9 hk9); (have N9 := News.grown kN9 hk9);  clear kF9 kN9 hk9; (try dsimp only)))
theorem told_never {w : World} {p : Program} {loose : List Str} {mean : ExcName → Option Value} {mg mb : Str → Option Value} {d : Addr} {v : Value}
    {dp un : Nat} {gd : Option (List Code)} {cn : Str} {cs : Scope} {a : Addr} {ccd : Value} {cl : List (Str × Addr)} {outer : List Env} {A₀ : Around} {base h₀ : Heap} {L : Addr} {m : Str → Option Value} {s : Shared} {Q E : Value → Shared → Prop}
    (B : Below A₀ base outer h₀) (F : Fr h₀ L s.heap m) (X : (hd.heap_39 w.params).In h₀) (T : Top p loose mean mg mb h₀) (hcs : cs.kind = .function)
    (hdp : dp + 3 < recursionLimit) (hun : un + 30 < cLine) (hd : d = 84 ∨ d = 91 ∨ d = 98)
    (hret : ∀ (h' : Heap) (tk' : Nat), (∀ b o, s.heap.get? b = some o → h'.get? b = some o) → Q (.bool false) { s with heap := h', toks := tk' }) :
    wpAny (model PySem.Challenge.rw_dn0160_04.row.prog w) (ktrTop dp un gd cn cs L a ccd cl outer) (call (.ref 145) [.ref d, v]) Q E s := by
  w_top off
  revert X; k_fill; intro X
  refine' call_pureT B F X T ?kA ?kF ?kK ?ho ?hcd ?hroom ?hb ?hl ?_ ?c1 ?c2 ?c3 ?c4
  walk_at "MyEnter"
  intro L' h₁ tk₀ F' N' B' X' T'
  clear B F X T
  replace F' : Fr s.heap L' h₁ (fun y => List.lookup y [(Str.ofString "thing", v), (Str.ofString "door", Value.ref d)]) := F'
  rcases hd with rfl | rfl | rfl
  all_goals
    k_steps
    rename Fr _ _ _ _ => F1
    exact hret _ _ F1.keep
end Mine
namespace Mine
local macro_rules | `(tactic| walk_at "execs nil") => `(tactic| (k_here; (dsimp only); k_gentoks))
local macro_rules | `(tactic| walk_at "execs cons") => `(tactic| (k_here; (dsimp only); k_gentoks))
local macro_rules | `(tactic| walk_at "MyEnter") => `(tactic| (k_dflt ((case kA => exact rfl); (case kF => exact rfl); (case kK => assumption); (case ho => k_is); (case hcd => k_is); (case hroom => ktr_room); (case hb => exact BindsTo.of_eq rfl); (case hl => exact locs rfl); (case c1 => exact rfl); (case c2 => exact rfl); (case c3 => exact rfl); (case c4 => decide); k_whole)))
local macro_rules | `(tactic| walk_at "MyOff") => `(tactic| repeat' (first | exact off0 | exact nmem0 | (refine off1 ?_ ?_) | (refine nmem1 (by k_ne) ?_)))
local macro_rules | `(tactic| walk_at "MyIdx") => `(tactic| first | omega | l_idx | (split <;> omega))
local macro_rules | `(tactic| walk_at "MyStrs") => `(tactic| first | assumption | exact StrsAre.cons _ _ StrsAre.nil | (repeat' (first | exact StrsAre.nil | refine StrsAre.cons _ _ ?_)))
local macro_rules | `(tactic| walk_at "call builtin:str.join") => `(tactic| (k_here; (with_reducible show wpAny _ _ (call (Value.builtin "str.join") [Value.str _ _, Value.ref _]) _ _ _); k_dflt (refine' join_listW ?l ?i ?s ?w ?_; (case l => kmk_list); (case i => walk_at "MyStrs"); (case s => decide); (case w => first | decide | exact fmSigns_weight _); k_whole); intro t9 k9))
local macro_rules | `(tactic| walk_at "call type:list") => `(tactic| (k_here; (with_reducible show wpAny _ _ (call (Value.type _) [Value.str _ _]) _ _ _); k_dflt (refine' list_strN ?hh ?F ?N ?_ ?z; (case hh => exact rfl); (case F => k_asm); (case N => k_asm); (case z => decide)); intro D' ys' n' h' tk' F' N' l1 hI'; (try k_lt l1); (try k_sweep)))
local macro_rules | `(tactic| walk_at "MySize") => `(tactic| ((simp only [sizeLine_eq, List.length_append, List.length_cons, List.length_nil, List.length_take, List.length_drop, List.length_set]); omega))
local macro_rules | `(tactic| walk_at "eval IfExp") => `(tactic| (k_here; (with_reducible show wpAny _ _ (eval (PySem.Expr.IfExp _ (PySem.Expr.Constant (PySem.Const.int _) _ _) (PySem.Expr.Constant (PySem.Const.int _) _ _) _) _) _ _ _); refine ifexp_ints ?_))
local macro_rules | `(tactic| walk_at "subscriptTail") => `(tactic| (k_here; (with_reducible show wpAny _ _ (subscriptTail _ _ (Value.ref _) (Value.int _ _)) _ _ _); k_dflt (refine' strs_item ?l ?ss ?a ?b ?c ?_ ?s; (case l => kmk_list); (case ss => assumption); (case a => walk_at "MyIdx"); (case b => walk_at "MyIdx"); (case c => walk_at "MyIdx"); (case s => with_unfolding_all rfl); k_whole); intro t9))
local macro_rules | `(tactic| walk_at "subscriptTail Name Slice ref ref") => `(tactic| (k_here; (with_reducible show wpAny _ _ (subscriptTail _ (PySem.Expr.Slice _ _ none _) (Value.ref _) (Value.ref _)) _ _ _); k_dflt (refine' slice_strs ?F ?N ?l ?p ?q ?m ?_ ?s ?t ?z; (case F => k_asm); (case N => k_asm); (case l => kmk_list); (case p => kmk_part); (case q => kmk_part); (case m => first | exact strs_upto (by assumption) (by walk_at "MyIdx") | exact strs_from (by assumption) (by walk_at "MyIdx") | exact strs_run (by assumption) (by walk_at "MyIdx") (by walk_at "MyIdx") (by walk_at "MyIdx")); (case s => with_unfolding_all rfl); (case t => kmk_pure); (case z => exact strs_fit (by assumption) (by assumption) (by decide))); intro D' ws' h' F' N' l1 hI'; (try k_lt l1); (try k_sweep)))
local macro_rules | `(tactic| walk_at "binaryOp Add ref ref") => `(tactic| (k_here; (with_reducible show wpAny _ _ (binaryOp _ (Value.ref _) (Value.ref _)) _ _ _); k_dflt (refine' cat_strs ?F ?N ?a ?b ?i ?j ?_ ?z; (case F => k_asm); (case N => k_asm); (case a => kmk_list); (case b => kmk_list); (case i => walk_at "MyStrs"); (case j => walk_at "MyStrs"); (case z => walk_at "MySize")); intro D' ws' h' F' N' l1 hI'; (try k_lt l1); (try k_sweep)))
/-- the body of the law's loop -/
def turnBody (K : Frag) : List Stmt := match fnBody K 150 with
  | [_, _, _, .For _ _ b _ _, _] => b
  | _ => []
theorem ints_of : ∀ {n : Nat} {ys : List Value} {f : Nat → Int}, ys.length = n → (∀ i v, ys[i]? = some v → ∃ t, v = Value.int (f i) t) → IntsAre ys ((List.range n).map f)
  | 0, [], _, _, _ => .nil
  | n + 1, y :: ys, f, hn, h => by
    obtain ⟨t, rfl⟩ := h 0 y rfl
    rw [List.range_succ_eq_map, List.map_cons, List.map_map]
    exact .cons _ _ (ints_of (f := fun i => f (i + 1)) (by simpa using hn) fun i v hv => h (i + 1) v (by simpa using hv))
theorem bools_of : ∀ {n : Nat} {ys : List Value} {f : Nat → Bool}, ys.length = n → (∀ i v, ys[i]? = some v → v = Value.bool (f i)) → ys = ((List.range n).map f).map Value.bool
  | 0, [], _, _, _ => rfl
  | n + 1, y :: ys, f, hn, h => by
    obtain rfl := h 0 y rfl
    rw [List.range_succ_eq_map, List.map_cons, List.map_map, List.map_cons]
    congr 1
    exact bools_of (f := fun i => f (i + 1)) (by simpa using hn) fun i v hv => h (i + 1) v (by simpa using hv)
/-- shut against the unfolding of what a claim ends in -/
structure Box (p : Prop) : Prop where
  out : p
theorem cat_ints {prog : Program} {w : World} {A : Around} {E : Value → Shared → Prop} {s : Shared} {h₀ : Heap} {L a b : Addr} {m : Str → Option Value} {news : List (Addr × Obj)} {vs ws : List Value} {xs ys : List Int} {Q : Value → Shared → Prop} (F : Fr h₀ L s.heap m) (N : News h₀ L s.heap news) (ha : s.heap.IsList a vs.toArray) (hb : s.heap.IsList b ws.toArray) (hi : IntsAre vs xs) (hj : IntsAre ws ys)
    (hz : xs.length + ys.length ≤ sizeLine) (h : ∀ D us h', Fr h₀ L h' m → News h₀ L h' ((D, listOf (List.toArray us) 0) :: news) → (∀ p ∈ news, p.1 < D) → IntsAre us (xs ++ ys) → Q (.ref D) { s with heap := h' }) :
    wpAny (model prog w) A (binaryOp .Add (.ref a) (.ref b)) Q E s := by
  refine add_lists F N ha hb (fun h' F' N' => ?_) (by rw [hi.length, hj.length]; exact hz)
  exact h _ _ h' F' N' (fun p hp => Heap.lt_size (N p hp).1) (hi.append hj)
theorem fits_long {i : Int} (h0 : -4294967296 ≤ i) (h1 : i ≤ 4294967296) : Builtin.Range.rangeFitsLong i = true := by
  unfold Builtin.Range.rangeFitsLong
  rw [Bool.and_eq_true, decide_eq_true_eq, decide_eq_true_eq]
  exact ⟨by omega, by omega⟩
theorem size_one (n : Nat) : Builtin.Range.rangeSize 0 (n : Int) 1 = (n : Int) := by
  by_cases h : n = 0
  · subst h; decide
  · rw [rangeSize_pos (by decide) (by omega)]; omega
theorem small_one {n : Nat} (h : n ≤ 2 ^ 20 + 16) : Builtin.Range.small 0 (n : Int) 1 = true := by
  unfold Builtin.Range.small
  rw [size_one, fits_long (i := 0) (by decide) (by decide), fits_long (i := (n : Int)) (by omega) (by omega), fits_long (i := 1) (by decide) (by decide), if_pos (by decide), fits_long (i := (n : Int) + (1 - 1)) (by omega) (by omega)]
  simp
theorem news_drop2 {h₀ h : Heap} {L : Addr} {a b d : Addr × Obj} {l : List (Addr × Obj)} (N : News h₀ L h (a :: b :: d :: l)) : News h₀ L h (a :: l) := fun p hp => by
  rcases List.mem_cons.mp hp with rfl | hp
  · exact N _ (.head _)
  · exact N p (.tail _ (.tail _ (.tail _ hp)))
theorem q_items {i : Nat} {v : Value} (h : [Value.ref 63, Value.ref 42, Value.ref 35, Value.ref 49, Value.ref 56, Value.ref 70, Value.ref 77][i]? = some v) : (i = 0 ∧ v = Value.ref 63) ∨ (i = 1 ∧ v = Value.ref 42) ∨ (i = 2 ∧ v = Value.ref 35) ∨ (i = 3 ∧ v = Value.ref 49) ∨ (i = 4 ∧ v = Value.ref 56) ∨ (i = 5 ∧ v = Value.ref 70) ∨ (i = 6 ∧ v = Value.ref 77) := by
  match i, h with
  | 0, h => cases h; simp
  | 1, h => cases h; simp
  | 2, h => cases h; simp
  | 3, h => cases h; simp
  | 4, h => cases h; simp
  | 5, h => cases h; simp
  | 6, h => cases h; simp
  | _ + 7, h => cases h
theorem due_items {t0 t1 t2 t3 t4 t5 t6 : Tok} {i : Nat} {v : Value} (h : [Value.int 1 t0, Value.int 2 t1, Value.int 4 t2, Value.int 6 t3, Value.int 8 t4, Value.int 10 t5, Value.int 12 t6][i]? = some v) : ∃ t, v = Value.int (duesL.getD i 0) t := by
  match i, h with
  | 0, h => cases h; exact ⟨_, rfl⟩
  | 1, h => cases h; exact ⟨_, rfl⟩
  | 2, h => cases h; exact ⟨_, rfl⟩
  | 3, h => cases h; exact ⟨_, rfl⟩
  | 4, h => cases h; exact ⟨_, rfl⟩
  | 5, h => cases h; exact ⟨_, rfl⟩
  | 6, h => cases h; exact ⟨_, rfl⟩
  | _ + 7, h => cases h
theorem ne_bool_is {prog : Program} {w : World} {A : Around} {E : Value → Shared → Prop} {s : Shared} {Q : Value → Shared → Prop} {a b : Bool} (e : a = b) (h : Q (.bool false) s) : wpAny (model prog w) A (compareOp .NotEq (.bool a) (.bool b)) Q E s := by
  subst e
  refine PyProof.Rows.ne_bool ?_
  rw [show (a != a) = false by simp]
  exact h
theorem num_item {prog : Program} {w : World} {A : Around} {E : Value → Shared → Prop} {s : Shared} {value slice : PySem.Expr} {l : Addr} {ws : List Value} {NS : List Int} {k : Int} {u : Tok} {Q : Value → Shared → Prop} (hl : s.heap.IsList l ws.toArray) (hI : IntsAre ws NS) (h1 : 1 ≤ NS.length) (hz : NS.length ≤ 2 ^ 20 + 16) (hk0 : 0 ≤ k) (hk1 : k < (NS.length : Int))
    (h : ∀ y t, Q (.int y t) s) (hs : subscripted slice false (.ref l) (.int (k - 1) u) = operate [.ref l, .int (k - 1) u] (getItem (.ref l) (.int (k - 1) u))) :
    wpAny (model prog w) A (subscriptTail value slice (.ref l) (.int (k - 1) u)) Q E s := by
  have hlen : ws.toArray.size = NS.length := by rw [List.size_toArray, hI.length]
  have get : ∀ i, i < NS.length → ∃ y t, ws.toArray[i]? = some (.int y t) := fun i hi => by
    obtain ⟨t, ht⟩ := hI.get i (NS[i]'hi) (List.getElem?_eq_getElem hi)
    exact ⟨_, t, by simpa using ht⟩
  by_cases h0 : k = 0
  · obtain ⟨y, t, hg⟩ := get (NS.length - 1) (by omega)
    refine tail_any hl.typeIs slot_list_getitem.lookup (wpAny_getItem_list_neg hl (by omega) (by omega) (by omega) (x := .int y t) ?_ (h y t)) hs
    rw [hlen]
    have e : ((k - 1) + (NS.length : Int)).toNat = NS.length - 1 := by omega
    first | rw [e] | skip
    exact hg
  · obtain ⟨y, t, hg⟩ := get (k - 1).toNat (by omega)
    exact tail_any hl.typeIs slot_list_getitem.lookup (wpAny_getItem_list hl (by omega) (by omega) hg (h y t)) hs
theorem text_size (x y : Int) (i : Nat) : (fmSign x i).length + (fmTail y).length ≤ sizeLine := by
  rw [fmSign_len]
  exact Nat.le_trans (show 1 + 9 ≤ 100 by decide) (by decide)
theorem off_of2 {l : List (Addr × Obj)} {I : Addr} (h : ∀ p ∈ l, p.1 ≠ I) : ∀ p ∈ l, p.1 ∉ [I] := fun p hp e => h p hp (List.mem_singleton.mp e)
local macro_rules | `(tactic| walk_at "MyOne") => `(tactic| (k_dflt (refine' comp_one ?c1 ?c2 ?c3 ?c4 ?c5 ?_ ?c8; (case c1 => with_unfolding_all rfl); (case c2 => decide); (case c3 => rfl); (case c4 => decide); (case c5 => rfl); (case c8 => (intro _; rfl)))))
local macro_rules | `(tactic| walk_at "MyOneA") => `(tactic| (k_dflt (refine' comp_oneA ?c0 ?c1 ?c2 ?c3 ?c4 ?c5 ?_ ?c8; (case c0 => with_unfolding_all rfl); (case c1 => with_unfolding_all rfl); (case c2 => decide); (case c3 => rfl); (case c4 => decide); (case c5 => rfl); (case c8 => (intro _; rfl)))))
local macro_rules | `(tactic| walk_at "MyNone") => `(tactic| (k_dflt (refine' comp_none ?c1 ?c2 ?c3 ?c4 ?c5 ?_ ?c8; (case c1 => with_unfolding_all rfl); (case c2 => decide); (case c3 => rfl); (case c4 => decide); (case c5 => rfl); (case c8 => (intro _; rfl)))))
local macro_rules | `(tactic| walk_at "compareOp NotEq ref ref") => `(tactic| (k_here; k_dflt (first
  | (refine' ne_bools (bs := []) ?l ?b ?x ?y ?u ?_; (case l => exact News.isList (by k_asm) (by k_mem)); (case b => exact News.isList (by k_asm) (by k_mem)); (case x => rfl); (case y => rfl); (case u => ktr_units); k_whole)
  | (refine' ne_bools (bs := ansL _) ?l ?b ?x ?y ?u ?_; (case l => exact News.isList (by k_asm) (by k_mem)); (case b => exact News.isList (by k_asm) (by k_mem)); (case x => rfl); (case y => rfl); (case u => ktr_units); k_whole))))
local macro_rules | `(tactic| walk_at "subscriptTail") => `(tactic| (k_here; (with_reducible show wpAny _ _ (subscriptTail _ _ (Value.str (fmText _) _) (Value.int _ _)) _ _ _); k_dflt (refine' fm_item ?a ?b ?_ ?s ?t; (case a => walk_at "MyIdx"); (case b => walk_at "MyIdx"); (case s => with_unfolding_all rfl); (case t => intro _; with_unfolding_all rfl); k_whole); intro t9))
local macro_rules | `(tactic| walk_at "subscriptTail") => `(tactic| (k_here; (with_reducible show wpAny _ _ (subscriptTail _ (PySem.Expr.Slice (some _) none none _) (Value.str (fmText _) _) (Value.ref _)) _ _ _); k_dflt (refine' fm_slice ?F ?N ?_ ?s ?t; (case F => k_asm); (case N => k_asm); (case s => with_unfolding_all rfl); (case t => (intro _; with_unfolding_all rfl)); k_whole); intro h' t' k' F' N'))
local macro_rules | `(tactic| walk_at "subscriptTail") => `(tactic| (k_here; (with_reducible show wpAny _ _ (subscriptTail _ _ (Value.ref _) (Value.int (_ - 1) _)) _ _ _); k_dflt (refine' num_item ?l ?i ?a ?b ?c ?d ?_ ?s; (case l => exact News.isList (by k_asm) (by k_mem)); (case i => assumption); (case a => assumption); (case b => assumption); (case c => assumption); (case d => assumption); (case s => with_unfolding_all rfl); k_whole); intro y9 t9))
local macro_rules | `(tactic| walk_at "binaryOp Add str str") => `(tactic| (k_here; (with_reducible show wpAny _ _ (binaryOp _ (Value.str (fmSign _ _) _) (Value.str (fmTail _) _)) _ _ _); k_dflt (refine' PyProof.Rows.add_str ?_ ?z; (case z => exact text_size _ _ _); k_whole)))
local macro_rules | `(tactic| walk_at "compareOp NotIn bool ref") => `(tactic| (k_here; k_dflt (refine' notin_bools (bs := ansL _) ?l ?x ?_; (case l => exact News.isList (by k_asm) (by k_mem)); (case x => rfl); k_whole)))
local macro_rules | `(tactic| walk_at "compareOp NotEq bool bool") => `(tactic| (k_here; (refine ne_bool_is (ans_none _) ?_)))
local macro_rules | `(tactic| walk_at "compareOp NotEq int int") => `(tactic| (k_here; first | (refine ne_int_is (ifmt_is _) ?_) | (refine ne_int_is (imode_is _) ?_)))
local macro_rules | `(tactic| walk_at "compareOp NotEq str str") => `(tactic| (k_here; (refine ne_str_is (mixed _ _) ?_)))
local macro_rules | `(tactic| walk_at "eval ListComp") => `(tactic| (k_here; refine hold_intro ?_))
local macro_rules | `(tactic| walk_at "exec Assign cons ListComp") => `(tactic| (k_here; refine hold_intro ?_))
local macro_rules | `(tactic| walk_at "pyIter ref") => `(tactic| (k_here; refine hold_intro ?_))
local macro_rules | `(tactic| walk_at "pyIter str") => `(tactic| (k_here; refine hold_intro ?_))
local macro_rules | `(tactic| walk_at "exec For Name Call cons nil") => `(tactic| (k_here; k_dflt (refine wpAny_For ?_ ?hs; (case hs => (intro _; rfl)))))
local macro_rules | `(tactic| walk_at "exec For Name Name cons nil") => `(tactic| (k_here; k_dflt (refine wpAny_For ?_ ?hs; (case hs => (intro _; rfl)))))
local macro_rules | `(tactic| walk_at "exec For Name BinOp cons nil") => `(tactic| (k_here; k_dflt (refine wpAny_For ?_ ?hs; (case hs => (intro _; rfl)))))
local macro_rules | `(tactic| walk_at "call ref cons nil") => `(tactic| (k_here; (with_reducible show wpAny _ _ (call (Value.ref 138) [Value.int _ _]) _ _ _); k_dflt (refine' fm_contract ?k1 ?k2 ?k3 ?k5 ?kK ?kd ?ku  ?_; (case k1 => k_asm); (case k2 => k_asm); (case k3 => k_asm); (case k5 => k_asm); (case kK => first | exact rfl | assumption); (case kd => ktr_room); (case ku => ktr_units);  skip); (rename Fr _ _ _ _ => kF9); (rename News _ _ _ _ => kN9); intro h9 tk9 hk9 t9; (have F9 := Fr.keeps kF9 hk9); (have N9 := News.grown kN9 hk9);  clear kF9 kN9; (try dsimp only)))
local macro_rules | `(tactic| walk_at "call ref cons nil") => `(tactic| (k_here; (with_reducible show wpAny _ _ (call (Value.ref 28) [Value.int _ _]) _ _ _); k_dflt (refine' ifmt_contract ?k1 ?k2 ?k3 ?k5 ?kK ?kd ?ku  ?_; (case k1 => k_asm); (case k2 => k_asm); (case k3 => k_asm); (case k5 => k_asm); (case kK => first | exact rfl | assumption); (case kd => ktr_room); (case ku => ktr_units);  skip); (rename Fr _ _ _ _ => kF9); (rename News _ _ _ _ => kN9); intro t9 h9 tk9 hk9; (have F9 := Fr.keeps kF9 hk9); (have N9 := News.grown kN9 hk9);  clear kF9 kN9; (try dsimp only)))
local macro_rules | `(tactic| walk_at "call ref cons nil") => `(tactic| (k_here; (with_reducible show wpAny _ _ (call (Value.ref 21) [Value.int _ _]) _ _ _); k_dflt (refine' imode_contract ?k1 ?k2 ?k3 ?k5 ?kK ?kd ?ku  ?_; (case k1 => k_asm); (case k2 => k_asm); (case k3 => k_asm); (case k5 => k_asm); (case kK => first | exact rfl | assumption); (case kd => ktr_room); (case ku => ktr_units);  skip); (rename Fr _ _ _ _ => kF9); (rename News _ _ _ _ => kN9); intro h9 tk9 hk9 t9; (have F9 := Fr.keeps kF9 hk9); (have N9 := News.grown kN9 hk9);  clear kF9 kN9; (try dsimp only)))
local macro_rules | `(tactic| walk_at "call ref cons nil") => `(tactic| (k_here; (with_reducible show wpAny _ _ (call (Value.ref 63) [Value.int _ _]) _ _ _); k_dflt (refine' fifo_contract ?k1 ?k2 ?k3 ?k5 ?kK ?kd ?ku  ?_; (case k1 => k_asm); (case k2 => k_asm); (case k3 => k_asm); (case k5 => k_asm); (case kK => first | exact rfl | assumption); (case kd => ktr_room); (case ku => ktr_units);  skip); (rename Fr _ _ _ _ => kF9); (rename News _ _ _ _ => kN9); intro h9 tk9 hk9 ; (have F9 := Fr.keeps kF9 hk9); (have N9 := News.grown kN9 hk9);  clear kF9 kN9; (try dsimp only)))
local macro_rules | `(tactic| walk_at "call ref cons nil") => `(tactic| (k_here; (with_reducible show wpAny _ _ (call (Value.ref 42) [Value.int _ _]) _ _ _); k_dflt (refine' chr_contract ?k1 ?k2 ?k3 ?k5 ?kK ?kd ?ku  ?_; (case k1 => k_asm); (case k2 => k_asm); (case k3 => k_asm); (case k5 => k_asm); (case kK => first | exact rfl | assumption); (case kd => ktr_room); (case ku => ktr_units);  skip); (rename Fr _ _ _ _ => kF9); (rename News _ _ _ _ => kN9); intro h9 tk9 hk9 ; (have F9 := Fr.keeps kF9 hk9); (have N9 := News.grown kN9 hk9);  clear kF9 kN9; (try dsimp only)))
local macro_rules | `(tactic| walk_at "call ref cons nil") => `(tactic| (k_here; (with_reducible show wpAny _ _ (call (Value.ref 35) [Value.int _ _]) _ _ _); k_dflt (refine' dir_contract ?k1 ?k2 ?k3 ?k5 ?kK ?kd ?ku  ?_; (case k1 => k_asm); (case k2 => k_asm); (case k3 => k_asm); (case k5 => k_asm); (case kK => first | exact rfl | assumption); (case kd => ktr_room); (case ku => ktr_units);  skip); (rename Fr _ _ _ _ => kF9); (rename News _ _ _ _ => kN9); intro h9 tk9 hk9 ; (have F9 := Fr.keeps kF9 hk9); (have N9 := News.grown kN9 hk9);  clear kF9 kN9; (try dsimp only)))
local macro_rules | `(tactic| walk_at "call ref cons nil") => `(tactic| (k_here; (with_reducible show wpAny _ _ (call (Value.ref 49) [Value.int _ _]) _ _ _); k_dflt (refine' blk_contract ?k1 ?k2 ?k3 ?k5 ?kK ?kd ?ku  ?_; (case k1 => k_asm); (case k2 => k_asm); (case k3 => k_asm); (case k5 => k_asm); (case kK => first | exact rfl | assumption); (case kd => ktr_room); (case ku => ktr_units);  skip); (rename Fr _ _ _ _ => kF9); (rename News _ _ _ _ => kN9); intro h9 tk9 hk9 ; (have F9 := Fr.keeps kF9 hk9); (have N9 := News.grown kN9 hk9);  clear kF9 kN9; (try dsimp only)))
local macro_rules | `(tactic| walk_at "call ref cons nil") => `(tactic| (k_here; (with_reducible show wpAny _ _ (call (Value.ref 56) [Value.int _ _]) _ _ _); k_dflt (refine' reg_contract ?k1 ?k2 ?k3 ?k5 ?kK ?kd ?ku  ?_; (case k1 => k_asm); (case k2 => k_asm); (case k3 => k_asm); (case k5 => k_asm); (case kK => first | exact rfl | assumption); (case kd => ktr_room); (case ku => ktr_units);  skip); (rename Fr _ _ _ _ => kF9); (rename News _ _ _ _ => kN9); intro h9 tk9 hk9 ; (have F9 := Fr.keeps kF9 hk9); (have N9 := News.grown kN9 hk9);  clear kF9 kN9; (try dsimp only)))
local macro_rules | `(tactic| walk_at "call ref cons nil") => `(tactic| (k_here; (with_reducible show wpAny _ _ (call (Value.ref 70) [Value.int _ _]) _ _ _); k_dflt (refine' lnk_contract ?k1 ?k2 ?k3 ?k5 ?kK ?kd ?ku  ?_; (case k1 => k_asm); (case k2 => k_asm); (case k3 => k_asm); (case k5 => k_asm); (case kK => first | exact rfl | assumption); (case kd => ktr_room); (case ku => ktr_units);  skip); (rename Fr _ _ _ _ => kF9); (rename News _ _ _ _ => kN9); intro h9 tk9 hk9 ; (have F9 := Fr.keeps kF9 hk9); (have N9 := News.grown kN9 hk9);  clear kF9 kN9; (try dsimp only)))
local macro_rules | `(tactic| walk_at "call ref cons nil") => `(tactic| (k_here; (with_reducible show wpAny _ _ (call (Value.ref 77) [Value.int _ _]) _ _ _); k_dflt (refine' sock_contract ?k1 ?k2 ?k3 ?k5 ?kK ?kd ?ku  ?_; (case k1 => k_asm); (case k2 => k_asm); (case k3 => k_asm); (case k5 => k_asm); (case kK => first | exact rfl | assumption); (case kd => ktr_room); (case ku => ktr_units);  skip); (rename Fr _ _ _ _ => kF9); (rename News _ _ _ _ => kN9); intro h9 tk9 hk9 ; (have F9 := Fr.keeps kF9 hk9); (have N9 := News.grown kN9 hk9);  clear kF9 kN9; (try dsimp only)))
theorem turn_a {w : World} {p : Program} {loose : List Str} {mean : ExcName → Option Value} {mg mb : Str → Option Value} {base h₀ : Heap} {L fa c1 c2 c3 Qa Na Dn I : Addr} {o p1 p2 p3 : Obj} {cd : Value} {s : Shared} {ws : List Value} {nn : Nat} {NS : List Int} {m₃ : Str → Option Value} {k : Int} {t₁ : Tok} {u1 u2 u3 : Option Value} {body : List Stmt}
    (hbody : body = turnBody (hd.heap_39 w.params)) (B : Below callerA base [] h₀) (X : (hd.heap_39 w.params).In h₀) (T : Top p loose mean mg mb h₀)
    (h12 : @LT.lt Nat _ c1 c2) (h23 : @LT.lt Nat _ c2 c3) (hQ : @LT.lt Nat _ c3 Qa) (hN : @LT.lt Nat _ Qa Na) (hDn : @LT.lt Nat _ Na Dn) (hI9 : @LT.lt Nat _ Dn I)
    (F3 : Fr h₀ L s.heap m₃) (q1 : m₃ (Str.ofString "questions") = some (.ref Qa)) (q2 : m₃ (Str.ofString "never") = some (.ref Na)) (q3 : m₃ (Str.ofString "numbers") = some (.ref Dn)) (q4 : m₃ (Str.ofString "k") = some (.int k t₁)) (N3 : News h₀ L s.heap [(I, o), (Dn, listOf (List.toArray ws) nn), (Na, listOf (List.toArray [Value.ref 84, Value.ref 91, Value.ref 98]) 0), (Qa, listOf (List.toArray [Value.ref 63, Value.ref 42, Value.ref 35, Value.ref 49, Value.ref 56, Value.ref 70, Value.ref 77]) 0), (c1, p1), (c2, p2), (c3, p3)]) (hd1 : p1.data = .cell u1) (hd2 : p2.data = .cell u2) (hd3 : p3.data = .cell u3)
    (hNS : IntsAre ws NS) (hl1 : 1 ≤ NS.length) (hlen : NS.length ≤ 2 ^ 20 + 16) (hk0 : 0 ≤ k) (hk1 : k < (NS.length : Int)) :
    Box (wpAny (model PySem.Challenge.rw_dn0160_04.row.prog w) (callerA.deeper (envX (Str.ofString "law") (fnScope (hd.heap_39 w.params) 150) L fa cd [(Str.ofString "told", c3), (Str.ofString "kind", c2), (Str.ofString "mode", c1)])) (execs (body.take 10) (envX (Str.ofString "law") (fnScope (hd.heap_39 w.params) 150) L fa cd [(Str.ofString "told", c3), (Str.ofString "kind", c2), (Str.ofString "mode", c1)])) (fun f s' => Hold (f = .next ∧ ∃ h' tk m' x tx tk2 tk3 r1 r2 r3, s' = { s with heap := h', toks := tk } ∧ Fr h₀ L h' m' ∧ m' (Str.ofString "questions") = some (.ref Qa) ∧ m' (Str.ofString "never") = some (.ref Na) ∧ m' (Str.ofString "numbers") = some (.ref Dn) ∧ m' (Str.ofString "k") = some (.int k t₁) ∧ r1.data = .cell (some (.int x tx)) ∧ r2.data = .cell (some (.int (kindOf4 x) tk2)) ∧ r3.data = .cell (some (.str (fmText x) tk3)) ∧ News h₀ L h' [(I, o), (Dn, listOf (List.toArray ws) nn), (Na, listOf (List.toArray [Value.ref 84, Value.ref 91, Value.ref 98]) 0), (Qa, listOf (List.toArray [Value.ref 63, Value.ref 42, Value.ref 35, Value.ref 49, Value.ref 56, Value.ref 70, Value.ref 77]) 0), (c1, r1), (c2, r2), (c3, r3)])) (fun _ _ => False) s) := by
  w_top off
  subst hbody
  constructor
  revert X; k_fill; intro X
  conv in turnBody _ => whnf
  dsimp only [List.take, List.drop]
  rw [chainN (m := m₃) (l := [(Str.ofString "questions", .ref Qa), (Str.ofString "never", .ref Na), (Str.ofString "numbers", .ref Dn), (Str.ofString "k", .int k t₁)]) (by simp [q1, q2, q3, q4])] at F3
  dsimp only [List.foldr] at F3
  clear q1 q2 q3 q4
  with_reducible refine execs_cut 3 (fun s' => ∃ h' tk m' x tx tk2 tk3 r1 r2 r3, s' = { s with heap := h', toks := tk } ∧ Fr h₀ L h' m' ∧ m' (Str.ofString "questions") = some (.ref Qa) ∧ m' (Str.ofString "never") = some (.ref Na) ∧ m' (Str.ofString "numbers") = some (.ref Dn) ∧ m' (Str.ofString "k") = some (.int k t₁) ∧ r1.data = .cell (some (.int x tx)) ∧ r2.data = .cell (some (.int (kindOf4 x) tk2)) ∧ r3.data = .cell (some (.str (fmText x) tk3)) ∧ News h₀ L h' [(I, o), (Dn, listOf (List.toArray ws) nn), (Na, listOf (List.toArray [Value.ref 84, Value.ref 91, Value.ref 98]) 0), (Qa, listOf (List.toArray [Value.ref 63, Value.ref 42, Value.ref 35, Value.ref 49, Value.ref 56, Value.ref 70, Value.ref 77]) 0), (c1, r1), (c2, r2), (c3, r3)]) ?_ ?_
  · dsimp only [List.take]
    k_steps
    rename Fr _ _ _ _ => F9
    rename News _ _ _ _ => N9
    exact ⟨rfl, _, _, _, _, _, _, _, _, _, _, rfl, F9, rfl, rfl, rfl, rfl, by assumption, by assumption, by assumption, N9⟩
  clear F3 N3 hd1 hd2 hd3
  rintro s' ⟨h₃, tk₃, m₃, x, tx, tk2, tk3, r1, r2, r3, rfl, F3, q1, q2, q3, q4, e1, e2, e3, N3⟩
  dsimp only [List.drop]
  rw [chainN (m := m₃) (l := [(Str.ofString "questions", .ref Qa), (Str.ofString "never", .ref Na), (Str.ofString "numbers", .ref Dn), (Str.ofString "k", .int k t₁)]) (by simp [q1, q2, q3, q4])] at F3
  dsimp only [List.foldr] at F3
  clear q1 q2 q3 q4
  with_reducible refine execs_cut 1 (fun s' => ∃ h' tk m' Aa, s' = { s with heap := h', toks := tk } ∧ Fr h₀ L h' m' ∧ m' (Str.ofString "questions") = some (.ref Qa) ∧ m' (Str.ofString "never") = some (.ref Na) ∧ m' (Str.ofString "numbers") = some (.ref Dn) ∧ m' (Str.ofString "k") = some (.int k t₁) ∧ m' (Str.ofString "answers") = some (.ref Aa) ∧ @LT.lt Nat _ I Aa ∧ News h₀ L h' [(Aa, LCg.lst ((ansL x).map Value.bool)), (I, o), (Dn, listOf (List.toArray ws) nn), (Na, listOf (List.toArray [Value.ref 84, Value.ref 91, Value.ref 98]) 0), (Qa, listOf (List.toArray [Value.ref 63, Value.ref 42, Value.ref 35, Value.ref 49, Value.ref 56, Value.ref 70, Value.ref 77]) 0), (c1, r1), (c2, r2), (c3, r3)]) ?_ ?_
  · dsimp only [List.take]
    k_steps
    walk_at "MyOneA"
    k_steps
    rename Fr _ _ _ _ => F4
    rename News _ _ _ _ => N4
    refine list_vals (xs := [Value.ref 63, Value.ref 42, Value.ref 35, Value.ref 49, Value.ref 56, Value.ref 70, Value.ref 77]) rfl F4 N4 (News.isList N4 (by k_mem)) (by decide) (fun i v => v = .bool (ansB x i)) ?_ (FinOk.assign rfl rfl rfl ?_)
    · clear F4 N4
      intro i' v C oC m₄ h₄ tk₄ E' hv F4 N4 hlt' hNs ma
      rcases q_items hv with ⟨rfl, rfl⟩ | ⟨rfl, rfl⟩ | ⟨rfl, rfl⟩ | ⟨rfl, rfl⟩ | ⟨rfl, rfl⟩ | ⟨rfl, rfl⟩ | ⟨rfl, rfl⟩
      · k_steps
        refine ⟨congrArg Value.bool (ans0 x), _, _, rfl, ?_⟩
        assumption
      · k_steps
        refine ⟨congrArg Value.bool (ans1 x), _, _, rfl, ?_⟩
        assumption
      · k_steps
        refine ⟨congrArg Value.bool (ans2 x), _, _, rfl, ?_⟩
        assumption
      · k_steps
        refine ⟨congrArg Value.bool (ans3 x), _, _, rfl, ?_⟩
        assumption
      · k_steps
        refine ⟨congrArg Value.bool (ans4 x), _, _, rfl, ?_⟩
        assumption
      · k_steps
        refine ⟨congrArg Value.bool (ans5 x), _, _, rfl, ?_⟩
        assumption
      · k_steps
        refine ⟨congrArg Value.bool (ans6 x), _, _, rfl, ?_⟩
        assumption
    · clear F4 N4
      intro Aa ys h₄ tk₄ F4 N4 hlt' hy hG
      have hys : ys = (ansL x).map Value.bool := bools_of hy hG
      subst hys
      have hA9 := ltN (hlt' (I, o) (.head _))
      k_steps
      exact ⟨rfl, _, _, _, _, rfl, F4, rfl, rfl, rfl, rfl, rfl, hA9, N4⟩
  clear F3 N3
  rintro s' ⟨h₃, tk₃, m₃, Aa, rfl, F3, q1, q2, q3, q4, q5, hA, N3⟩
  dsimp only [List.drop]
  rw [chainN (m := m₃) (l := [(Str.ofString "questions", .ref Qa), (Str.ofString "never", .ref Na), (Str.ofString "numbers", .ref Dn), (Str.ofString "k", .int k t₁), (Str.ofString "answers", .ref Aa)]) (by simp [q1, q2, q3, q4, q5])] at F3
  dsimp only [List.foldr] at F3
  clear q1 q2 q3 q4 q5
  with_reducible refine execs_cut 1 (fun s' => ∃ h' tk m', s' = { s with heap := h', toks := tk } ∧ Fr h₀ L h' m' ∧ m' (Str.ofString "questions") = some (.ref Qa) ∧ m' (Str.ofString "never") = some (.ref Na) ∧ m' (Str.ofString "numbers") = some (.ref Dn) ∧ m' (Str.ofString "k") = some (.int k t₁) ∧ m' (Str.ofString "answers") = some (.ref Aa) ∧ News h₀ L h' [(Aa, LCg.lst ((ansL x).map Value.bool)), (I, o), (Dn, listOf (List.toArray ws) nn), (Na, listOf (List.toArray [Value.ref 84, Value.ref 91, Value.ref 98]) 0), (Qa, listOf (List.toArray [Value.ref 63, Value.ref 42, Value.ref 35, Value.ref 49, Value.ref 56, Value.ref 70, Value.ref 77]) 0), (c1, r1), (c2, r2), (c3, r3)]) ?_ ?_
  · dsimp only [List.take]
    k_steps
    walk_at "MyNone"
    k_steps
    rename Fr _ _ _ _ => F4
    rename News _ _ _ _ => N4
    refine none_list rfl F4 N4 (News.isList N4 (by k_mem)) ?_ (FinOk.plain ?_)
    · clear F4 N4
      intro i' v C oC m₄ h₄ tk₄ E' hv F4 N4 hlt' hNs ma
      obtain ⟨bb, _, rfl⟩ : ∃ bb, (ansL x)[i']? = some bb ∧ Value.bool bb = v := by simpa [Option.map_eq_some_iff] using hv
      k_steps
      exact ⟨rfl, _, _, rfl, fun _ _ e => e⟩
    · clear F4 N4
      intro Ea ys h₄ tk₄ F4 N4 hlt' hy hG
      obtain rfl := List.length_eq_zero_iff.mp hy
      k_steps
      rename Fr _ _ _ _ => F5
      rename News _ _ _ _ => N5
      exact ⟨rfl, _, _, _, rfl, F5, rfl, rfl, rfl, rfl, rfl, fun p hp => N5 p (.tail _ (.tail _ hp))⟩
  clear F3 N3
  rintro s' ⟨h₃, tk₃, m₃, rfl, F3, q1, q2, q3, q4, q5, N3⟩
  dsimp only [List.drop]
  rw [chainN (m := m₃) (l := [(Str.ofString "questions", .ref Qa), (Str.ofString "never", .ref Na), (Str.ofString "numbers", .ref Dn), (Str.ofString "k", .int k t₁), (Str.ofString "answers", .ref Aa)]) (by simp [q1, q2, q3, q4, q5])] at F3
  dsimp only [List.foldr] at F3
  clear q1 q2 q3 q4 q5
  with_reducible refine execs_cut 1 (fun s' => ∃ h' tk m', s' = { s with heap := h', toks := tk } ∧ Fr h₀ L h' m' ∧ m' (Str.ofString "questions") = some (.ref Qa) ∧ m' (Str.ofString "never") = some (.ref Na) ∧ m' (Str.ofString "numbers") = some (.ref Dn) ∧ m' (Str.ofString "k") = some (.int k t₁) ∧ m' (Str.ofString "answers") = some (.ref Aa) ∧ News h₀ L h' [(Aa, LCg.lst ((ansL x).map Value.bool)), (I, o), (Dn, listOf (List.toArray ws) nn), (Na, listOf (List.toArray [Value.ref 84, Value.ref 91, Value.ref 98]) 0), (Qa, listOf (List.toArray [Value.ref 63, Value.ref 42, Value.ref 35, Value.ref 49, Value.ref 56, Value.ref 70, Value.ref 77]) 0), (c1, r1), (c2, r2), (c3, r3)]) ?_ ?_
  · dsimp only [List.take]
    k_steps
    walk_at "MyOne"
    k_steps
    rename Fr _ _ _ _ => F4
    rename News _ _ _ _ => N4
    refine tuple_vals rfl F4 N4 (News.isTup N4 (.head _)) (by show 7 ≤ sizeLine; decide) (fun i v => v = .bool (ansB x i)) ?_ (FinOk.plain ?_)
    · clear F4 N4
      intro i' v C oC m₄ h₄ tk₄ E' hv F4 N4 hlt' hNs ma
      obtain ⟨td, rfl⟩ := due_items hv
      k_steps
      exact ⟨rfl, _, _, rfl, fun _ _ e => e⟩
    · clear F4 N4
      intro Ea ys h₄ tk₄ F4 N4 hlt' hy hG
      have hys : ys = (ansL x).map Value.bool := bools_of hy hG
      subst hys
      k_steps
      exact ⟨rfl, _, _, _, rfl, F4, rfl, rfl, rfl, rfl, rfl, fun p hp => N4 p (.tail _ (.tail _ hp))⟩
  clear F3 N3
  rintro s' ⟨h₃, tk₃, m₃, rfl, F3, q1, q2, q3, q4, q5, N3⟩
  dsimp only [List.drop]
  rw [chainN (m := m₃) (l := [(Str.ofString "questions", .ref Qa), (Str.ofString "never", .ref Na), (Str.ofString "numbers", .ref Dn), (Str.ofString "k", .int k t₁), (Str.ofString "answers", .ref Aa)]) (by simp [q1, q2, q3, q4, q5])] at F3
  dsimp only [List.foldr] at F3
  clear q1 q2 q3 q4 q5
  with_reducible refine execs_cut 1 (fun s' => ∃ h' tk m', s' = { s with heap := h', toks := tk } ∧ Fr h₀ L h' m' ∧ m' (Str.ofString "questions") = some (.ref Qa) ∧ m' (Str.ofString "never") = some (.ref Na) ∧ m' (Str.ofString "numbers") = some (.ref Dn) ∧ m' (Str.ofString "k") = some (.int k t₁) ∧ m' (Str.ofString "answers") = some (.ref Aa) ∧ News h₀ L h' [(Aa, LCg.lst ((ansL x).map Value.bool)), (I, o), (Dn, listOf (List.toArray ws) nn), (Na, listOf (List.toArray [Value.ref 84, Value.ref 91, Value.ref 98]) 0), (Qa, listOf (List.toArray [Value.ref 63, Value.ref 42, Value.ref 35, Value.ref 49, Value.ref 56, Value.ref 70, Value.ref 77]) 0), (c1, r1), (c2, r2), (c3, r3)]) ?_ ?_
  · dsimp only [List.take]
    k_steps
    walk_at "MyOne"
    k_steps
    rename Fr _ _ _ _ => F4
    rename News _ _ _ _ => N4
    refine str_vals (y := sigs7) rfl F4 N4 (by decide) (fun i v => v = .bool (ansB x i)) ?_ (FinOk.plain ?_)
    · clear F4 N4
      intro i' c u C oC m₄ h₄ tk₄ E' hc F4 N4 hlt' hNs ma
      k_steps
      exact ⟨congrArg Value.bool (ans_sign x hc), _, _, rfl, fun _ _ e => e⟩
    · clear F4 N4
      intro Ea ys h₄ tk₄ F4 N4 hlt' hy hG
      have hys : ys = (ansL x).map Value.bool := bools_of hy hG
      subst hys
      k_steps
      exact ⟨rfl, _, _, _, rfl, F4, rfl, rfl, rfl, rfl, rfl, fun p hp => N4 p (.tail _ hp)⟩
  clear F3 N3
  rintro s' ⟨h₃, tk₃, m₃, rfl, F3, q1, q2, q3, q4, q5, N3⟩
  dsimp only [List.drop]
  rw [chainN (m := m₃) (l := [(Str.ofString "questions", .ref Qa), (Str.ofString "never", .ref Na), (Str.ofString "numbers", .ref Dn), (Str.ofString "k", .int k t₁), (Str.ofString "answers", .ref Aa)]) (by simp [q1, q2, q3, q4, q5])] at F3
  dsimp only [List.foldr] at F3
  clear q1 q2 q3 q4 q5
  with_reducible refine execs_cut 1 (fun s' => ∃ h' tk m', s' = { s with heap := h', toks := tk } ∧ Fr h₀ L h' m' ∧ m' (Str.ofString "questions") = some (.ref Qa) ∧ m' (Str.ofString "never") = some (.ref Na) ∧ m' (Str.ofString "numbers") = some (.ref Dn) ∧ m' (Str.ofString "k") = some (.int k t₁) ∧ m' (Str.ofString "answers") = some (.ref Aa) ∧ News h₀ L h' [(Aa, LCg.lst ((ansL x).map Value.bool)), (I, o), (Dn, listOf (List.toArray ws) nn), (Na, listOf (List.toArray [Value.ref 84, Value.ref 91, Value.ref 98]) 0), (Qa, listOf (List.toArray [Value.ref 63, Value.ref 42, Value.ref 35, Value.ref 49, Value.ref 56, Value.ref 70, Value.ref 77]) 0), (c1, r1), (c2, r2), (c3, r3)]) ?_ ?_
  · dsimp only [List.take]
    k_steps
    rename Fr _ _ _ _ => F5
    rename News _ _ _ _ => N5
    exact ⟨rfl, _, _, _, rfl, F5, rfl, rfl, rfl, rfl, rfl, N5⟩
  clear F3 N3
  rintro s' ⟨h₃, tk₃, m₃, rfl, F3, q1, q2, q3, q4, q5, N3⟩
  dsimp only [List.drop]
  rw [chainN (m := m₃) (l := [(Str.ofString "questions", .ref Qa), (Str.ofString "never", .ref Na), (Str.ofString "numbers", .ref Dn), (Str.ofString "k", .int k t₁), (Str.ofString "answers", .ref Aa)]) (by simp [q1, q2, q3, q4, q5])] at F3
  dsimp only [List.foldr] at F3
  clear q1 q2 q3 q4 q5
  with_reducible refine execs_cut 2 (fun s' => ∃ h' tk m', s' = { s with heap := h', toks := tk } ∧ Fr h₀ L h' m' ∧ m' (Str.ofString "questions") = some (.ref Qa) ∧ m' (Str.ofString "never") = some (.ref Na) ∧ m' (Str.ofString "numbers") = some (.ref Dn) ∧ m' (Str.ofString "k") = some (.int k t₁) ∧ News h₀ L h' [(Aa, LCg.lst ((ansL x).map Value.bool)), (I, o), (Dn, listOf (List.toArray ws) nn), (Na, listOf (List.toArray [Value.ref 84, Value.ref 91, Value.ref 98]) 0), (Qa, listOf (List.toArray [Value.ref 63, Value.ref 42, Value.ref 35, Value.ref 49, Value.ref 56, Value.ref 70, Value.ref 77]) 0), (c1, r1), (c2, r2), (c3, r3)]) ?_ ?_
  · dsimp only [List.take]
    k_steps
    rename Fr _ _ _ _ => F5
    rename News _ _ _ _ => N5
    exact ⟨rfl, _, _, _, rfl, F5, rfl, rfl, rfl, rfl, N5⟩
  clear F3 N3
  rintro s' ⟨h₃, tk₃, m₃, rfl, F3, q1, q2, q3, q4, N3⟩
  dsimp only [List.drop]
  k_steps
  exact ⟨rfl, _, _, _, _, _, _, _, _, _, _, rfl, F3, q1, q2, q3, q4, e1, e2, e3, fun p hp => N3 p (.tail _ hp)⟩
end Mine
namespace Mine
local macro_rules | `(tactic| walk_at "execs nil") => `(tactic| (k_here; (dsimp only); k_gentoks))
local macro_rules | `(tactic| walk_at "execs cons") => `(tactic| (k_here; (dsimp only); k_gentoks))
local macro_rules | `(tactic| walk_at "MyEnter") => `(tactic| (k_dflt ((case kA => exact rfl); (case kF => exact rfl); (case kK => assumption); (case ho => k_is); (case hcd => k_is); (case hroom => ktr_room); (case hb => exact BindsTo.of_eq rfl); (case hl => exact locs rfl); (case c1 => exact rfl); (case c2 => exact rfl); (case c3 => exact rfl); (case c4 => decide); k_whole)))
local macro_rules | `(tactic| walk_at "MyOff") => `(tactic| repeat' (first | exact off0 | exact nmem0 | (refine off1 ?_ ?_) | (refine nmem1 (by k_ne) ?_)))
local macro_rules | `(tactic| walk_at "MyIdx") => `(tactic| first | omega | l_idx | (split <;> omega))
local macro_rules | `(tactic| walk_at "MyStrs") => `(tactic| first | assumption | exact StrsAre.cons _ _ StrsAre.nil | (repeat' (first | exact StrsAre.nil | refine StrsAre.cons _ _ ?_)))
local macro_rules | `(tactic| walk_at "call builtin:str.join") => `(tactic| (k_here; (with_reducible show wpAny _ _ (call (Value.builtin "str.join") [Value.str _ _, Value.ref _]) _ _ _); k_dflt (refine' join_listW ?l ?i ?s ?w ?_; (case l => kmk_list); (case i => walk_at "MyStrs"); (case s => decide); (case w => first | decide | exact fmSigns_weight _); k_whole); intro t9 k9))
local macro_rules | `(tactic| walk_at "call type:list") => `(tactic| (k_here; (with_reducible show wpAny _ _ (call (Value.type _) [Value.str _ _]) _ _ _); k_dflt (refine' list_strN ?hh ?F ?N ?_ ?z; (case hh => exact rfl); (case F => k_asm); (case N => k_asm); (case z => decide)); intro D' ys' n' h' tk' F' N' l1 hI'; (try k_lt l1); (try k_sweep)))
local macro_rules | `(tactic| walk_at "MySize") => `(tactic| ((simp only [sizeLine_eq, List.length_append, List.length_cons, List.length_nil, List.length_take, List.length_drop, List.length_set]); omega))
local macro_rules | `(tactic| walk_at "eval IfExp") => `(tactic| (k_here; (with_reducible show wpAny _ _ (eval (PySem.Expr.IfExp _ (PySem.Expr.Constant (PySem.Const.int _) _ _) (PySem.Expr.Constant (PySem.Const.int _) _ _) _) _) _ _ _); refine ifexp_ints ?_))
local macro_rules | `(tactic| walk_at "subscriptTail") => `(tactic| (k_here; (with_reducible show wpAny _ _ (subscriptTail _ _ (Value.ref _) (Value.int _ _)) _ _ _); k_dflt (refine' strs_item ?l ?ss ?a ?b ?c ?_ ?s; (case l => kmk_list); (case ss => assumption); (case a => walk_at "MyIdx"); (case b => walk_at "MyIdx"); (case c => walk_at "MyIdx"); (case s => with_unfolding_all rfl); k_whole); intro t9))
local macro_rules | `(tactic| walk_at "subscriptTail Name Slice ref ref") => `(tactic| (k_here; (with_reducible show wpAny _ _ (subscriptTail _ (PySem.Expr.Slice _ _ none _) (Value.ref _) (Value.ref _)) _ _ _); k_dflt (refine' slice_strs ?F ?N ?l ?p ?q ?m ?_ ?s ?t ?z; (case F => k_asm); (case N => k_asm); (case l => kmk_list); (case p => kmk_part); (case q => kmk_part); (case m => first | exact strs_upto (by assumption) (by walk_at "MyIdx") | exact strs_from (by assumption) (by walk_at "MyIdx") | exact strs_run (by assumption) (by walk_at "MyIdx") (by walk_at "MyIdx") (by walk_at "MyIdx")); (case s => with_unfolding_all rfl); (case t => kmk_pure); (case z => exact strs_fit (by assumption) (by assumption) (by decide))); intro D' ws' h' F' N' l1 hI'; (try k_lt l1); (try k_sweep)))
local macro_rules | `(tactic| walk_at "binaryOp Add ref ref") => `(tactic| (k_here; (with_reducible show wpAny _ _ (binaryOp _ (Value.ref _) (Value.ref _)) _ _ _); k_dflt (refine' cat_strs ?F ?N ?a ?b ?i ?j ?_ ?z; (case F => k_asm); (case N => k_asm); (case a => kmk_list); (case b => kmk_list); (case i => walk_at "MyStrs"); (case j => walk_at "MyStrs"); (case z => walk_at "MySize")); intro D' ws' h' F' N' l1 hI'; (try k_lt l1); (try k_sweep)))
local macro_rules | `(tactic| walk_at "MyOne") => `(tactic| (k_dflt (refine' comp_one ?c1 ?c2 ?c3 ?c4 ?c5 ?_ ?c8; (case c1 => with_unfolding_all rfl); (case c2 => decide); (case c3 => rfl); (case c4 => decide); (case c5 => rfl); (case c8 => (intro _; rfl)))))
local macro_rules | `(tactic| walk_at "MyOneA") => `(tactic| (k_dflt (refine' comp_oneA ?c0 ?c1 ?c2 ?c3 ?c4 ?c5 ?_ ?c8; (case c0 => with_unfolding_all rfl); (case c1 => with_unfolding_all rfl); (case c2 => decide); (case c3 => rfl); (case c4 => decide); (case c5 => rfl); (case c8 => (intro _; rfl)))))
local macro_rules | `(tactic| walk_at "MyNone") => `(tactic| (k_dflt (refine' comp_none ?c1 ?c2 ?c3 ?c4 ?c5 ?_ ?c8; (case c1 => with_unfolding_all rfl); (case c2 => decide); (case c3 => rfl); (case c4 => decide); (case c5 => rfl); (case c8 => (intro _; rfl)))))
local macro_rules | `(tactic| walk_at "compareOp NotEq ref ref") => `(tactic| (k_here; k_dflt (first
  | (refine' ne_bools (bs := []) ?l ?b ?x ?y ?u ?_; (case l => exact News.isList (by k_asm) (by k_mem)); (case b => exact News.isList (by k_asm) (by k_mem)); (case x => rfl); (case y => rfl); (case u => ktr_units); k_whole)
  | (refine' ne_bools (bs := ansL _) ?l ?b ?x ?y ?u ?_; (case l => exact News.isList (by k_asm) (by k_mem)); (case b => exact News.isList (by k_asm) (by k_mem)); (case x => rfl); (case y => rfl); (case u => ktr_units); k_whole))))
local macro_rules | `(tactic| walk_at "subscriptTail") => `(tactic| (k_here; (with_reducible show wpAny _ _ (subscriptTail _ _ (Value.str (fmText _) _) (Value.int _ _)) _ _ _); k_dflt (refine' fm_item ?a ?b ?_ ?s ?t; (case a => walk_at "MyIdx"); (case b => walk_at "MyIdx"); (case s => with_unfolding_all rfl); (case t => intro _; with_unfolding_all rfl); k_whole); intro t9))
local macro_rules | `(tactic| walk_at "subscriptTail") => `(tactic| (k_here; (with_reducible show wpAny _ _ (subscriptTail _ (PySem.Expr.Slice (some _) none none _) (Value.str (fmText _) _) (Value.ref _)) _ _ _); k_dflt (refine' fm_slice ?F ?N ?_ ?s ?t; (case F => k_asm); (case N => k_asm); (case s => with_unfolding_all rfl); (case t => (intro _; with_unfolding_all rfl)); k_whole); intro h' t' k' F' N'))
local macro_rules | `(tactic| walk_at "subscriptTail") => `(tactic| (k_here; (with_reducible show wpAny _ _ (subscriptTail _ _ (Value.ref _) (Value.int (_ - 1) _)) _ _ _); k_dflt (refine' num_item ?l ?i ?a ?b ?c ?d ?_ ?s; (case l => exact News.isList (by k_asm) (by k_mem)); (case i => assumption); (case a => assumption); (case b => assumption); (case c => assumption); (case d => assumption); (case s => with_unfolding_all rfl); k_whole); intro y9 t9))
local macro_rules | `(tactic| walk_at "binaryOp Add str str") => `(tactic| (k_here; (with_reducible show wpAny _ _ (binaryOp _ (Value.str (fmSign _ _) _) (Value.str (fmTail _) _)) _ _ _); k_dflt (refine' PyProof.Rows.add_str ?_ ?z; (case z => exact text_size _ _ _); k_whole)))
local macro_rules | `(tactic| walk_at "compareOp NotIn bool ref") => `(tactic| (k_here; k_dflt (refine' notin_bools (bs := ansL _) ?l ?x ?_; (case l => exact News.isList (by k_asm) (by k_mem)); (case x => rfl); k_whole)))
local macro_rules | `(tactic| walk_at "compareOp NotEq bool bool") => `(tactic| (k_here; (refine ne_bool_is (ans_none _) ?_)))
local macro_rules | `(tactic| walk_at "compareOp NotEq int int") => `(tactic| (k_here; first | (refine ne_int_is (ifmt_is _) ?_) | (refine ne_int_is (imode_is _) ?_)))
local macro_rules | `(tactic| walk_at "compareOp NotEq str str") => `(tactic| (k_here; (refine ne_str_is (mixed _ _) ?_)))
local macro_rules | `(tactic| walk_at "eval ListComp") => `(tactic| (k_here; refine hold_intro ?_))
local macro_rules | `(tactic| walk_at "exec Assign cons ListComp") => `(tactic| (k_here; refine hold_intro ?_))
local macro_rules | `(tactic| walk_at "pyIter ref") => `(tactic| (k_here; refine hold_intro ?_))
local macro_rules | `(tactic| walk_at "pyIter str") => `(tactic| (k_here; refine hold_intro ?_))
local macro_rules | `(tactic| walk_at "exec For Name Call cons nil") => `(tactic| (k_here; k_dflt (refine wpAny_For ?_ ?hs; (case hs => (intro _; rfl)))))
local macro_rules | `(tactic| walk_at "exec For Name Name cons nil") => `(tactic| (k_here; k_dflt (refine wpAny_For ?_ ?hs; (case hs => (intro _; rfl)))))
local macro_rules | `(tactic| walk_at "exec For Name BinOp cons nil") => `(tactic| (k_here; k_dflt (refine wpAny_For ?_ ?hs; (case hs => (intro _; rfl)))))
local macro_rules | `(tactic| walk_at "call ref cons nil") => `(tactic| (k_here; (with_reducible show wpAny _ _ (call (Value.ref 138) [Value.int _ _]) _ _ _); k_dflt (refine' fm_contract ?k1 ?k2 ?k3 ?k5 ?kK ?kd ?ku  ?_; (case k1 => k_asm); (case k2 => k_asm); (case k3 => k_asm); (case k5 => k_asm); (case kK => first | exact rfl | assumption); (case kd => ktr_room); (case ku => ktr_units);  skip); (rename Fr _ _ _ _ => kF9); (rename News _ _ _ _ => kN9); intro h9 tk9 hk9 t9; (have F9 := Fr.keeps kF9 hk9); (have N9 := News.grown kN9 hk9);  clear kF9 kN9; (try dsimp only)))
local macro_rules | `(tactic| walk_at "call ref cons nil") => `(tactic| (k_here; (with_reducible show wpAny _ _ (call (Value.ref 28) [Value.int _ _]) _ _ _); k_dflt (refine' ifmt_contract ?k1 ?k2 ?k3 ?k5 ?kK ?kd ?ku  ?_; (case k1 => k_asm); (case k2 => k_asm); (case k3 => k_asm); (case k5 => k_asm); (case kK => first | exact rfl | assumption); (case kd => ktr_room); (case ku => ktr_units);  skip); (rename Fr _ _ _ _ => kF9); (rename News _ _ _ _ => kN9); intro t9 h9 tk9 hk9; (have F9 := Fr.keeps kF9 hk9); (have N9 := News.grown kN9 hk9);  clear kF9 kN9; (try dsimp only)))
local macro_rules | `(tactic| walk_at "call ref cons nil") => `(tactic| (k_here; (with_reducible show wpAny _ _ (call (Value.ref 21) [Value.int _ _]) _ _ _); k_dflt (refine' imode_contract ?k1 ?k2 ?k3 ?k5 ?kK ?kd ?ku  ?_; (case k1 => k_asm); (case k2 => k_asm); (case k3 => k_asm); (case k5 => k_asm); (case kK => first | exact rfl | assumption); (case kd => ktr_room); (case ku => ktr_units);  skip); (rename Fr _ _ _ _ => kF9); (rename News _ _ _ _ => kN9); intro h9 tk9 hk9 t9; (have F9 := Fr.keeps kF9 hk9); (have N9 := News.grown kN9 hk9);  clear kF9 kN9; (try dsimp only)))
local macro_rules | `(tactic| walk_at "call ref cons nil") => `(tactic| (k_here; (with_reducible show wpAny _ _ (call (Value.ref 63) [Value.int _ _]) _ _ _); k_dflt (refine' fifo_contract ?k1 ?k2 ?k3 ?k5 ?kK ?kd ?ku  ?_; (case k1 => k_asm); (case k2 => k_asm); (case k3 => k_asm); (case k5 => k_asm); (case kK => first | exact rfl | assumption); (case kd => ktr_room); (case ku => ktr_units);  skip); (rename Fr _ _ _ _ => kF9); (rename News _ _ _ _ => kN9); intro h9 tk9 hk9 ; (have F9 := Fr.keeps kF9 hk9); (have N9 := News.grown kN9 hk9);  clear kF9 kN9; (try dsimp only)))
local macro_rules | `(tactic| walk_at "call ref cons nil") => `(tactic| (k_here; (with_reducible show wpAny _ _ (call (Value.ref 42) [Value.int _ _]) _ _ _); k_dflt (refine' chr_contract ?k1 ?k2 ?k3 ?k5 ?kK ?kd ?ku  ?_; (case k1 => k_asm); (case k2 => k_asm); (case k3 => k_asm); (case k5 => k_asm); (case kK => first | exact rfl | assumption); (case kd => ktr_room); (case ku => ktr_units);  skip); (rename Fr _ _ _ _ => kF9); (rename News _ _ _ _ => kN9); intro h9 tk9 hk9 ; (have F9 := Fr.keeps kF9 hk9); (have N9 := News.grown kN9 hk9);  clear kF9 kN9; (try dsimp only)))
local macro_rules | `(tactic| walk_at "call ref cons nil") => `(tactic| (k_here; (with_reducible show wpAny _ _ (call (Value.ref 35) [Value.int _ _]) _ _ _); k_dflt (refine' dir_contract ?k1 ?k2 ?k3 ?k5 ?kK ?kd ?ku  ?_; (case k1 => k_asm); (case k2 => k_asm); (case k3 => k_asm); (case k5 => k_asm); (case kK => first | exact rfl | assumption); (case kd => ktr_room); (case ku => ktr_units);  skip); (rename Fr _ _ _ _ => kF9); (rename News _ _ _ _ => kN9); intro h9 tk9 hk9 ; (have F9 := Fr.keeps kF9 hk9); (have N9 := News.grown kN9 hk9);  clear kF9 kN9; (try dsimp only)))
local macro_rules | `(tactic| walk_at "call ref cons nil") => `(tactic| (k_here; (with_reducible show wpAny _ _ (call (Value.ref 49) [Value.int _ _]) _ _ _); k_dflt (refine' blk_contract ?k1 ?k2 ?k3 ?k5 ?kK ?kd ?ku  ?_; (case k1 => k_asm); (case k2 => k_asm); (case k3 => k_asm); (case k5 => k_asm); (case kK => first | exact rfl | assumption); (case kd => ktr_room); (case ku => ktr_units);  skip); (rename Fr _ _ _ _ => kF9); (rename News _ _ _ _ => kN9); intro h9 tk9 hk9 ; (have F9 := Fr.keeps kF9 hk9); (have N9 := News.grown kN9 hk9);  clear kF9 kN9; (try dsimp only)))
local macro_rules | `(tactic| walk_at "call ref cons nil") => `(tactic| (k_here; (with_reducible show wpAny _ _ (call (Value.ref 56) [Value.int _ _]) _ _ _); k_dflt (refine' reg_contract ?k1 ?k2 ?k3 ?k5 ?kK ?kd ?ku  ?_; (case k1 => k_asm); (case k2 => k_asm); (case k3 => k_asm); (case k5 => k_asm); (case kK => first | exact rfl | assumption); (case kd => ktr_room); (case ku => ktr_units);  skip); (rename Fr _ _ _ _ => kF9); (rename News _ _ _ _ => kN9); intro h9 tk9 hk9 ; (have F9 := Fr.keeps kF9 hk9); (have N9 := News.grown kN9 hk9);  clear kF9 kN9; (try dsimp only)))
local macro_rules | `(tactic| walk_at "call ref cons nil") => `(tactic| (k_here; (with_reducible show wpAny _ _ (call (Value.ref 70) [Value.int _ _]) _ _ _); k_dflt (refine' lnk_contract ?k1 ?k2 ?k3 ?k5 ?kK ?kd ?ku  ?_; (case k1 => k_asm); (case k2 => k_asm); (case k3 => k_asm); (case k5 => k_asm); (case kK => first | exact rfl | assumption); (case kd => ktr_room); (case ku => ktr_units);  skip); (rename Fr _ _ _ _ => kF9); (rename News _ _ _ _ => kN9); intro h9 tk9 hk9 ; (have F9 := Fr.keeps kF9 hk9); (have N9 := News.grown kN9 hk9);  clear kF9 kN9; (try dsimp only)))
local macro_rules | `(tactic| walk_at "call ref cons nil") => `(tactic| (k_here; (with_reducible show wpAny _ _ (call (Value.ref 77) [Value.int _ _]) _ _ _); k_dflt (refine' sock_contract ?k1 ?k2 ?k3 ?k5 ?kK ?kd ?ku  ?_; (case k1 => k_asm); (case k2 => k_asm); (case k3 => k_asm); (case k5 => k_asm); (case kK => first | exact rfl | assumption); (case kd => ktr_room); (case ku => ktr_units);  skip); (rename Fr _ _ _ _ => kF9); (rename News _ _ _ _ => kN9); intro h9 tk9 hk9 ; (have F9 := Fr.keeps kF9 hk9); (have N9 := News.grown kN9 hk9);  clear kF9 kN9; (try dsimp only)))
local macro_rules | `(tactic| walk_at "eval Dict") => `(tactic| (k_here; refine hold_intro ?_))
theorem turn_b {w : World} {p : Program} {loose : List Str} {mean : ExcName → Option Value} {mg mb : Str → Option Value} {base h₀ : Heap} {L fa c1 c2 c3 Qa Na Dn I : Addr} {o p1 p2 p3 : Obj} {cd : Value} {s : Shared} {ws : List Value} {nn : Nat} {NS : List Int} {m₃ : Str → Option Value} {k : Int} {t₁ : Tok} {u1 u2 u3 : Option Value} {body : List Stmt}
    (hbody : body = turnBody (hd.heap_39 w.params)) (B : Below callerA base [] h₀) (X : (hd.heap_39 w.params).In h₀) (T : Top p loose mean mg mb h₀)
    (h12 : @LT.lt Nat _ c1 c2) (h23 : @LT.lt Nat _ c2 c3) (hQ : @LT.lt Nat _ c3 Qa) (hN : @LT.lt Nat _ Qa Na) (hDn : @LT.lt Nat _ Na Dn) (hI9 : @LT.lt Nat _ Dn I) {x : Int} {tx : Tok}
    (F3 : Fr h₀ L s.heap m₃) (q1 : m₃ (Str.ofString "questions") = some (.ref Qa)) (q2 : m₃ (Str.ofString "never") = some (.ref Na)) (q3 : m₃ (Str.ofString "numbers") = some (.ref Dn)) (q4 : m₃ (Str.ofString "k") = some (.int k t₁)) (N3 : News h₀ L s.heap [(I, o), (Dn, listOf (List.toArray ws) nn), (Na, listOf (List.toArray [Value.ref 84, Value.ref 91, Value.ref 98]) 0), (Qa, listOf (List.toArray [Value.ref 63, Value.ref 42, Value.ref 35, Value.ref 49, Value.ref 56, Value.ref 70, Value.ref 77]) 0), (c1, p1), (c2, p2), (c3, p3)]) (hd1 : p1.data = .cell (some (.int x tx))) (hk0 : 0 ≤ k) :
    Box (wpAny (model PySem.Challenge.rw_dn0160_04.row.prog w) (callerA.deeper (envX (Str.ofString "law") (fnScope (hd.heap_39 w.params) 150) L fa cd [(Str.ofString "told", c3), (Str.ofString "kind", c2), (Str.ofString "mode", c1)])) (execs ((body.drop 10).take 1) (envX (Str.ofString "law") (fnScope (hd.heap_39 w.params) 150) L fa cd [(Str.ofString "told", c3), (Str.ofString "kind", c2), (Str.ofString "mode", c1)])) (fun f s' => Hold (f = .next ∧ ∃ h' tk m' v things, s' = { s with heap := h', toks := tk } ∧ Fr h₀ L h' m' ∧ m' (Str.ofString "questions") = some (.ref Qa) ∧ m' (Str.ofString "never") = some (.ref Na) ∧ m' (Str.ofString "numbers") = some (.ref Dn) ∧ m' (Str.ofString "k") = some (.int k t₁) ∧ m' (Str.ofString "thing") = some (v) ∧ ThingIn things v ∧ (∀ p ∈ things, @LT.lt Nat _ I p.1) ∧ News h₀ L h' (things ++ [(I, o), (Dn, listOf (List.toArray ws) nn), (Na, listOf (List.toArray [Value.ref 84, Value.ref 91, Value.ref 98]) 0), (Qa, listOf (List.toArray [Value.ref 63, Value.ref 42, Value.ref 35, Value.ref 49, Value.ref 56, Value.ref 70, Value.ref 77]) 0), (c1, p1), (c2, p2), (c3, p3)]))) (fun _ _ => False) s) := by
  w_top off
  subst hbody
  constructor
  revert X; k_fill; intro X
  conv in turnBody _ => whnf
  dsimp only [List.take, List.drop]
  rw [chainN (m := m₃) (l := [(Str.ofString "questions", .ref Qa), (Str.ofString "never", .ref Na), (Str.ofString "numbers", .ref Dn), (Str.ofString "k", .int k t₁)]) (by simp [q1, q2, q3, q4])] at F3
  dsimp only [List.foldr] at F3
  clear q1 q2 q3 q4
  k_steps
  rename Fr _ _ _ _ => F4
  rename News _ _ _ _ => N4
  dsimp only at F4 N4 ⊢
  refine dict_one F4 N4 (modules_low T.nolimit) (fun s₁ Q' N₁ q => nameX_C N₁ rfl (by k_mem) hd1 q rfl rfl) ?_
  clear F4 N4
  intro Dd od h₄ tk₄ F4 N4 hlt4 hod
  k_lt hlt4
  k_steps
  all_goals
    rename Fr _ _ _ _ => F5
    rename News _ _ _ _ => N5
    refine ⟨rfl, _, _, _, _, [(_, _), (_, _), (_, _)], rfl, F5, rfl, rfl, rfl, rfl, rfl, ?_, ?_, fun p hp => N5 p (.tail _ hp)⟩
    · first | exact .str _ _ | exact .none | exact .bytes _ _ | exact thing_dict hod (by k_mem) | exact .seq _ _ _ _ (by k_mem) (.inl rfl) rfl | exact .seq _ _ _ _ (by k_mem) (.inr rfl) rfl
    · intro p hp
      simp only [List.mem_cons, List.not_mem_nil, or_false] at hp
      rcases hp with rfl | rfl | rfl <;> (dsimp only; omega)
end Mine
namespace Mine
local macro_rules | `(tactic| walk_at "execs nil") => `(tactic| (k_here; (dsimp only); k_gentoks))
local macro_rules | `(tactic| walk_at "execs cons") => `(tactic| (k_here; (dsimp only); k_gentoks))
local macro_rules | `(tactic| walk_at "MyEnter") => `(tactic| (k_dflt ((case kA => exact rfl); (case kF => exact rfl); (case kK => assumption); (case ho => k_is); (case hcd => k_is); (case hroom => ktr_room); (case hb => exact BindsTo.of_eq rfl); (case hl => exact locs rfl); (case c1 => exact rfl); (case c2 => exact rfl); (case c3 => exact rfl); (case c4 => decide); k_whole)))
local macro_rules | `(tactic| walk_at "MyOff") => `(tactic| repeat' (first | exact off0 | exact nmem0 | (refine off1 ?_ ?_) | (refine nmem1 (by k_ne) ?_)))
local macro_rules | `(tactic| walk_at "MyIdx") => `(tactic| first | omega | l_idx | (split <;> omega))
local macro_rules | `(tactic| walk_at "MyStrs") => `(tactic| first | assumption | exact StrsAre.cons _ _ StrsAre.nil | (repeat' (first | exact StrsAre.nil | refine StrsAre.cons _ _ ?_)))
local macro_rules | `(tactic| walk_at "call builtin:str.join") => `(tactic| (k_here; (with_reducible show wpAny _ _ (call (Value.builtin "str.join") [Value.str _ _, Value.ref _]) _ _ _); k_dflt (refine' join_listW ?l ?i ?s ?w ?_; (case l => kmk_list); (case i => walk_at "MyStrs"); (case s => decide); (case w => first | decide | exact fmSigns_weight _); k_whole); intro t9 k9))
local macro_rules | `(tactic| walk_at "call type:list") => `(tactic| (k_here; (with_reducible show wpAny _ _ (call (Value.type _) [Value.str _ _]) _ _ _); k_dflt (refine' list_strN ?hh ?F ?N ?_ ?z; (case hh => exact rfl); (case F => k_asm); (case N => k_asm); (case z => decide)); intro D' ys' n' h' tk' F' N' l1 hI'; (try k_lt l1); (try k_sweep)))
local macro_rules | `(tactic| walk_at "MySize") => `(tactic| ((simp only [sizeLine_eq, List.length_append, List.length_cons, List.length_nil, List.length_take, List.length_drop, List.length_set]); omega))
local macro_rules | `(tactic| walk_at "eval IfExp") => `(tactic| (k_here; (with_reducible show wpAny _ _ (eval (PySem.Expr.IfExp _ (PySem.Expr.Constant (PySem.Const.int _) _ _) (PySem.Expr.Constant (PySem.Const.int _) _ _) _) _) _ _ _); refine ifexp_ints ?_))
local macro_rules | `(tactic| walk_at "subscriptTail") => `(tactic| (k_here; (with_reducible show wpAny _ _ (subscriptTail _ _ (Value.ref _) (Value.int _ _)) _ _ _); k_dflt (refine' strs_item ?l ?ss ?a ?b ?c ?_ ?s; (case l => kmk_list); (case ss => assumption); (case a => walk_at "MyIdx"); (case b => walk_at "MyIdx"); (case c => walk_at "MyIdx"); (case s => with_unfolding_all rfl); k_whole); intro t9))
local macro_rules | `(tactic| walk_at "subscriptTail Name Slice ref ref") => `(tactic| (k_here; (with_reducible show wpAny _ _ (subscriptTail _ (PySem.Expr.Slice _ _ none _) (Value.ref _) (Value.ref _)) _ _ _); k_dflt (refine' slice_strs ?F ?N ?l ?p ?q ?m ?_ ?s ?t ?z; (case F => k_asm); (case N => k_asm); (case l => kmk_list); (case p => kmk_part); (case q => kmk_part); (case m => first | exact strs_upto (by assumption) (by walk_at "MyIdx") | exact strs_from (by assumption) (by walk_at "MyIdx") | exact strs_run (by assumption) (by walk_at "MyIdx") (by walk_at "MyIdx") (by walk_at "MyIdx")); (case s => with_unfolding_all rfl); (case t => kmk_pure); (case z => exact strs_fit (by assumption) (by assumption) (by decide))); intro D' ws' h' F' N' l1 hI'; (try k_lt l1); (try k_sweep)))
local macro_rules | `(tactic| walk_at "binaryOp Add ref ref") => `(tactic| (k_here; (with_reducible show wpAny _ _ (binaryOp _ (Value.ref _) (Value.ref _)) _ _ _); k_dflt (refine' cat_strs ?F ?N ?a ?b ?i ?j ?_ ?z; (case F => k_asm); (case N => k_asm); (case a => kmk_list); (case b => kmk_list); (case i => walk_at "MyStrs"); (case j => walk_at "MyStrs"); (case z => walk_at "MySize")); intro D' ws' h' F' N' l1 hI'; (try k_lt l1); (try k_sweep)))
theorem thing_at {things l : List (Addr × Obj)} {v : Value} {h₀ h : Heap} {L : Addr} (x : ThingIn things v) (N : News h₀ L h l) (hs : ∀ p ∈ things, p ∈ l) : Thing h v := (x.sub hs).at N
theorem cat_vals {prog : Program} {w : World} {A : Around} {E : Value → Shared → Prop} {s : Shared} {h₀ : Heap} {L a b : Addr} {m : Str → Option Value} {news : List (Addr × Obj)} {vs ws : List Value} {Q : Value → Shared → Prop} (F : Fr h₀ L s.heap m) (N : News h₀ L s.heap news) (ha : s.heap.IsList a vs.toArray) (hb : s.heap.IsList b ws.toArray)
    (hz : vs.length + ws.length ≤ sizeLine) (h : ∀ D us h', us = vs ++ ws → Fr h₀ L h' m → News h₀ L h' ((D, listOf (List.toArray us) 0) :: news) → (∀ p ∈ news, p.1 < D) → Q (.ref D) { s with heap := h' }) :
    wpAny (model prog w) A (binaryOp .Add (.ref a) (.ref b)) Q E s :=
  add_lists F N ha hb (fun h' F' N' => h _ _ h' rfl F' N' fun p hp => Heap.lt_size (N p hp).1) hz
theorem door_items {i : Nat} {v : Value} (h : (doorsL.map Value.ref)[i]? = some v) : ∃ d, d ∈ doorsL ∧ v = .ref d := by
  have h' : doorsL[i]?.map Value.ref = some v := by simpa using h
  obtain ⟨d, hd, rfl⟩ := Option.map_eq_some_iff.mp h'
  exact ⟨d, List.mem_of_getElem? hd, rfl⟩
theorem never_items {i : Nat} {v : Value} (h : [Value.ref 84, Value.ref 91, Value.ref 98][i]? = some v) : v = .ref 84 ∨ v = .ref 91 ∨ v = .ref 98 := by
  match i, h with
  | 0, h => cases h; simp
  | 1, h => cases h; simp
  | 2, h => cases h; simp
  | _ + 3, h => cases h
local macro_rules | `(tactic| walk_at "pyIter ref") => `(tactic| (k_here; refine hold_intro ?_))
local macro_rules | `(tactic| walk_at "exec For Name Name cons nil") => `(tactic| (k_here; k_dflt (refine wpAny_For ?_ ?hs; (case hs => (intro _; rfl)))))
local macro_rules | `(tactic| walk_at "exec For Name BinOp cons nil") => `(tactic| (k_here; k_dflt (refine wpAny_For ?_ ?hs; (case hs => (intro _; rfl)))))
local macro_rules | `(tactic| walk_at "binaryOp Add ref ref") => `(tactic| (k_here; refine hold_intro ?_))
local macro_rules | `(tactic| walk_at "compareOp NotEq str str") => `(tactic| (k_here; (refine ne_str_is rfl ?_)))
local macro_rules | `(tactic| walk_at "call ref cons nil") => `(tactic| (k_here; (with_reducible show wpAny _ _ (call (Value.ref 84) [_]) _ _ _); k_dflt (refine' door_never ?k1 ?k2 ?k3 ?k5 ?kK ?kd ?ku  ?_; (case k1 => k_asm); (case k2 => k_asm); (case k3 => k_asm); (case k5 => k_asm); (case kK => first | exact rfl | assumption); (case kd => ktr_room); (case ku => ktr_units);  skip); (rename Fr _ _ _ _ => kF9); (rename News _ _ _ _ => kN9); intro h9 tk9 hk9 ; (have F9 := Fr.keeps kF9 hk9); (have N9 := News.grown kN9 hk9);  clear kF9 kN9 hk9; (try dsimp only)))
local macro_rules | `(tactic| walk_at "call ref cons nil") => `(tactic| (k_here; (with_reducible show wpAny _ _ (call (Value.ref 91) [_]) _ _ _); k_dflt (refine' port_never ?k1 ?k2 ?k3 ?k5 ?kK ?kd ?ku  ?_; (case k1 => k_asm); (case k2 => k_asm); (case k3 => k_asm); (case k5 => k_asm); (case kK => first | exact rfl | assumption); (case kd => ktr_room); (case ku => ktr_units);  skip); (rename Fr _ _ _ _ => kF9); (rename News _ _ _ _ => kN9); intro h9 tk9 hk9 ; (have F9 := Fr.keeps kF9 hk9); (have N9 := News.grown kN9 hk9);  clear kF9 kN9 hk9; (try dsimp only)))
local macro_rules | `(tactic| walk_at "call ref cons nil") => `(tactic| (k_here; (with_reducible show wpAny _ _ (call (Value.ref 98) [_]) _ _ _); k_dflt (refine' wht_never ?k1 ?k2 ?k3 ?k5 ?kK ?kd ?ku  ?_; (case k1 => k_asm); (case k2 => k_asm); (case k3 => k_asm); (case k5 => k_asm); (case kK => first | exact rfl | assumption); (case kd => ktr_room); (case ku => ktr_units);  skip); (rename Fr _ _ _ _ => kF9); (rename News _ _ _ _ => kN9); intro h9 tk9 hk9 ; (have F9 := Fr.keeps kF9 hk9); (have N9 := News.grown kN9 hk9);  clear kF9 kN9 hk9; (try dsimp only)))
local macro_rules | `(tactic| walk_at "call ref cons nil") => `(tactic| (k_here; (with_reducible show wpAny _ _ (call (Value.ref 145) [Value.ref _, _]) _ _ _); k_dflt (refine' told_never ?k1 ?k2 ?k3 ?k5 ?kK ?kd ?ku ?hd ?_; (case k1 => k_asm); (case k2 => k_asm); (case k3 => k_asm); (case k5 => k_asm); (case kK => first | exact rfl | assumption); (case kd => ktr_room); (case ku => ktr_units); (case hd => first | exact .inl rfl | exact .inr (.inl rfl) | exact .inr (.inr rfl)); skip); (rename Fr _ _ _ _ => kF9); (rename News _ _ _ _ => kN9); intro h9 tk9 hk9 ; (have F9 := Fr.keeps kF9 hk9); (have N9 := News.grown kN9 hk9);  clear kF9 kN9 hk9; (try dsimp only)))
local macro_rules | `(tactic| walk_at "call ref cons nil") => `(tactic| (k_here; (with_reducible show wpAny _ _ (call (Value.ref 145) [Value.ref _, _]) _ _ _); k_dflt (refine' told_raises ?k1 ?k2 ?k3 ?k5 ?kK ?kd ?ku ?hv ?hd ?_; (case hd => assumption); (case k1 => k_asm); (case k2 => k_asm); (case k3 => k_asm); (case k5 => k_asm); (case kK => first | exact rfl | assumption); (case kd => ktr_room); (case ku => ktr_units); (case hv => exact thing_at (by assumption) (by k_asm) (by intro p hp; simp [hp])); skip); (rename Fr _ _ _ _ => kF9); (rename News _ _ _ _ => kN9); intro h9 g9 tk9 t9 K9 hk9; (have F9 := fr_turned kF9 K9 hk9); (have N9 := news_turned kN9 K9 hk9); clear kF9 kN9 K9 hk9; (try dsimp only)))
theorem turn_c {w : World} {p : Program} {loose : List Str} {mean : ExcName → Option Value} {mg mb : Str → Option Value} {base h₀ : Heap} {L fa c1 c2 c3 Qa Na Dn I : Addr} {o p1 p2 p3 : Obj} {cd : Value} {s : Shared} {ws : List Value} {nn : Nat} {NS : List Int} {m₃ : Str → Option Value} {k : Int} {t₁ : Tok} {u1 u2 u3 : Option Value} {body : List Stmt}
    (hbody : body = turnBody (hd.heap_39 w.params)) (B : Below callerA base [] h₀) (X : (hd.heap_39 w.params).In h₀) (T : Top p loose mean mg mb h₀)
    (h12 : @LT.lt Nat _ c1 c2) (h23 : @LT.lt Nat _ c2 c3) (hQ : @LT.lt Nat _ c3 Qa) (hN : @LT.lt Nat _ Qa Na) (hDn : @LT.lt Nat _ Na Dn) (hI9 : @LT.lt Nat _ Dn I) {x : Int} {tx : Tok} {v : Value} {things : List (Addr × Obj)}
    (F3 : Fr h₀ L s.heap m₃) (q1 : m₃ (Str.ofString "questions") = some (.ref Qa)) (q2 : m₃ (Str.ofString "never") = some (.ref Na)) (q3 : m₃ (Str.ofString "numbers") = some (.ref Dn)) (q4 : m₃ (Str.ofString "k") = some (.int k t₁)) (q5 : m₃ (Str.ofString "thing") = some (v)) (N3 : News h₀ L s.heap ((I, o) :: (Dn, listOf (List.toArray ws) nn) :: (Na, listOf (List.toArray [Value.ref 84, Value.ref 91, Value.ref 98]) 0) :: (Qa, listOf (List.toArray [Value.ref 63, Value.ref 42, Value.ref 35, Value.ref 49, Value.ref 56, Value.ref 70, Value.ref 77]) 0) :: (c1, p1) :: (c2, p2) :: (c3, p3) :: things)) (hd1 : p1.data = .cell (some (.int x tx))) (hth : ThingIn things v) (hti : ∀ p ∈ things, @LT.lt Nat _ I p.1) :
    Box (wpAny (model PySem.Challenge.rw_dn0160_04.row.prog w) (callerA.deeper (envX (Str.ofString "law") (fnScope (hd.heap_39 w.params) 150) L fa cd [(Str.ofString "told", c3), (Str.ofString "kind", c2), (Str.ofString "mode", c1)])) (execs ((body.drop 10).drop 1) (envX (Str.ofString "law") (fnScope (hd.heap_39 w.params) 150) L fa cd [(Str.ofString "told", c3), (Str.ofString "kind", c2), (Str.ofString "mode", c1)])) (fun f s' => Hold (f = .next ∧ ∃ h' tk m', s' = { s with heap := h', toks := tk } ∧ Fr h₀ L h' m' ∧ m' (Str.ofString "questions") = some (.ref Qa) ∧ m' (Str.ofString "never") = some (.ref Na) ∧ m' (Str.ofString "numbers") = some (.ref Dn) ∧ News h₀ L h' ((I, o) :: (Dn, listOf (List.toArray ws) nn) :: (Na, listOf (List.toArray [Value.ref 84, Value.ref 91, Value.ref 98]) 0) :: (Qa, listOf (List.toArray [Value.ref 63, Value.ref 42, Value.ref 35, Value.ref 49, Value.ref 56, Value.ref 70, Value.ref 77]) 0) :: (c1, p1) :: (c2, p2) :: (c3, p3) :: things))) (fun _ _ => False) s) := by
  w_top off
  subst hbody
  constructor
  revert X; k_fill; intro X
  conv in turnBody _ => whnf
  dsimp only [List.take, List.drop]
  rw [chainN (m := m₃) (l := [(Str.ofString "questions", .ref Qa), (Str.ofString "never", .ref Na), (Str.ofString "numbers", .ref Dn), (Str.ofString "k", .int k t₁), (Str.ofString "thing", v)]) (by simp [q1, q2, q3, q4, q5])] at F3
  dsimp only [List.foldr] at F3
  clear q1 q2 q3 q4 q5
  with_reducible refine execs_cut 1 (fun s' => ∃ h' tk m', s' = { s with heap := h', toks := tk } ∧ Fr h₀ L h' m' ∧ m' (Str.ofString "questions") = some (.ref Qa) ∧ m' (Str.ofString "never") = some (.ref Na) ∧ m' (Str.ofString "numbers") = some (.ref Dn) ∧ m' (Str.ofString "k") = some (.int k t₁) ∧ m' (Str.ofString "thing") = some (v) ∧ News h₀ L h' ((I, o) :: (Dn, listOf (List.toArray ws) nn) :: (Na, listOf (List.toArray [Value.ref 84, Value.ref 91, Value.ref 98]) 0) :: (Qa, listOf (List.toArray [Value.ref 63, Value.ref 42, Value.ref 35, Value.ref 49, Value.ref 56, Value.ref 70, Value.ref 77]) 0) :: (c1, p1) :: (c2, p2) :: (c3, p3) :: things)) ?_ ?_
  · dsimp only [List.take]
    k_steps
    rename Fr _ _ _ _ => F4
    rename News _ _ _ _ => N4
    refine cat_vals F4 N4 (News.isList N4 (by k_mem)) (News.isList N4 (by k_mem)) (by show 7 + 3 ≤ sizeLine; decide) ?_
    clear F4 N4
    intro Da us h₄ hus F4 N4 hlt4
    replace hus : us = doorsL.map Value.ref := hus
    have N5 : News h₀ L h₄ ((Da, listOf (List.toArray us) 0) :: ((I, o) :: (Dn, listOf (List.toArray ws) nn) :: (Na, listOf (List.toArray [Value.ref 84, Value.ref 91, Value.ref 98]) 0) :: (Qa, listOf (List.toArray [Value.ref 63, Value.ref 42, Value.ref 35, Value.ref 49, Value.ref 56, Value.ref 70, Value.ref 77]) 0) :: (c1, p1) :: (c2, p2) :: (c3, p3) :: things)) := fun p hp => N4 p (by
      rcases List.mem_cons.mp hp with rfl | hp
      · exact .head _
      · exact .tail _ (.tail _ hp))
    clear N4 hlt4
    k_steps
    refine iter_kept (T := Da) (oT := listOf (List.toArray us) 0) (items := us.toArray) (env := (envX (Str.ofString "law") (fnScope (hd.heap_39 w.params) 150) L fa cd [(Str.ofString "told", c3), (Str.ofString "kind", c2), (Str.ofString "mode", c1)])) rfl (News.isList N5 (.head _)) F4 N5 (fun i m₁ news₁ => m₁ (Str.ofString "questions") = some (.ref Qa) ∧ m₁ (Str.ofString "never") = some (.ref Na) ∧ m₁ (Str.ofString "numbers") = some (.ref Dn) ∧ m₁ (Str.ofString "k") = some (.int k t₁) ∧ m₁ (Str.ofString "thing") = some (v) ∧ news₁ = ((Da, listOf (List.toArray us) 0) :: ((I, o) :: (Dn, listOf (List.toArray ws) nn) :: (Na, listOf (List.toArray [Value.ref 84, Value.ref 91, Value.ref 98]) 0) :: (Qa, listOf (List.toArray [Value.ref 63, Value.ref 42, Value.ref 35, Value.ref 49, Value.ref 56, Value.ref 70, Value.ref 77]) 0) :: (c1, p1) :: (c2, p2) :: (c3, p3) :: things))) ?_ ?_ ?_ ?_ PassesOwn.never
    · rintro i m₁ news₁ ⟨_, _, _, _, _, rfl⟩
      exact .head _
    · exact ⟨rfl, rfl, rfl, rfl, rfl, rfl⟩
    · clear F4 N5
      intro j u m₄ news₄ h₅ tk₅ I₂ o₂ hu hJ hoff F5 N5 hlt₂
      obtain ⟨q1, q2, q3, q4, q5, rfl⟩ := hJ
      obtain ⟨d, hdd, rfl⟩ := door_items (i := j) (v := u) (by rw [← hus]; simpa using hu)
      replace F5 : Fr h₀ L h₅ _ := F5
      replace N5 : News h₀ L h₅ _ := N5
      have hoff₂ := off_of2 hoff
      clear hoff hlt₂
      rw [chainN (m := m₄) (l := [(Str.ofString "questions", .ref Qa), (Str.ofString "never", .ref Na), (Str.ofString "numbers", .ref Dn), (Str.ofString "k", .int k t₁), (Str.ofString "thing", v)]) (by simp [q1, q2, q3, q4, q5])] at F5
      dsimp only [List.foldr] at F5
      clear q1 q2 q3 q4 q5
      refine wpAny_assign_Name (storeX_L F5 N5 (fun h₆ F6 N6 => ?_) rfl rfl)
      clear F5 N5
      k_steps
      rename Fr _ _ _ _ => F7
      rename News _ _ _ _ => N7
      exact step_next (its := [(I₂, o₂)]) F7 N7 hoff₂ ⟨rfl, rfl, rfl, rfl, rfl, rfl⟩
    · clear F4 N5
      intro h₅ tk₅ m₄ news₄ F5 N5 hJ
      obtain ⟨q1, q2, q3, q4, q5, rfl⟩ := hJ
      replace F5 : Fr h₀ L h₅ _ := F5
      replace N5 : News h₀ L h₅ _ := N5
      k_steps
      exact ⟨rfl, _, _, _, rfl, F5, q1, q2, q3, q4, q5, fun p hp => N5 p (.tail _ hp)⟩
  clear F3 N3
  rintro s' ⟨h₃, tk₃, m₃, rfl, F3, q1, q2, q3, q4, q5, N3⟩
  dsimp only [List.drop]
  rw [chainN (m := m₃) (l := [(Str.ofString "questions", .ref Qa), (Str.ofString "never", .ref Na), (Str.ofString "numbers", .ref Dn), (Str.ofString "k", .int k t₁), (Str.ofString "thing", v)]) (by simp [q1, q2, q3, q4, q5])] at F3
  dsimp only [List.foldr] at F3
  clear q1 q2 q3 q4 q5
  k_steps
  refine iter_kept (T := Na) (oT := listOf (List.toArray [Value.ref 84, Value.ref 91, Value.ref 98]) 0) (items := List.toArray [Value.ref 84, Value.ref 91, Value.ref 98]) (env := (envX (Str.ofString "law") (fnScope (hd.heap_39 w.params) 150) L fa cd [(Str.ofString "told", c3), (Str.ofString "kind", c2), (Str.ofString "mode", c1)])) rfl (News.isList N3 (by k_mem)) F3 N3 (fun i m₁ news₁ => m₁ (Str.ofString "questions") = some (.ref Qa) ∧ m₁ (Str.ofString "never") = some (.ref Na) ∧ m₁ (Str.ofString "numbers") = some (.ref Dn) ∧ m₁ (Str.ofString "k") = some (.int k t₁) ∧ m₁ (Str.ofString "thing") = some (v) ∧ news₁ = ((I, o) :: (Dn, listOf (List.toArray ws) nn) :: (Na, listOf (List.toArray [Value.ref 84, Value.ref 91, Value.ref 98]) 0) :: (Qa, listOf (List.toArray [Value.ref 63, Value.ref 42, Value.ref 35, Value.ref 49, Value.ref 56, Value.ref 70, Value.ref 77]) 0) :: (c1, p1) :: (c2, p2) :: (c3, p3) :: things)) ?_ ?_ ?_ ?_ PassesOwn.never
  · rintro i m₁ news₁ ⟨_, _, _, _, _, rfl⟩
    k_mem
  · exact ⟨rfl, rfl, rfl, rfl, rfl, rfl⟩
  · clear F3 N3
    intro j u m₄ news₄ h₅ tk₅ I₂ o₂ hu hJ hoff F5 N5 hlt₂
    obtain ⟨q1, q2, q3, q4, q5, rfl⟩ := hJ
    replace F5 : Fr h₀ L h₅ _ := F5
    replace N5 : News h₀ L h₅ _ := N5
    have hoff₂ := off_of2 hoff
    have hi9 := ltN (hlt₂ (I, o) (.head _))
    clear hoff hlt₂
    rw [chainN (m := m₄) (l := [(Str.ofString "questions", .ref Qa), (Str.ofString "never", .ref Na), (Str.ofString "numbers", .ref Dn), (Str.ofString "k", .int k t₁), (Str.ofString "thing", v)]) (by simp [q1, q2, q3, q4, q5])] at F5
    dsimp only [List.foldr] at F5
    clear q1 q2 q3 q4 q5
    rcases never_items (i := j) (v := u) (by simpa using hu) with rfl | rfl | rfl
    all_goals
      refine wpAny_assign_Name (storeX_L F5 N5 (fun h₆ F6 N6 => ?_) rfl rfl)
      clear F5 N5
      k_steps
      rename Fr _ _ _ _ => F7
      rename News _ _ _ _ => N7
      exact step_next (its := [(I₂, o₂)]) F7 N7 hoff₂ ⟨rfl, rfl, rfl, rfl, rfl, rfl⟩
  · clear F3 N3
    intro h₅ tk₅ m₄ news₄ F5 N5 hJ
    obtain ⟨q1, q2, q3, q4, q5, rfl⟩ := hJ
    replace F5 : Fr h₀ L h₅ _ := F5
    replace N5 : News h₀ L h₅ _ := N5
    k_steps
    exact ⟨rfl, _, _, _, rfl, F5, q1, q2, q3, N5⟩
end Mine
namespace Mine
local macro_rules | `(tactic| walk_at "execs nil") => `(tactic| (k_here; (dsimp only); k_gentoks))
local macro_rules | `(tactic| walk_at "execs cons") => `(tactic| (k_here; (dsimp only); k_gentoks))
local macro_rules | `(tactic| walk_at "MyEnter") => `(tactic| (k_dflt ((case kA => exact rfl); (case kF => exact rfl); (case kK => assumption); (case ho => k_is); (case hcd => k_is); (case hroom => ktr_room); (case hb => exact BindsTo.of_eq rfl); (case hl => exact locs rfl); (case c1 => exact rfl); (case c2 => exact rfl); (case c3 => exact rfl); (case c4 => decide); k_whole)))
local macro_rules | `(tactic| walk_at "MyOff") => `(tactic| repeat' (first | exact off0 | exact nmem0 | (refine off1 ?_ ?_) | (refine nmem1 (by k_ne) ?_)))
local macro_rules | `(tactic| walk_at "MyIdx") => `(tactic| first | omega | l_idx | (split <;> omega))
local macro_rules | `(tactic| walk_at "MyStrs") => `(tactic| first | assumption | exact StrsAre.cons _ _ StrsAre.nil | (repeat' (first | exact StrsAre.nil | refine StrsAre.cons _ _ ?_)))
local macro_rules | `(tactic| walk_at "call builtin:str.join") => `(tactic| (k_here; (with_reducible show wpAny _ _ (call (Value.builtin "str.join") [Value.str _ _, Value.ref _]) _ _ _); k_dflt (refine' join_listW ?l ?i ?s ?w ?_; (case l => kmk_list); (case i => walk_at "MyStrs"); (case s => decide); (case w => first | decide | exact fmSigns_weight _); k_whole); intro t9 k9))
local macro_rules | `(tactic| walk_at "call type:list") => `(tactic| (k_here; (with_reducible show wpAny _ _ (call (Value.type _) [Value.str _ _]) _ _ _); k_dflt (refine' list_strN ?hh ?F ?N ?_ ?z; (case hh => exact rfl); (case F => k_asm); (case N => k_asm); (case z => decide)); intro D' ys' n' h' tk' F' N' l1 hI'; (try k_lt l1); (try k_sweep)))
local macro_rules | `(tactic| walk_at "MySize") => `(tactic| ((simp only [sizeLine_eq, List.length_append, List.length_cons, List.length_nil, List.length_take, List.length_drop, List.length_set]); omega))
local macro_rules | `(tactic| walk_at "eval IfExp") => `(tactic| (k_here; (with_reducible show wpAny _ _ (eval (PySem.Expr.IfExp _ (PySem.Expr.Constant (PySem.Const.int _) _ _) (PySem.Expr.Constant (PySem.Const.int _) _ _) _) _) _ _ _); refine ifexp_ints ?_))
local macro_rules | `(tactic| walk_at "subscriptTail") => `(tactic| (k_here; (with_reducible show wpAny _ _ (subscriptTail _ _ (Value.ref _) (Value.int _ _)) _ _ _); k_dflt (refine' strs_item ?l ?ss ?a ?b ?c ?_ ?s; (case l => kmk_list); (case ss => assumption); (case a => walk_at "MyIdx"); (case b => walk_at "MyIdx"); (case c => walk_at "MyIdx"); (case s => with_unfolding_all rfl); k_whole); intro t9))
local macro_rules | `(tactic| walk_at "subscriptTail Name Slice ref ref") => `(tactic| (k_here; (with_reducible show wpAny _ _ (subscriptTail _ (PySem.Expr.Slice _ _ none _) (Value.ref _) (Value.ref _)) _ _ _); k_dflt (refine' slice_strs ?F ?N ?l ?p ?q ?m ?_ ?s ?t ?z; (case F => k_asm); (case N => k_asm); (case l => kmk_list); (case p => kmk_part); (case q => kmk_part); (case m => first | exact strs_upto (by assumption) (by walk_at "MyIdx") | exact strs_from (by assumption) (by walk_at "MyIdx") | exact strs_run (by assumption) (by walk_at "MyIdx") (by walk_at "MyIdx") (by walk_at "MyIdx")); (case s => with_unfolding_all rfl); (case t => kmk_pure); (case z => exact strs_fit (by assumption) (by assumption) (by decide))); intro D' ws' h' F' N' l1 hI'; (try k_lt l1); (try k_sweep)))
local macro_rules | `(tactic| walk_at "binaryOp Add ref ref") => `(tactic| (k_here; (with_reducible show wpAny _ _ (binaryOp _ (Value.ref _) (Value.ref _)) _ _ _); k_dflt (refine' cat_strs ?F ?N ?a ?b ?i ?j ?_ ?z; (case F => k_asm); (case N => k_asm); (case a => kmk_list); (case b => kmk_list); (case i => walk_at "MyStrs"); (case j => walk_at "MyStrs"); (case z => walk_at "MySize")); intro D' ws' h' F' N' l1 hI'; (try k_lt l1); (try k_sweep)))
local macro_rules | `(tactic| walk_at "MyOne") => `(tactic| (k_dflt (refine' comp_one ?c1 ?c2 ?c3 ?c4 ?c5 ?_ ?c8; (case c1 => with_unfolding_all rfl); (case c2 => decide); (case c3 => rfl); (case c4 => decide); (case c5 => rfl); (case c8 => (intro _; rfl)))))
local macro_rules | `(tactic| walk_at "MyOneA") => `(tactic| (k_dflt (refine' comp_oneA ?c0 ?c1 ?c2 ?c3 ?c4 ?c5 ?_ ?c8; (case c0 => with_unfolding_all rfl); (case c1 => with_unfolding_all rfl); (case c2 => decide); (case c3 => rfl); (case c4 => decide); (case c5 => rfl); (case c8 => (intro _; rfl)))))
local macro_rules | `(tactic| walk_at "MyNone") => `(tactic| (k_dflt (refine' comp_none ?c1 ?c2 ?c3 ?c4 ?c5 ?_ ?c8; (case c1 => with_unfolding_all rfl); (case c2 => decide); (case c3 => rfl); (case c4 => decide); (case c5 => rfl); (case c8 => (intro _; rfl)))))
local macro_rules | `(tactic| walk_at "compareOp NotEq ref ref") => `(tactic| (k_here; k_dflt (first
  | (refine' ne_bools (bs := []) ?l ?b ?x ?y ?u ?_; (case l => exact News.isList (by k_asm) (by k_mem)); (case b => exact News.isList (by k_asm) (by k_mem)); (case x => rfl); (case y => rfl); (case u => ktr_units); k_whole)
  | (refine' ne_bools (bs := ansL _) ?l ?b ?x ?y ?u ?_; (case l => exact News.isList (by k_asm) (by k_mem)); (case b => exact News.isList (by k_asm) (by k_mem)); (case x => rfl); (case y => rfl); (case u => ktr_units); k_whole))))
local macro_rules | `(tactic| walk_at "subscriptTail") => `(tactic| (k_here; (with_reducible show wpAny _ _ (subscriptTail _ _ (Value.str (fmText _) _) (Value.int _ _)) _ _ _); k_dflt (refine' fm_item ?a ?b ?_ ?s ?t; (case a => walk_at "MyIdx"); (case b => walk_at "MyIdx"); (case s => with_unfolding_all rfl); (case t => intro _; with_unfolding_all rfl); k_whole); intro t9))
local macro_rules | `(tactic| walk_at "subscriptTail") => `(tactic| (k_here; (with_reducible show wpAny _ _ (subscriptTail _ (PySem.Expr.Slice (some _) none none _) (Value.str (fmText _) _) (Value.ref _)) _ _ _); k_dflt (refine' fm_slice ?F ?N ?_ ?s ?t; (case F => k_asm); (case N => k_asm); (case s => with_unfolding_all rfl); (case t => (intro _; with_unfolding_all rfl)); k_whole); intro h' t' k' F' N'))
local macro_rules | `(tactic| walk_at "subscriptTail") => `(tactic| (k_here; (with_reducible show wpAny _ _ (subscriptTail _ _ (Value.ref _) (Value.int (_ - 1) _)) _ _ _); k_dflt (refine' num_item ?l ?i ?a ?b ?c ?d ?_ ?s; (case l => exact News.isList (by k_asm) (by k_mem)); (case i => assumption); (case a => assumption); (case b => assumption); (case c => assumption); (case d => assumption); (case s => with_unfolding_all rfl); k_whole); intro y9 t9))
local macro_rules | `(tactic| walk_at "binaryOp Add str str") => `(tactic| (k_here; (with_reducible show wpAny _ _ (binaryOp _ (Value.str (fmSign _ _) _) (Value.str (fmTail _) _)) _ _ _); k_dflt (refine' PyProof.Rows.add_str ?_ ?z; (case z => exact text_size _ _ _); k_whole)))
local macro_rules | `(tactic| walk_at "compareOp NotIn bool ref") => `(tactic| (k_here; k_dflt (refine' notin_bools (bs := ansL _) ?l ?x ?_; (case l => exact News.isList (by k_asm) (by k_mem)); (case x => rfl); k_whole)))
local macro_rules | `(tactic| walk_at "compareOp NotEq bool bool") => `(tactic| (k_here; (refine ne_bool_is (ans_none _) ?_)))
local macro_rules | `(tactic| walk_at "compareOp NotEq int int") => `(tactic| (k_here; first | (refine ne_int_is (ifmt_is _) ?_) | (refine ne_int_is (imode_is _) ?_)))
local macro_rules | `(tactic| walk_at "compareOp NotEq str str") => `(tactic| (k_here; (refine ne_str_is (mixed _ _) ?_)))
local macro_rules | `(tactic| walk_at "eval ListComp") => `(tactic| (k_here; refine hold_intro ?_))
local macro_rules | `(tactic| walk_at "exec Assign cons ListComp") => `(tactic| (k_here; refine hold_intro ?_))
local macro_rules | `(tactic| walk_at "pyIter ref") => `(tactic| (k_here; refine hold_intro ?_))
local macro_rules | `(tactic| walk_at "pyIter str") => `(tactic| (k_here; refine hold_intro ?_))
local macro_rules | `(tactic| walk_at "exec For Name Call cons nil") => `(tactic| (k_here; k_dflt (refine wpAny_For ?_ ?hs; (case hs => (intro _; rfl)))))
local macro_rules | `(tactic| walk_at "exec For Name Name cons nil") => `(tactic| (k_here; k_dflt (refine wpAny_For ?_ ?hs; (case hs => (intro _; rfl)))))
local macro_rules | `(tactic| walk_at "exec For Name BinOp cons nil") => `(tactic| (k_here; k_dflt (refine wpAny_For ?_ ?hs; (case hs => (intro _; rfl)))))
local macro_rules | `(tactic| walk_at "call ref cons nil") => `(tactic| (k_here; (with_reducible show wpAny _ _ (call (Value.ref 138) [Value.int _ _]) _ _ _); k_dflt (refine' fm_contract ?k1 ?k2 ?k3 ?k5 ?kK ?kd ?ku  ?_; (case k1 => k_asm); (case k2 => k_asm); (case k3 => k_asm); (case k5 => k_asm); (case kK => first | exact rfl | assumption); (case kd => ktr_room); (case ku => ktr_units);  skip); (rename Fr _ _ _ _ => kF9); (rename News _ _ _ _ => kN9); intro h9 tk9 hk9 t9; (have F9 := Fr.keeps kF9 hk9); (have N9 := News.grown kN9 hk9);  clear kF9 kN9; (try dsimp only)))
local macro_rules | `(tactic| walk_at "call ref cons nil") => `(tactic| (k_here; (with_reducible show wpAny _ _ (call (Value.ref 28) [Value.int _ _]) _ _ _); k_dflt (refine' ifmt_contract ?k1 ?k2 ?k3 ?k5 ?kK ?kd ?ku  ?_; (case k1 => k_asm); (case k2 => k_asm); (case k3 => k_asm); (case k5 => k_asm); (case kK => first | exact rfl | assumption); (case kd => ktr_room); (case ku => ktr_units);  skip); (rename Fr _ _ _ _ => kF9); (rename News _ _ _ _ => kN9); intro t9 h9 tk9 hk9; (have F9 := Fr.keeps kF9 hk9); (have N9 := News.grown kN9 hk9);  clear kF9 kN9; (try dsimp only)))
local macro_rules | `(tactic| walk_at "call ref cons nil") => `(tactic| (k_here; (with_reducible show wpAny _ _ (call (Value.ref 21) [Value.int _ _]) _ _ _); k_dflt (refine' imode_contract ?k1 ?k2 ?k3 ?k5 ?kK ?kd ?ku  ?_; (case k1 => k_asm); (case k2 => k_asm); (case k3 => k_asm); (case k5 => k_asm); (case kK => first | exact rfl | assumption); (case kd => ktr_room); (case ku => ktr_units);  skip); (rename Fr _ _ _ _ => kF9); (rename News _ _ _ _ => kN9); intro h9 tk9 hk9 t9; (have F9 := Fr.keeps kF9 hk9); (have N9 := News.grown kN9 hk9);  clear kF9 kN9; (try dsimp only)))
local macro_rules | `(tactic| walk_at "call ref cons nil") => `(tactic| (k_here; (with_reducible show wpAny _ _ (call (Value.ref 63) [Value.int _ _]) _ _ _); k_dflt (refine' fifo_contract ?k1 ?k2 ?k3 ?k5 ?kK ?kd ?ku  ?_; (case k1 => k_asm); (case k2 => k_asm); (case k3 => k_asm); (case k5 => k_asm); (case kK => first | exact rfl | assumption); (case kd => ktr_room); (case ku => ktr_units);  skip); (rename Fr _ _ _ _ => kF9); (rename News _ _ _ _ => kN9); intro h9 tk9 hk9 ; (have F9 := Fr.keeps kF9 hk9); (have N9 := News.grown kN9 hk9);  clear kF9 kN9; (try dsimp only)))
local macro_rules | `(tactic| walk_at "call ref cons nil") => `(tactic| (k_here; (with_reducible show wpAny _ _ (call (Value.ref 42) [Value.int _ _]) _ _ _); k_dflt (refine' chr_contract ?k1 ?k2 ?k3 ?k5 ?kK ?kd ?ku  ?_; (case k1 => k_asm); (case k2 => k_asm); (case k3 => k_asm); (case k5 => k_asm); (case kK => first | exact rfl | assumption); (case kd => ktr_room); (case ku => ktr_units);  skip); (rename Fr _ _ _ _ => kF9); (rename News _ _ _ _ => kN9); intro h9 tk9 hk9 ; (have F9 := Fr.keeps kF9 hk9); (have N9 := News.grown kN9 hk9);  clear kF9 kN9; (try dsimp only)))
local macro_rules | `(tactic| walk_at "call ref cons nil") => `(tactic| (k_here; (with_reducible show wpAny _ _ (call (Value.ref 35) [Value.int _ _]) _ _ _); k_dflt (refine' dir_contract ?k1 ?k2 ?k3 ?k5 ?kK ?kd ?ku  ?_; (case k1 => k_asm); (case k2 => k_asm); (case k3 => k_asm); (case k5 => k_asm); (case kK => first | exact rfl | assumption); (case kd => ktr_room); (case ku => ktr_units);  skip); (rename Fr _ _ _ _ => kF9); (rename News _ _ _ _ => kN9); intro h9 tk9 hk9 ; (have F9 := Fr.keeps kF9 hk9); (have N9 := News.grown kN9 hk9);  clear kF9 kN9; (try dsimp only)))
local macro_rules | `(tactic| walk_at "call ref cons nil") => `(tactic| (k_here; (with_reducible show wpAny _ _ (call (Value.ref 49) [Value.int _ _]) _ _ _); k_dflt (refine' blk_contract ?k1 ?k2 ?k3 ?k5 ?kK ?kd ?ku  ?_; (case k1 => k_asm); (case k2 => k_asm); (case k3 => k_asm); (case k5 => k_asm); (case kK => first | exact rfl | assumption); (case kd => ktr_room); (case ku => ktr_units);  skip); (rename Fr _ _ _ _ => kF9); (rename News _ _ _ _ => kN9); intro h9 tk9 hk9 ; (have F9 := Fr.keeps kF9 hk9); (have N9 := News.grown kN9 hk9);  clear kF9 kN9; (try dsimp only)))
local macro_rules | `(tactic| walk_at "call ref cons nil") => `(tactic| (k_here; (with_reducible show wpAny _ _ (call (Value.ref 56) [Value.int _ _]) _ _ _); k_dflt (refine' reg_contract ?k1 ?k2 ?k3 ?k5 ?kK ?kd ?ku  ?_; (case k1 => k_asm); (case k2 => k_asm); (case k3 => k_asm); (case k5 => k_asm); (case kK => first | exact rfl | assumption); (case kd => ktr_room); (case ku => ktr_units);  skip); (rename Fr _ _ _ _ => kF9); (rename News _ _ _ _ => kN9); intro h9 tk9 hk9 ; (have F9 := Fr.keeps kF9 hk9); (have N9 := News.grown kN9 hk9);  clear kF9 kN9; (try dsimp only)))
local macro_rules | `(tactic| walk_at "call ref cons nil") => `(tactic| (k_here; (with_reducible show wpAny _ _ (call (Value.ref 70) [Value.int _ _]) _ _ _); k_dflt (refine' lnk_contract ?k1 ?k2 ?k3 ?k5 ?kK ?kd ?ku  ?_; (case k1 => k_asm); (case k2 => k_asm); (case k3 => k_asm); (case k5 => k_asm); (case kK => first | exact rfl | assumption); (case kd => ktr_room); (case ku => ktr_units);  skip); (rename Fr _ _ _ _ => kF9); (rename News _ _ _ _ => kN9); intro h9 tk9 hk9 ; (have F9 := Fr.keeps kF9 hk9); (have N9 := News.grown kN9 hk9);  clear kF9 kN9; (try dsimp only)))
local macro_rules | `(tactic| walk_at "call ref cons nil") => `(tactic| (k_here; (with_reducible show wpAny _ _ (call (Value.ref 77) [Value.int _ _]) _ _ _); k_dflt (refine' sock_contract ?k1 ?k2 ?k3 ?k5 ?kK ?kd ?ku  ?_; (case k1 => k_asm); (case k2 => k_asm); (case k3 => k_asm); (case k5 => k_asm); (case kK => first | exact rfl | assumption); (case kd => ktr_room); (case ku => ktr_units);  skip); (rename Fr _ _ _ _ => kF9); (rename News _ _ _ _ => kN9); intro h9 tk9 hk9 ; (have F9 := Fr.keeps kF9 hk9); (have N9 := News.grown kN9 hk9);  clear kF9 kN9; (try dsimp only)))
theorem box_mono {prog : Program} {w : World} {A : Around} {body : List Stmt} {env : Env} {Q Q' : Flow → Shared → Prop} {E : Value → Shared → Prop} {s : Shared} (h : Box (wpAny (model prog w) A (execs body env) Q (fun _ _ => False) s)) (hq : ∀ fl s', Q fl s' → Q' fl s') :
    Box (wpAny (model prog w) A (execs body env) Q' E s) := ⟨wpAny_mono h.out hq fun _ _ x => x.elim⟩
theorem news_flip {h₀ h : Heap} {L : Addr} {l l' : List (Addr × Obj)} (N : News h₀ L h (l ++ l')) : News h₀ L h (l' ++ l) := fun p hp => N p (by
  rcases List.mem_append.mp hp with hp | hp
  · exact List.mem_append_right _ hp
  · exact List.mem_append_left _ hp)
theorem law_body {w : World} {p : Program} {loose : List Str} {mean : ExcName → Option Value} {mg mb : Str → Option Value} {base h₀ : Heap} {L fa sc c1 c2 c3 : Addr} {o1 o2 o3 : Obj} {cd : Value} {s : Shared} {vs0 : List Value} {ns : List Int} {m₀ : Str → Option Value} {v1 v2 v3 : Option Value}
    (B : Below callerA base [] h₀) (F : Fr h₀ L s.heap m₀) (hm₀ : m₀ (Str.ofString "script") = some (.ref sc)) (N : News h₀ L s.heap [(c1, o1), (c2, o2), (c3, o3)]) (hd1 : o1.data = .cell v1) (hd2 : o2.data = .cell v2) (hd3 : o3.data = .cell v3) (h12 : @LT.lt Nat _ c1 c2) (h23 : @LT.lt Nat _ c2 c3)
    (X : (hd.heap_39 w.params).In h₀) (T : Top p loose mean mg mb h₀)
    (hL : h₀.IsList sc vs0.toArray) (hI : IntsAre vs0 ns) (hlay : (PyData.list (ns.map PyData.int)).layable0 = true) :
    Box (wpAny (model PySem.Challenge.rw_dn0160_04.row.prog w) (callerA.deeper (envX (Str.ofString "law") (fnScope (hd.heap_39 w.params) 150) L fa cd [(Str.ofString "told", c3), (Str.ofString "kind", c2), (Str.ofString "mode", c1)])) (execs (fnBody (hd.heap_39 w.params) 150) (envX (Str.ofString "law") (fnScope (hd.heap_39 w.params) 150) L fa cd [(Str.ofString "told", c3), (Str.ofString "kind", c2), (Str.ofString "mode", c1)]))
      (fun fl s' => LawEnd h₀ L s fl s') (fun _ _ => False) s) := by
  w_top off
  constructor
  revert X; k_fill; intro X
  conv in fnBody _ _ => whnf
  rw [chainN (m := m₀) (l := [(Str.ofString "script", .ref sc)]) (by simp [hm₀])] at F
  dsimp only [List.foldr] at F
  clear hm₀
  with_reducible refine execs_cut 2 (fun s' => ∃ h' tk m' Qa Na, s' = { s with heap := h', toks := tk } ∧ Fr h₀ L h' m' ∧ m' (Str.ofString "script") = some (.ref sc) ∧ m' (Str.ofString "questions") = some (.ref Qa) ∧ m' (Str.ofString "never") = some (.ref Na) ∧ @LT.lt Nat _ c3 Qa ∧ @LT.lt Nat _ Qa Na ∧ News h₀ L h' [(Na, listOf (List.toArray [Value.ref 84, Value.ref 91, Value.ref 98]) 0), (Qa, listOf (List.toArray [Value.ref 63, Value.ref 42, Value.ref 35, Value.ref 49, Value.ref 56, Value.ref 70, Value.ref 77]) 0), (c1, o1), (c2, o2), (c3, o3)]) ?_ ?_
  · dsimp only [List.take]
    k_steps
    rename Fr _ _ _ _ => F9
    rename News _ _ _ _ => N9
    exact ⟨rfl, _, _, _, _, _, rfl, F9, rfl, rfl, rfl, by omega, by omega, N9⟩
  clear F N
  rintro s' ⟨h₁, tk₁, m₁, Qa, Na, rfl, F1, q1, q2, q3, hQ, hN, N1⟩
  dsimp only [List.drop]
  rw [chainN (m := m₁) (l := [(Str.ofString "script", .ref sc), (Str.ofString "questions", .ref Qa), (Str.ofString "never", .ref Na)]) (by simp [q1, q2, q3])] at F1
  dsimp only [List.foldr] at F1
  clear q1 q2 q3
  have hb9 := len_ints_list hlay
  with_reducible refine execs_cut 1 (fun s' => ∃ h' tk m' Dn ws nn NS, s' = { s with heap := h', toks := tk } ∧ Fr h₀ L h' m' ∧ m' (Str.ofString "questions") = some (.ref Qa) ∧ m' (Str.ofString "never") = some (.ref Na) ∧ m' (Str.ofString "numbers") = some (.ref Dn) ∧ @LT.lt Nat _ Na Dn ∧ IntsAre ws NS ∧ 1 ≤ NS.length ∧ NS.length ≤ 2 ^ 20 + 16 ∧ News h₀ L h' [(Dn, listOf (List.toArray ws) nn), (Na, listOf (List.toArray [Value.ref 84, Value.ref 91, Value.ref 98]) 0), (Qa, listOf (List.toArray [Value.ref 63, Value.ref 42, Value.ref 35, Value.ref 49, Value.ref 56, Value.ref 70, Value.ref 77]) 0), (c1, o1), (c2, o2), (c3, o3)]) ?_ ?_
  · dsimp only [List.take]
    k_steps
    walk_at "MyOne"
    k_steps
    rename Fr _ _ _ _ => F2
    rename News _ _ _ _ => N2
    rename IsRange _ _ _ _ _ _ _ _ => hR
    refine range_vals (n := 16) rfl F2 N2 hR (by decide) (by decide) (by decide) (fun i v => ∃ t, v = .int (4096 * (i : Int) + 273 * (15 - (i : Int))) t) ?_ (FinOk.plain ?_)
    · clear F2 N2 hR
      intro i k t' C oC m₃ h₃ tk₃ E' hi hk F3 N3 hlt hNs ma
      rw [Int.zero_add] at hk
      k_steps
      show (∃ _, _ = _) ∧ Keeps _ _
      exact ⟨⟨_, by rw [hk]⟩, _, _, rfl, fun _ _ e => e⟩
    · clear F2 N2 hR
      intro D ys h₃ tk₃ F3 N3 hlt hy hG
      have hS1 : IntsAre ys ((List.range 16).map fun i : Nat => 4096 * (i : Int) + 273 * (15 - (i : Int))) := ints_of hy hG
      clear hG
      k_steps
      rename Fr _ _ _ _ => F4
      rename News _ _ _ _ => N4
      refine cat_ints F4 N4 (News.isList N4 (by k_mem)) (News.isList N4 (by k_mem)) hS1 hI ?_ ?_
      · rw [List.length_map, List.length_range, sizeLine_eq]; omega
      clear F4 N4
      intro D' us h₄ F4 N4 hlt' hU
      have hlt9 := ltN (hlt' (Na, _) (by k_mem))
      clear hlt'
      k_steps
      rename Fr _ _ _ _ => F5
      rename News _ _ _ _ => N5
      refine ⟨rfl, _, _, _, _, _, _, _, rfl, F5, rfl, rfl, rfl, hlt9, hU, ?_, ?_, news_drop2 N5⟩
      · simp; omega
      · simp; omega
  clear F1 N1
  rintro s' ⟨h₁, tk₁, m₁, Dn, ws, nn, NS, rfl, F1, q1, q2, q3, hDn, hNS, hl1, hlen, N1⟩
  dsimp only [List.drop]
  rw [chainN (m := m₁) (l := [(Str.ofString "questions", .ref Qa), (Str.ofString "never", .ref Na), (Str.ofString "numbers", .ref Dn)]) (by simp [q1, q2, q3])] at F1
  dsimp only [List.foldr] at F1
  clear q1 q2 q3
  k_steps
  rename Fr _ _ _ _ => F2
  rename News _ _ _ _ => N2
  rename IsRange _ _ _ _ _ _ _ _ => hR
  refine iter_range (n := NS.length) (env := (envX (Str.ofString "law") (fnScope (hd.heap_39 w.params) 150) L fa cd [(Str.ofString "told", c3), (Str.ofString "kind", c2), (Str.ofString "mode", c1)])) rfl hR ?_ ?_ F2 N2 (fun i m₁ news₁ => m₁ (Str.ofString "questions") = some (.ref Qa) ∧ m₁ (Str.ofString "never") = some (.ref Na) ∧ m₁ (Str.ofString "numbers") = some (.ref Dn) ∧ ∃ p1 p2 p3 u1 u2 u3, news₁ = [(Dn, listOf (List.toArray ws) nn), (Na, listOf (List.toArray [Value.ref 84, Value.ref 91, Value.ref 98]) 0), (Qa, listOf (List.toArray [Value.ref 63, Value.ref 42, Value.ref 35, Value.ref 49, Value.ref 56, Value.ref 70, Value.ref 77]) 0), (c1, p1), (c2, p2), (c3, p3)] ∧ p1.data = .cell u1 ∧ p2.data = .cell u2 ∧ p3.data = .cell u3) ?_ ?_ ?_ PassesOwn.never
  · exact small_one hlen
  · exact size_one _
  · exact ⟨rfl, rfl, rfl, _, _, _, _, _, _, rfl, hd1, hd2, hd3⟩
  · clear F2 N2 hR hd1 hd2 hd3
    intro i k t₁ m₁ news₁ h₂ tk₁ I o hi hk hJ hoff F2 N2 hlt
    obtain ⟨q1, q2, q3, p1, p2, p3, u1, u2, u3, rfl, hd1, hd2, hd3⟩ := hJ
    replace F2 : Fr h₀ L h₂ _ := F2
    replace N2 : News h₀ L h₂ _ := N2
    have hI9 := ltN (hlt (Dn, _) (by k_mem))
    clear hlt hoff
    dsimp only at hI9
    rw [chainN (m := m₁) (l := [(Str.ofString "questions", .ref Qa), (Str.ofString "never", .ref Na), (Str.ofString "numbers", .ref Dn)]) (by simp [q1, q2, q3])] at F2
    dsimp only [List.foldr] at F2
    clear q1 q2 q3
    rw [Int.zero_add] at hk
    have hk0 : 0 ≤ k := by omega
    have hk1 : k < (NS.length : Int) := by omega
    refine wpAny_assign_Name (storeX_L F2 N2 (fun h₃ F3 N3 => ?_) rfl rfl)
    clear F2 N2
    with_reducible refine execs_cut 10 (fun s' => ∃ h' tk m' x tx tk2 tk3 r1 r2 r3, s' = { s with heap := h', toks := tk } ∧ Fr h₀ L h' m' ∧ m' (Str.ofString "questions") = some (.ref Qa) ∧ m' (Str.ofString "never") = some (.ref Na) ∧ m' (Str.ofString "numbers") = some (.ref Dn) ∧ m' (Str.ofString "k") = some (.int k t₁) ∧ r1.data = .cell (some (.int x tx)) ∧ r2.data = .cell (some (.int (kindOf4 x) tk2)) ∧ r3.data = .cell (some (.str (fmText x) tk3)) ∧ News h₀ L h' [(I, o), (Dn, listOf (List.toArray ws) nn), (Na, listOf (List.toArray [Value.ref 84, Value.ref 91, Value.ref 98]) 0), (Qa, listOf (List.toArray [Value.ref 63, Value.ref 42, Value.ref 35, Value.ref 49, Value.ref 56, Value.ref 70, Value.ref 77]) 0), (c1, r1), (c2, r2), (c3, r3)]) ?_ ?_
    · refine Box.out ?_
      refine' turn_a (s := { s with heap := h₃, toks := _ }) ?hb1 B X T h12 h23 hQ hN hDn hI9 F3 rfl rfl rfl rfl N3 hd1 hd2 hd3 hNS hl1 hlen hk0 hk1
      case hb1 => kernel_rfl
    clear F3 N3 hd1 hd2 hd3
    rintro s' ⟨h₄, tk₄, m₄, x, tx, tk2, tk3, r1, r2, r3, rfl, F4, q1, q2, q3, q4, e1, e2, e3, N4⟩
    with_reducible refine execs_cut 1 (fun s' => ∃ h' tk m' v things, s' = { s with heap := h', toks := tk } ∧ Fr h₀ L h' m' ∧ m' (Str.ofString "questions") = some (.ref Qa) ∧ m' (Str.ofString "never") = some (.ref Na) ∧ m' (Str.ofString "numbers") = some (.ref Dn) ∧ m' (Str.ofString "k") = some (.int k t₁) ∧ m' (Str.ofString "thing") = some (v) ∧ ThingIn things v ∧ (∀ p ∈ things, @LT.lt Nat _ I p.1) ∧ News h₀ L h' (things ++ [(I, o), (Dn, listOf (List.toArray ws) nn), (Na, listOf (List.toArray [Value.ref 84, Value.ref 91, Value.ref 98]) 0), (Qa, listOf (List.toArray [Value.ref 63, Value.ref 42, Value.ref 35, Value.ref 49, Value.ref 56, Value.ref 70, Value.ref 77]) 0), (c1, r1), (c2, r2), (c3, r3)])) ?_ ?_
    · refine Box.out ?_
      refine' turn_b (NS := NS) (u1 := none) (u2 := none) (u3 := none) (s := { s with heap := h₄, toks := tk₄ }) ?hb2 B X T h12 h23 hQ hN hDn hI9 F4 q1 q2 q3 q4 N4 e1 hk0
      case hb2 => kernel_rfl
    clear F4 N4 q1 q2 q3 q4
    rintro s' ⟨h₅, tk₅, m₅, v, things, rfl, F5, q1, q2, q3, q4, q5, hth, hti, N5⟩
    replace N5 := news_flip N5
    refine Box.out ?_
    refine' box_mono (turn_c (NS := NS) (u1 := none) (u2 := none) (u3 := none) (s := { s with heap := h₅, toks := tk₅ }) ?hb3 B X T h12 h23 hQ hN hDn hI9 F5 q1 q2 q3 q4 q5 N5 e1 hth hti) ?_
    case hb3 => kernel_rfl
    clear F5 N5 q1 q2 q3 q4 q5
    rintro fl s' ⟨rfl, h₆, tk₆, m₆, rfl, F6, q1, q2, q3, N6⟩
    refine step_next (its := [(I, o)]) (news₂ := [(Dn, listOf (List.toArray ws) nn), (Na, listOf (List.toArray [Value.ref 84, Value.ref 91, Value.ref 98]) 0), (Qa, listOf (List.toArray [Value.ref 63, Value.ref 42, Value.ref 35, Value.ref 49, Value.ref 56, Value.ref 70, Value.ref 77]) 0), (c1, r1), (c2, r2), (c3, r3)]) F6 (fun p hp => N6 p ?_) ?_ ⟨q1, q2, q3, _, _, _, _, _, _, rfl, e1, e2, e3⟩
    · have hp' : p ∈ [(I, o), (Dn, listOf (List.toArray ws) nn), (Na, listOf (List.toArray [Value.ref 84, Value.ref 91, Value.ref 98]) 0), (Qa, listOf (List.toArray [Value.ref 63, Value.ref 42, Value.ref 35, Value.ref 49, Value.ref 56, Value.ref 70, Value.ref 77]) 0), (c1, r1), (c2, r2), (c3, r3)] ++ things := List.mem_append_left _ hp
      exact hp'
    · walk_at "MyOff"
  · clear F2 N2 hR
    intro h₃ tk₃ m₂ news₂ F3 N3 hJ
    replace F3 : Fr h₀ L h₃ _ := F3
    replace N3 : News h₀ L h₃ _ := N3
    k_steps
    exact ⟨rfl, _, _, _, rfl, F3⟩
end Mine
namespace Mine
theorem law_run {w : World} {p : Program} {loose : List Str} {mean : ExcName → Option Value} {mg mb : Str → Option Value} {base h₀ : Heap} {L fa sc c1 c2 c3 : Addr} {o1 o2 o3 : Obj} {cd : Value} {s : Shared} {vs0 : List Value} {ns : List Int} {m₀ : Str → Option Value} {v1 v2 v3 : Option Value}
    {body : List Stmt} {scope : Scope} {name : Str} {cells : List (Str × Addr)} {Q : Flow → Shared → Prop} {E : Value → Shared → Prop}
    (B : Below callerA base [] h₀) (F : Fr h₀ L s.heap m₀) (N : News h₀ L s.heap [(c3, o3), (c2, o2), (c1, o1)]) (X : (hd.heap_39 w.params).In h₀) (T : Top p loose mean mg mb h₀)
    (hL : h₀.IsList sc vs0.toArray) (hI : IntsAre vs0 ns) (hlay : (PyData.list (ns.map PyData.int)).layable0 = true)
    (hd1 : o1.data = .cell v1) (hd2 : o2.data = .cell v2) (hd3 : o3.data = .cell v3) (h12 : @LT.lt Nat _ c1 c2) (h23 : @LT.lt Nat _ c2 c3)
    (hb : body = fnBody (hd.heap_39 w.params) 150) (hs : scope = fnScope (hd.heap_39 w.params) 150) (hn : name = Str.ofString "law") (hc : cells = [(Str.ofString "told", c3), (Str.ofString "kind", c2), (Str.ofString "mode", c1)]) (hm₀ : m₀ (Str.ofString "script") = some (.ref sc))
    (hq : ∀ fl s', LawEnd h₀ L s fl s' → Q fl s') :
    Box (wpAny (model PySem.Challenge.rw_dn0160_04.row.prog w) (callerA.deeper (envX name scope L fa cd cells)) (execs body (envX name scope L fa cd cells)) Q E s) := by
  subst hb hs hn hc
  refine box_mono (law_body B F hm₀ (fun p hp => N p ?_) hd1 hd2 hd3 h12 h23 X T hL hI hlay) hq
  simp only [List.mem_cons, List.not_mem_nil, or_false] at hp ⊢
  rcases hp with h | h | h
  · exact .inr (.inr h)
  · exact .inr (.inl h)
  · exact .inl h
end Mine
theorem PySem.Challenge.cw_dn0160_04_holds : PySem.Challenge.rw_dn0160_04.Holds := by
  refine Mine.hd ?_
  k_go0
  all_goals try k_fold
  rename Fr _ _ _ _ => F1
  rename News _ _ _ _ => N1
  rename IntsAre _ _ => hI1
  rename Heap.IsList _ _ _ => hL1
  rename Below _ _ _ _ => B1
  rename Top _ _ _ _ _ _ => T1
  rename Frag.In _ _ => X1
  rename PyData.layable0 (PyData.list _) = true => hlay1
  refine Mine.Box.out ?_
  refine' Mine.law_run B1 F1 N1 X1 T1 hL1 hI1 hlay1 ?zd1 ?zd2 ?zd3 ?z12 ?z23 ?zb ?zs ?zn ?zc ?zm ?zq
  case zd1 => assumption
  case zd2 => assumption
  case zd3 => assumption
  case z12 => exact Nat.lt_succ_self _
  case z23 => exact Nat.lt_succ_self _
  case zb => kernel_rfl
  case zs => kernel_rfl
  case zn => kernel_rfl
  case zc => kernel_rfl
  case zm => kernel_rfl
  case zq =>
    rintro fl s' ⟨rfl, h', tk, m', rfl, F'⟩
    clear F1
    k_steps
