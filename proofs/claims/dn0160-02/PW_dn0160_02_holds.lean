import PyProof.Rows.All
import Wide.All
import OpenK.AllK
import Wide.FinOn
import PySem.Challenge.RW_dn0160_02
open PySem PySem.W PyProof.Rows PySem.Calls
set_option Elab.async false
set_option maxRecDepth 100000
set_option maxHeartbeats 8000000
namespace Mine
open Sem (wp)
open AutoSeq1 (wpAny_loadPart')
section
variable {prog : Program} {w : World} {A : Around} {E : Value → Shared → Prop} {s : Shared}

theorem nextOf_tuple_item {it l : Addr} {i : Nat} {items : Array Value} {x : Value} {Q : Value → Shared → Prop} (hit : s.heap.IsTupleIter it l i)
    (hl : s.heap.IsTuple l items) (hx : items[i]? = some x)
    (hQ : ∀ h', h'.IsTupleIter it l (i + 1) → Heap.SameBut it s.heap h' → Q x { s with heap := h' }) :
    wpAny (model prog w) A (Builtin.SmallTypes.nextOf (.ref it)) Q E s := by
  obtain ⟨o, ho, hc, hd⟩ := id hit
  obtain ⟨ol, hol, _, nl, hdl⟩ := hl
  unfold Builtin.SmallTypes.nextOf
  refine wpAny_bind (wpAny_callSpecial?_slot (name := Str.ofString "__next__") hit.typeIs F.slot_tuple_iterator_next
    (wpAny_call_entry F.slot_tuple_iterator_next hit.typeIs F.entry_tuple_iterator_next ?_ (F.args_tuple_iterator_next_1 _)))
  show wpAny _ _ (field (.ref it) 0 >>= _) _ _ s
  refine wpAny_bind (wpAny_field ho hd (x := .ref l) rfl ?_)
  show wpAny _ _ (if (Value.ref l == Value.none) = true then _ else _) _ _ s
  rw [if_neg (show ¬ ((Value.ref l == Value.none) = true) from Bool.false_ne_true)]
  show wpAny _ _ (field (.ref it) 1 >>= _) _ _ s
  refine wpAny_bind (wpAny_field ho hd (x := .int i 0) rfl ?_)
  show wpAny _ _ (seqItems? (.ref l) >>= _) _ _ s
  refine wpAny_bind (wpAny_seqItems hol hdl ?_)
  simp only [Int.toNat_natCast, hx]
  refine wpAny_bind (wpAny_setField ho hd (by simp) (wpAny_pure ⟨x, rfl, wpAny_pure (hQ _ ?_ (Heap.SameBut.update ..))⟩))
  exact ⟨_, Heap.get?_update_self _ ho (Obj.isFreed_of_fields (Obj.data_mapFields hd _)), (Obj.cls_mapFields ..).trans hc, by
    rw [Obj.data_mapFields hd]; simp [rawInt]⟩

theorem nextOf_tuple_end {it l : Addr} {i : Nat} {items : Array Value} {Q : Value → Shared → Prop} (hh : A.handled = none)
    (hit : s.heap.IsTupleIter it l i) (hl : s.heap.IsTuple l items) (hx : items[i]? = none)
    (hE : ∀ h' e, Heap.ExtBut it s.heap h' → (∃ o, h'.get? e = some o ∧ o.cls = .type "StopIteration") → E (.ref e) { s with heap := h' }) :
    wpAny (model prog w) A (Builtin.SmallTypes.nextOf (.ref it)) Q E s := by
  obtain ⟨o, ho, hc, hd⟩ := id hit
  obtain ⟨ol, hol, _, nl, hdl⟩ := hl
  unfold Builtin.SmallTypes.nextOf
  refine wpAny_bind (wpAny_callSpecial?_slot (name := Str.ofString "__next__") hit.typeIs F.slot_tuple_iterator_next
    (wpAny_call_entry F.slot_tuple_iterator_next hit.typeIs F.entry_tuple_iterator_next ?_ (F.args_tuple_iterator_next_1 _)))
  show wpAny _ _ (field (.ref it) 0 >>= _) _ _ s
  refine wpAny_bind (wpAny_field ho hd (x := .ref l) rfl ?_)
  show wpAny _ _ (if (Value.ref l == Value.none) = true then _ else _) _ _ s
  rw [if_neg (show ¬ ((Value.ref l == Value.none) = true) from Bool.false_ne_true)]
  show wpAny _ _ (field (.ref it) 1 >>= _) _ _ s
  refine wpAny_bind (wpAny_field ho hd (x := .int i 0) rfl ?_)
  show wpAny _ _ (seqItems? (.ref l) >>= _) _ _ s
  refine wpAny_bind (wpAny_seqItems hol hdl ?_)
  simp only [Int.toNat_natCast, hx]
  refine wpAny_bind (wpAny_rule (wpAny_bind (wpAny_setField ho hd (by simp) ?_)))
  show wpAny _ _ (newExc (.type "StopIteration") [] >>= _) _ _ _
  refine wpAny_bind ?_
  simp only [newExc, newTuple]
  refine wpAny_bind (wpAny_newObj_type ?_ (by size_fits))
  refine wpAny_bind (m := firstArgMember _ _) (wpAny_of_eq (a := Value.none) (by first | rfl | (simp only [firstArgMember]; rfl)) ?_)
  refine wpAny_newObj_type ?_ (by size_fits)
  simp only [raiseNew]
  refine wpAny_bind (wpAny_handled ?_)
  first | rw [show A.in1.handled = none from hh] | rw [hh]
  refine wpAny_bind (wpAny_pure (wpAny_throw ?_))
  exact hE _ _ (((Heap.SameBut.update ..).extBut.push _).push _) ⟨_, Heap.get?_push_size _ rfl, rfl⟩
end

theorem drawsTuple {prog : Program} {w : World} {A : Around} (hh : A.handled = none) (it l : Addr) (hne : l ≠ it) (items : Array Value) :
    Draws prog w A it [it, l] items.size (fun i v => items[i]? = some v) (fun i h => h.IsTupleIter it l i ∧ h.IsTuple l items) where
  live := fun _ _ st => let ⟨o, ho, _⟩ := st.1; ⟨o, ho⟩
  frame := fun _ _ _ st hk => ⟨st.1.at fun o e => hk it (by simp) o e, st.2.at fun o e => hk l (by simp) o e⟩
  item := fun i s Q E hi st hQ => by
    refine nextOf_tuple_item st.1 st.2 (x := items[i]) (by simp [hi]) fun h' hit' hs' => ?_
    exact hQ _ h' s.toks (by simp [hi]) ⟨hit', st.2.extBut hs'.extBut hne⟩ hs'
  done := fun s Q E st hE => nextOf_tuple_end hh st.1 st.2 (by simp) hE

theorem meets_enumerate_newT (l : Addr) (items : Array Value) (n : Nat) (dct : Option Addr) (sl : Array (Option Value)) :
    Meets (Builtin.«enumerate.__new__» ⟨[.type "enumerate", .ref l], []⟩) (fun _ R s => s.heap.get? l = some { cls := .type "tuple", dict := dct, data := .seq items n, slots := sl } ∧
      R (.ok (.ret (.ref (s.heap.push { cls := .type "tuple_iterator", data := .fields #[.ref l, .int 0 0] }).objs.size)))
        { s with heap := (s.heap.push { cls := .type "tuple_iterator", data := .fields #[.ref l, .int 0 0] }).push { cls := .type "enumerate", data := .fields #[.none, .bool false, .ref s.heap.objs.size, rawInt 0, .none, .none] } }) :=
  .of_wp fun prog w A R s h => by
    obtain ⟨hp, g, d, tk, os⟩ := s; obtain ⟨hl, h⟩ := h
    have hsub := sub_enumerate
    have hL : Heap.IsTuple (Shared.heap ⟨hp, g, d, tk, os⟩) l items := ⟨_, hl, rfl, n, rfl⟩
    wp_walk using wpAny_loadPart' hl
    refine wpAny_stack_any fun st => wpAny_pure ?_
    split
    · rename_i c _ _ _ _ _
      cases (c == Value.type "enumerate")
      · wp_walk using wpAny_loadPart' hl, wpAny_pyIter_tuple hL
        exact ⟨_, rfl, h⟩
      · wp_walk using wpAny_loadPart' hl, wpAny_pyIter_tuple hL
        exact ⟨_, rfl, h⟩
    · wp_walk using wpAny_loadPart' hl, wpAny_pyIter_tuple hL
      exact ⟨_, rfl, h⟩

section
variable {prog : Program} {w : World} {A : Around} {E : Value → Shared → Prop} {s : Shared}
theorem call_enumerate_tuple {l : Addr} {items : Array Value} {Q : Value → Shared → Prop} (hL : s.heap.IsTuple l items)
    (h : ∀ h', IsEnum h' (s.heap.objs.size + 1) s.heap.objs.size 0 .none → h'.IsTupleIter s.heap.objs.size l 0 → h'.objs.size = s.heap.objs.size + 2 →
      (∀ b o, s.heap.get? b = some o → h'.get? b = some o) → Q (.ref (s.heap.objs.size + 1)) { s with heap := h' }) :
    wpAny (model prog w) A (call (.type "enumerate") [.ref l]) Q E s := by
  obtain ⟨⟨c, dct, dt, sl⟩, hl, hc, n, hd⟩ := hL
  replace hc : c = .type "tuple" := hc
  replace hd : dt = .seq items n := hd
  subst hc hd
  refine callType_new F.called_enumerate (by decide) (F.typeCall_enumerate_1 _) (F.newCall_enumerate_1 _) (fun obj => F.args_object_init_2 obj _) F.entry_enumerate_new
    (meets_enumerate_newT l items n dct sl) ⟨hl, ?_⟩
  have hz : (s.heap.push { cls := .type "tuple_iterator", data := .fields #[.ref l, .int 0 0] }).objs.size = s.heap.objs.size + 1 := Heap.size_push ..
  show _ ∧ _
  rw [hz]
  have he : IsEnum ((s.heap.push { cls := .type "tuple_iterator", data := .fields #[.ref l, .int 0 0] }).push
      { cls := .type "enumerate", data := .fields #[.none, .bool false, .ref s.heap.objs.size, rawInt 0, .none, .none] }) (s.heap.objs.size + 1) s.heap.objs.size 0 .none := by
    have := Heap.get?_push_size (s.heap.push { cls := .type "tuple_iterator", data := .fields #[.ref l, .int 0 0] })
      (o := { cls := .type "enumerate", data := .fields #[.none, .bool false, .ref s.heap.objs.size, rawInt 0, .none, .none] }) rfl
    rw [hz] at this; exact this
  refine ⟨⟨_, he, rfl⟩, h _ he ⟨_, Heap.get?_push_of_some _ (Heap.get?_push_size _ rfl), rfl, rfl⟩ (by rw [Heap.size_push, hz]) fun b o x => Heap.get?_push_of_some _ (Heap.get?_push_of_some _ x)⟩
end

/-! A loop by an invariant over the frame's map and the ledger; the iterator's own objects apart; any else-block. -/

theorem objsAt {h : Heap} : ∀ {ws : List Addr}, (∀ b ∈ ws, ∃ o, h.get? b = some o) → ∃ its : List (Addr × Obj), its.map (·.1) = ws ∧ ∀ p ∈ its, h.get? p.1 = some p.2
  | [], _ => ⟨[], rfl, fun _ hp => nomatch hp⟩
  | b :: r, hb => by
    obtain ⟨o, ho⟩ := hb b (.head _)
    obtain ⟨its, e, hits⟩ := objsAt (ws := r) fun c hc => hb c (.tail _ hc)
    refine ⟨(b, o) :: its, by simp [e], fun p hp => ?_⟩
    rcases List.mem_cons.mp hp with rfl | hp
    · exact ho
    · exact hits p hp

theorem one_of {its : List (Addr × Obj)} {a : Addr} (h : its.map (·.1) = [a]) : ∃ o, its = [(a, o)] := by
  cases its with
  | nil => cases h
  | cons p r =>
    cases r with
    | nil => obtain ⟨b, o⟩ := p; simp at h; subst h; exact ⟨o, rfl⟩
    | cons q r => simp at h
theorem two_of {its : List (Addr × Obj)} {a b : Addr} (h : its.map (·.1) = [a, b]) : ∃ o o', its = [(a, o), (b, o')] := by
  cases its with
  | nil => cases h
  | cons p r =>
    obtain ⟨c, o⟩ := p
    simp at h
    obtain ⟨rfl, h⟩ := h
    obtain ⟨o', rfl⟩ := one_of (its := r) (a := b) (by simpa using h)
    exact ⟨o, o', rfl⟩

def StepEnd (h₀ : Heap) (L : Addr) (ws : List Addr) (its : List (Addr × Obj)) (s : Shared) (Jn : (Str → Option Value) → List (Addr × Obj) → Prop) (s₃ : Shared) : Prop :=
  ∃ h' tk m₂ news₂, s₃ = { s with heap := h', toks := tk } ∧ Fr h₀ L h' m₂ ∧ News h₀ L h' (its ++ news₂) ∧ (∀ p ∈ news₂, p.1 ∉ ws) ∧ Jn m₂ news₂

def StepPost (h₀ : Heap) (L : Addr) (ws : List Addr) (its : List (Addr × Obj)) (s : Shared) (Jn : (Str → Option Value) → List (Addr × Obj) → Prop) (Q : Flow → Shared → Prop) (f : Flow) (s₃ : Shared) : Prop :=
  match f with
  | .ret v => Q (.ret v) s₃
  | .brk => Q .next s₃
  | .cont => StepEnd h₀ L ws its s Jn s₃
  | .next => StepEnd h₀ L ws its s Jn s₃

theorem my_loop {prog : Program} {w : World} {A : Around} {E : Value → Shared → Prop} {s : Shared} {env : Env} {h₀ : Heap} {target : Expr} {body orelse : List Stmt} {Q : Flow → Shared → Prop}
    {I : Addr} {fp wr : List Addr} {ws : List Addr} {n : Nat} {P Md : Nat → Value → Heap → Prop} {St : Nat → Heap → Prop} {m : Str → Option Value} {news : List (Addr × Obj)}
    (W : KTurns prog w A target I fp wr n P Md St)
    (hfp : ∀ b ∈ fp, b ∈ ws ∨ ∃ o, h₀.get? b = some o) (hwr : ∀ b ∈ wr, b ∈ ws) (hws : ∀ b ∈ ws, h₀.get? b = none ∧ b ≠ env.locals)
    (hob : ∀ i h, St i h → ∀ b ∈ ws, ∃ o, h.get? b = some o)
    (hnw : ∀ p ∈ news, p.1 ∉ ws) (hst : St 0 s.heap) (F : Fr h₀ env.locals s.heap m) (N : News h₀ env.locals s.heap news)
    (J : Nat → (Str → Option Value) → List (Addr × Obj) → Prop) (h0 : J 0 m news)
    (step : ∀ i v m₁ news₁ h₁ tk₁ its, i < n → P i v h₁ → J i m₁ news₁ → (∀ p ∈ news₁, p.1 ∉ ws) → its.map (·.1) = ws → Fr h₀ env.locals h₁ m₁ → News h₀ env.locals h₁ (its ++ news₁) →
      wpAny (model prog w) A (assign target env v) (fun _ s₂ => wpAny (model prog w) A (execs body env)
        (StepPost h₀ env.locals ws its s (J (i + 1)) Q) E s₂) E { s with heap := h₁, toks := tk₁ })
    (done : ∀ h' tk m' news', Fr h₀ env.locals h' m' → News h₀ env.locals h' news' → (∀ p ∈ news', p.1 ∉ ws) → J n m' news' → wpAny (model prog w) A (execs orelse env) Q E { s with heap := h', toks := tk })
    (hE : PassesOwn (model prog w) A env E) :
    codeAny (model prog w) A (.forLoop target (.ref I) body orelse env) (fun r s' => match r with | .ok f => Q f s' | .error e => cameBackBy (model prog w) A env E e s') s := by
  have hLw : env.locals ∉ wr := fun h => (hws _ (hwr _ h)).2 rfl
  have old : ∀ b o, h₀.get? b = some o → b ∉ wr := fun b o e hb => by rw [(hws b (hwr b hb)).1] at e; cases e
  have nw : ∀ b, b ∉ ws → b ∉ wr := fun b hb h => hb (hwr b h)
  refine codeAny_forLoop_any
    (fun k s' => ∃ h' tk m' news' i, s' = { s with heap := h', toks := tk } ∧ St i h' ∧ Fr h₀ env.locals h' m' ∧ News h₀ env.locals h' news' ∧ (∀ p ∈ news', p.1 ∉ ws) ∧ J i m' news' ∧ i ≤ n ∧ k = n + 1 - i) ?_ (n + 1)
    ⟨s.heap, s.toks, m, news, 0, rfl, hst, F, N, hnw, h0, Nat.zero_le _, rfl⟩
  rintro k s' ⟨h', tk, m', news', i, rfl, hst', F', N', hnw', hJ, hi, rfl⟩
  have next : ∀ h₁ : Heap, (∀ b o, b ∉ wr → h'.get? b = some o → h₁.get? b = some o) → Fr h₀ env.locals h₁ m' ∧ News h₀ env.locals h₁ news' := fun h₁ hk₁ =>
    ⟨⟨F'.ns.at' fun o e => hk₁ _ o hLw e, fun b o e => hk₁ b o (old b o e) (F'.keep b o e), F'.above⟩, fun p hp => ⟨hk₁ _ _ (nw _ (hnw' p hp)) (N' p hp).1, (N' p hp).2⟩⟩
  by_cases hlt : i < n
  · refine W.item i _ _ _ hlt hst' fun v h₁ tk₁ hMd hk₁ => ?_
    refine W.go i v _ _ _ hMd fun h₂ hP hst₂ hk₂ => ?_
    obtain ⟨F₂, N₂⟩ := next h₂ fun b o hb x => hk₂ b o hb (hk₁ b o hb x)
    obtain ⟨its, hits, hat⟩ := objsAt (hob _ _ hst₂)
    have Nits : News h₀ env.locals h₂ (its ++ news') := fun p hp => by
      rcases List.mem_append.mp hp with hp | hp
      · have hb : p.1 ∈ ws := hits ▸ List.mem_map.mpr ⟨p, hp, rfl⟩
        exact ⟨hat p hp, (hws _ hb).2, (hws _ hb).1⟩
      · exact N₂ p hp
    have fin : ∀ s₃, StepEnd h₀ env.locals ws its s (J (i + 1)) s₃ → ∃ k', k' < n + 1 - i ∧ ∃ h' tk m' news' i, s₃ = { s with heap := h', toks := tk } ∧ St i h' ∧ Fr h₀ env.locals h' m' ∧ News h₀ env.locals h' news' ∧ (∀ p ∈ news', p.1 ∉ ws) ∧ J i m' news' ∧ i ≤ n ∧ k' = n + 1 - i := by
      rintro s₃ ⟨h₃, tk₃, m₃, news₃, rfl, F₃, N₃, ha₃, hJ₃⟩
      refine ⟨n + 1 - (i + 1), by omega, h₃, tk₃, m₃, news₃, i + 1, rfl, ?_, F₃, fun p hp => N₃ p (List.mem_append_right _ hp), ha₃, hJ₃, hlt, rfl⟩
      refine W.frame _ _ _ hst₂ fun b hb o e => ?_
      rcases hfp b hb with hb | ⟨o₀, ho₀⟩
      · obtain ⟨p, hp, rfl⟩ := List.mem_map.mp (hits ▸ hb)
        have q := hat p hp
        rw [e] at q
        cases q
        exact (N₃ p (List.mem_append_left _ hp)).1
      · have q := F₂.keep b o₀ ho₀
        rw [e] at q
        cases q
        exact F₃.keep b o ho₀
    refine wpAny_mono (step i v m' news' h₂ tk₁ its hlt hP hJ hnw' hits F₂ Nits) (fun _ s₂ h₂' => wpAny_mono h₂' (fun f s₃ h₃ => ?_) hE) hE
    cases f with
    | ret v => exact h₃
    | brk => exact h₃
    | cont => exact fin s₃ h₃
    | next => exact fin s₃ h₃
  · have hin : i = n := by omega
    subst hin
    refine W.done _ _ _ hst' fun h₁ tk₁ hk₁ => ?_
    obtain ⟨F₁, N₁⟩ := next h₁ hk₁
    exact wpAny_mono (done h₁ tk₁ m' news' F₁ N₁ hnw' hJ) (fun _ _ x => x) hE

/-- the answer of a loop's statement -/
abbrev LoopR (prog : Program) (w : World) (A : Around) (env : Env) (Q : Flow → Shared → Prop) (E : Value → Shared → Prop) : Result → Shared → Prop :=
  fun r s' => match r with | .ok f => Q f s' | .error e => cameBackBy (model prog w) A env E e s'

section
variable {prog : Program} {w : World} {A : Around} {E : Value → Shared → Prop} {s : Shared} {env : Env} {h₀ : Heap} {target : Expr} {body orelse : List Stmt} {Q : Flow → Shared → Prop} {m : Str → Option Value} {news : List (Addr × Obj)}

theorem base_new {L b : Addr} {h : Heap} (F : Fr h₀ L h m) (hb : h.objs.size ≤ b) : h₀.get? b = none := by
  cases e : h₀.get? b with
  | none => rfl
  | some o => exact absurd (Heap.lt_size (F.keep _ _ e)) (Nat.not_lt.mpr hb)

/-- over a tuple of the ground -/
theorem iter_tuple {T : Addr} {items : Array Value} (hh : A.handled = none) (hT : h₀.IsTuple T items) (F : Fr h₀ env.locals s.heap m) (N : News h₀ env.locals s.heap news)
    (J : Nat → (Str → Option Value) → List (Addr × Obj) → Prop) (h0 : J 0 m news)
    (step : ∀ i v m₁ news₁ h₁ tk₁ I o, items[i]? = some v → J i m₁ news₁ → (∀ p ∈ news₁, p.1 ≠ I) → Fr h₀ env.locals h₁ m₁ → News h₀ env.locals h₁ ((I, o) :: news₁) → (∀ p ∈ news, p.1 < I) →
      wpAny (model prog w) A (assign target env v) (fun _ s₂ => wpAny (model prog w) A (execs body env)
        (StepPost h₀ env.locals [I] [(I, o)] s (J (i + 1)) Q) E s₂) E { s with heap := h₁, toks := tk₁ })
    (done : ∀ h' tk m' news', Fr h₀ env.locals h' m' → News h₀ env.locals h' news' → J items.size m' news' → wpAny (model prog w) A (execs orelse env) Q E { s with heap := h', toks := tk })
    (hE : PassesOwn (model prog w) A env E) :
    wpAny (model prog w) A (pyIter (.ref T)) (fun it s₂ => codeAny (model prog w) A (.forLoop target it body orelse env) (LoopR prog w A env Q E) s₂) E s := by
  obtain ⟨oT, hoT, hcT, nT, hdT⟩ := id hT
  have hTs : s.heap.IsTuple T items := ⟨oT, F.keep _ _ hoT, hcT, nT, hdT⟩
  have hlt : T < s.heap.objs.size := Heap.lt_size (F.keep _ _ hoT)
  have hne : T ≠ s.heap.objs.size := Nat.ne_of_lt hlt
  have hLs : env.locals < s.heap.objs.size := F.ns.lt
  refine wpAny_pyIter_tuple hTs ?_
  refine my_loop (s := { s with heap := s.heap.push _ }) (ws := [s.heap.objs.size]) (KTurns.ofWalks (Walks.tuple hh s.heap.objs.size T hne items) fun i v s Q E st q => letGo_tupleiter st.1 q) ?_ ?_ ?_ ?_ ?_ ?_ (F.push _) (fun p hp => ⟨Heap.get?_push_of_some _ (N p hp).1, (N p hp).2⟩) J h0 ?_ ?_ hE
  · intro b hb
    have hb' : b = s.heap.objs.size ∨ b = T := by simpa using hb
    rcases hb' with rfl | rfl
    · exact .inl (by simp)
    · exact .inr ⟨oT, hoT⟩
  · intro b hb; simpa using hb
  · intro b hb
    have hb' : b = s.heap.objs.size := by simpa using hb
    subst hb'
    exact ⟨base_new F (Nat.le_refl _), Nat.ne_of_gt hLs⟩
  · rintro i h ⟨⟨o, ho, _⟩, _⟩ b hb
    have hb' : b = s.heap.objs.size := by simpa using hb
    subst hb'
    exact ⟨o, ho⟩
  · intro p hp hI
    have hb' : p.1 = s.heap.objs.size := by simpa using hI
    exact absurd (Heap.lt_size (N p hp).1) (hb' ▸ Nat.lt_irrefl _)
  · exact ⟨⟨_, Heap.get?_push_size _ rfl, rfl, rfl⟩, hTs.push _⟩
  · intro i v m₁ news₁ h₁ tk₁ its hi hP hJ hoff hits F₁ N₁
    obtain ⟨o, rfl⟩ := one_of hits
    exact step i v m₁ news₁ h₁ tk₁ _ o hP hJ (fun p hp e => hoff p hp (by simp [e])) F₁ N₁ fun p hp => Heap.lt_size (N p hp).1
  · intro h' tk m' news' F' N' _ hJ
    exact done h' tk m' news' F' N' hJ

/-- over enumerate of a tuple of the ground -/
theorem iter_enumTuple {elts : List Expr} {k : Nat} {pos : Pos} {T : Addr} {items : Array Value} (hh : A.handled = none) (hT : h₀.IsTuple T items) (F : Fr h₀ env.locals s.heap m) (N : News h₀ env.locals s.heap news)
    (J : Nat → (Str → Option Value) → List (Addr × Obj) → Prop) (h0 : J 0 m news)
    (step : ∀ i v t U m₁ news₁ h₁ tk₁ e oe I o, items[i]? = some v → J i m₁ news₁ → (∀ p ∈ news₁, p.1 ≠ e ∧ p.1 ≠ I) → IsTup h₁ U #[.int (i : Int) t, v] → Fr h₀ env.locals h₁ m₁ → News h₀ env.locals h₁ ((e, oe) :: (I, o) :: news₁) → (∀ p ∈ news, p.1 < I) → I < e →
      wpAny (model prog w) A (assign (.Tuple elts k pos) env (.ref U)) (fun _ s₂ => wpAny (model prog w) A (execs body env)
        (StepPost h₀ env.locals [e, I] [(e, oe), (I, o)] s (J (i + 1)) Q) E s₂) E { s with heap := h₁, toks := tk₁ })
    (done : ∀ h' tk m' news', Fr h₀ env.locals h' m' → News h₀ env.locals h' news' → J items.size m' news' → wpAny (model prog w) A (execs orelse env) Q E { s with heap := h', toks := tk })
    (hE : PassesOwn (model prog w) A env E) :
    wpAny (model prog w) A (call (.type "enumerate") [.ref T]) (fun xv s₁ => wpAny (model prog w) A (pyIter xv) (fun it s₂ => codeAny (model prog w) A (.forLoop (.Tuple elts k pos) it body orelse env) (LoopR prog w A env Q E) s₂) E s₁) E s := by
  obtain ⟨oT, hoT, hcT, nT, hdT⟩ := id hT
  have hTs : s.heap.IsTuple T items := ⟨oT, F.keep _ _ hoT, hcT, nT, hdT⟩
  have hlt : T < s.heap.objs.size := Heap.lt_size (F.keep _ _ hoT)
  have hLs : env.locals < s.heap.objs.size := F.ns.lt
  refine call_enumerate_tuple hTs fun h' hE' hI hsz hk => ?_
  refine wpAny_pyIter_enum hE' ?_
  have hne1 : T ≠ s.heap.objs.size := Nat.ne_of_lt hlt
  have hne2 : s.heap.objs.size + 1 ≠ T := Nat.ne_of_gt (Nat.lt_succ_of_lt hlt)
  refine my_loop (s := { s with heap := h' }) (ws := [s.heap.objs.size + 1, s.heap.objs.size])
    (KTurns.ofWalksU (WalksT.enumerateD (A := A) (drawsTuple (A := A.in1) hh s.heap.objs.size T hne1 items) (s.heap.objs.size + 1) (Nat.succ_ne_self _) (by simp [hne2]) (by simp)).toU)
    ?_ ?_ ?_ ?_ ?_ ?_ (F.keeps hk) (N.grown hk) J h0 ?_ ?_ hE
  · intro b hb
    have hb' : b = s.heap.objs.size + 1 ∨ b = s.heap.objs.size ∨ b = T := by simpa using hb
    rcases hb' with rfl | rfl | rfl
    · exact .inl (by simp)
    · exact .inl (by simp)
    · exact .inr ⟨oT, hoT⟩
  · intro b hb; simpa using hb
  · intro b hb
    have hb' : b = s.heap.objs.size + 1 ∨ b = s.heap.objs.size := by simpa using hb
    rcases hb' with rfl | rfl
    · exact ⟨base_new F (Nat.le_succ _), Nat.ne_of_gt (Nat.lt_succ_of_lt hLs)⟩
    · exact ⟨base_new F (Nat.le_refl _), Nat.ne_of_gt hLs⟩
  · rintro i h ⟨⟨old, he⟩, ⟨o, ho, _⟩, _⟩ b hb
    have hb' : b = s.heap.objs.size + 1 ∨ b = s.heap.objs.size := by simpa using hb
    rcases hb' with rfl | rfl
    · exact ⟨_, he⟩
    · exact ⟨o, ho⟩
  · intro p hp hI
    have hb' : p.1 = s.heap.objs.size + 1 ∨ p.1 = s.heap.objs.size := by simpa using hI
    have := Heap.lt_size (N p hp).1
    rcases hb' with e | e
    · exact absurd (e ▸ this : s.heap.objs.size + 1 < s.heap.objs.size) (Nat.not_lt.mpr (Nat.le_succ _))
    · exact absurd (e ▸ this : s.heap.objs.size < s.heap.objs.size) (Nat.lt_irrefl _)
  · exact ⟨⟨.none, hE'⟩, hI, hTs.at fun o e => hk T o e⟩
  · intro i v m₁ news₁ h₁ tk₁ its hi hP hJ hoff hits F₁ N₁
    obtain ⟨U, vals, rfl, ⟨t, x, hx, rfl⟩, hU⟩ := hP
    obtain ⟨oe, o, rfl⟩ := two_of hits
    exact step i x t U m₁ news₁ h₁ tk₁ _ oe _ o hx hJ (fun p hp => ⟨fun e => hoff p hp (by simp [e]), fun e => hoff p hp (by simp [e])⟩) hU F₁ N₁ (fun p hp => Heap.lt_size (N p hp).1) (Nat.lt_succ_self _)
  · intro h' tk m' news' F' N' _ hJ
    exact done h' tk m' news' F' N' hJ
end

/-- a call of a def of the text, its ground the whole heap: what the caller has made stands, by the heap's growing alone -/
theorem call_pure {prog : Program} {w : World} {A A₀ : Around} {E : Value → Shared → Prop} {s : Shared} {K : Frag} {L : Addr} {h₀ base : Heap} {m mg mb : Str → Option Value} {p : Program} {loose : List Str} {mean : ExcName → Option Value} {Q : Value → Shared → Prop}
    {env : Env} {outer : List Env} {name qual : Str} {params : Arguments} {body : List Stmt} {scope : Scope} {dV kV doc pm cdv ct oc : Value} {an od : Option Addr} {osl : Array (Option Value)} {f : Addr} {vals : List Value} {binds : List (Str × Value)}
    (B : Below A₀ base outer h₀) (F : Fr h₀ L s.heap m) (X₀ : K.In h₀) (T : Top p loose mean mg mb h₀) (hA : A.frames = some (env :: outer)) (hf : env.frame = some L) (hke : env.scope.kind = .function)
    (ho : K.lookup f = some ⟨oc, od, .func (fnOf name qual params body scope dV kV doc pm an cdv ct), osl⟩) (hcd : codeIn K cdv qual = true) (hroom : A.depth < recursionLimit)
    (hbind : BindsTo s (fnOf name qual params body scope dV kV doc pm an cdv ct) ⟨vals, []⟩ binds) (hloc : ∀ y ∈ binds, scope.names.lookup y.1 = some .local)
    (h : ∀ L' h₁, Fr s.heap L' h₁ (fun y => binds.reverse.lookup y) → News s.heap L' h₁ [] → Below A base (env :: outer) s.heap → K.In s.heap → Top p loose mean mg mb s.heap →
      wpAny (model prog w) (A.deeper (envOf qual scope L' f cdv)) (execs body (envOf qual scope L' f cdv))
        (fun fl s' => Q (match fl with | .ret v => v | _ => .none) s') (fun _ _ => False) { s with heap := h₁, toks := s.toks + binds.length })
    (hco : scope.isCoroutine = false) (hgen : scope.isGenerator = false) (hk : scope.kind = .function)
    (hcell : ∀ x ∈ scope.names, x.2 ≠ .cell) : wpAny (model prog w) A (call (.ref f) vals) Q E s := by
  refine wpAny_call ?_
  obtain ⟨FG, BG, st, lv⟩ := groundX (R := fun _ _ => True) B F (News.nil (h₀ := h₀) (L := L)) hA hf hke
  have st' : h₀.StaysIn s.heap := st
  refine codeAny_call_def (fd := fnOf name qual params body scope dV kV doc pm an cdv ct) (body := body) (binds := binds) hroom ((X₀.keeps F.keep) _ _ ho) rfl (T.nolimit.keeps F.keep) (codeRec_of (X₀.keeps F.keep) hcd) rfl hbind hcell hloc (fun h₁ hns hk₁ => ?_) hco hgen hk
  exact wpAny_mono (h s.heap.objs.size h₁ ⟨hns, hk₁, Nat.le_refl _⟩ News.nil BG (X₀.keeps F.keep) (T.keeps st')) (fun fl s' hl => hl) fun _ _ x => x.elim
/-- the first sign whose test holds -/
def pick (test : Int → Bool) (dflt : Str) : List (Int × Str) → Str
  | [] => dflt
  | (b, c) :: r => if test b then c else pick test dflt r
def pickTest (x : Int) (i : Nat) (b : Int) : Bool := if i = 0 then decide (Builtin.bitAnd x 61440 = b) else decide (Builtin.bitAnd x b = b)
def pickDflt (i : Nat) : Str := if i = 0 then Str.ofString "?" else Str.ofString "-"
def fmTab : List (List (Int × Str)) :=
  [[(40960, Str.ofString "l"), (49152, Str.ofString "s"), (32768, Str.ofString "-"), (24576, Str.ofString "b"), (16384, Str.ofString "d"), (8192, Str.ofString "c"), (4096, Str.ofString "p")],
   [(256, Str.ofString "r")], [(128, Str.ofString "w")], [(2112, Str.ofString "s"), (2048, Str.ofString "S"), (64, Str.ofString "x")],
   [(32, Str.ofString "r")], [(16, Str.ofString "w")], [(1032, Str.ofString "s"), (1024, Str.ofString "S"), (8, Str.ofString "x")],
   [(4, Str.ofString "r")], [(2, Str.ofString "w")], [(513, Str.ofString "t"), (512, Str.ofString "T"), (1, Str.ofString "x")]]
def fmSign (x : Int) (i : Nat) : Str := pick (pickTest x i) (pickDflt i) (fmTab.getD i [])
def fmSigns (x : Int) : List Str := (List.range 10).map (fmSign x)
def fmText (x : Int) : Str := Txt.join (Str.ofString "") (fmSigns x)

theorem fmSigns_take (x : Int) (i : Nat) (hi : i < 10) : (fmSigns x).take (i + 1) = (fmSigns x).take i ++ [fmSign x i] := by
  have : (fmSigns x)[i]? = some (fmSign x i) := by simp [fmSigns, hi]
  rw [List.take_add_one, this]; rfl
theorem fmSigns_length (x : Int) : (fmSigns x).length = 10 := by simp [fmSigns]

/-- a tuple that the written part holds -/
def tupIn (K : Frag) (a : Addr) : Option (List Value) := match K.lookup a with
  | some ⟨.type "tuple", _, .seq xs _, _⟩ => some xs.toList
  | _ => none
theorem tupIn_is {K : Frag} {h : Heap} (X : K.In h) {a : Addr} {vs : List Value} (e : tupIn K a = some vs) : h.IsTuple a vs.toArray := by
  unfold tupIn at e
  split at e
  · rename_i d xs n sl q
    cases e
    exact ⟨_, X _ _ q, rfl, n, by simp⟩
  · cases e

/-- a row of the table: its pairs' places and what they hold -/
def RowIs (h : Heap) (T : Addr) (ps : List (Addr × Int × Str)) : Prop :=
  h.IsTuple T (ps.map fun q => Value.ref q.1).toArray ∧ ∀ q ∈ ps, ∃ t u, h.IsTuple q.1 #[.int q.2.1 t, .str q.2.2 u]
def TabIs (h : Heap) (T : Addr) (rows : List (Addr × List (Addr × Int × Str))) : Prop :=
  h.IsTuple T (rows.map fun r => Value.ref r.1).toArray ∧ (∀ r ∈ rows, RowIs h r.1 r.2) ∧ rows.map (fun r => r.2.map (·.2)) = fmTab
def rowIn (K : Frag) (T : Addr) (ps : List (Addr × Int × Str)) : Prop :=
  tupIn K T = some (ps.map fun q => Value.ref q.1) ∧ ∀ q ∈ ps, ∃ t u, tupIn K q.1 = some [.int q.2.1 t, .str q.2.2 u]
theorem RowIs.of {K : Frag} {h : Heap} (X : K.In h) {T : Addr} {ps : List (Addr × Int × Str)} (e : rowIn K T ps) : RowIs h T ps := by
  refine ⟨tupIn_is X e.1, fun q hq => ?_⟩
  obtain ⟨t, u, e⟩ := e.2 q hq
  exact ⟨t, u, tupIn_is X e⟩
theorem TabIs.of {K : Frag} {h : Heap} (X : K.In h) {T : Addr} {rows : List (Addr × List (Addr × Int × Str))} (e : tupIn K T = some (rows.map fun r => Value.ref r.1)) (e' : ∀ r ∈ rows, rowIn K r.1 r.2) (e'' : rows.map (fun r => r.2.map (·.2)) = fmTab) : TabIs h T rows :=
  ⟨tupIn_is X e, fun r hr => .of X (e' r hr), e''⟩
theorem TabIs.keeps {h h' : Heap} {T : Addr} {rows : List (Addr × List (Addr × Int × Str))} (x : TabIs h T rows) (k : ∀ b o, h.get? b = some o → h'.get? b = some o) : TabIs h' T rows := by
  have up : ∀ {a vs}, h.IsTuple a vs → h'.IsTuple a vs := fun ⟨o, ho, r⟩ => ⟨o, k _ _ ho, r⟩
  refine ⟨up x.1, fun r hr => ⟨up (x.2.1 r hr).1, fun q hq => ?_⟩, x.2.2⟩
  obtain ⟨t, u, e⟩ := (x.2.1 r hr).2 q hq
  exact ⟨t, u, up e⟩
theorem TabIs.item {h : Heap} {T : Addr} {rows : List (Addr × List (Addr × Int × Str))} (x : TabIs h T rows) {i : Nat} {v : Value} (e : (rows.map fun r => Value.ref r.1).toArray[i]? = some v) :
    ∃ S ps, v = .ref S ∧ RowIs h S ps ∧ fmTab.getD i [] = ps.map (·.2) ∧ i < 10 := by
  have e' : rows[i]?.map (fun r => Value.ref r.1) = some v := by simpa using e
  obtain ⟨r, hr, rfl⟩ := Option.map_eq_some_iff.mp e'
  have h10 : rows.length = 10 := by have := congrArg List.length x.2.2; simpa [fmTab] using this
  refine ⟨r.1, r.2, rfl, x.2.1 r (List.mem_of_getElem? hr), ?_, ?_⟩
  · rw [← x.2.2]; simp [List.getD, hr]
  · have := (List.getElem?_eq_some_iff.mp hr).1; omega

theorem chain2 {m : Str → Option Value} {a b : Str} {u v : Value} (h1 : m a = some u) (h2 : m b = some v) : m = fun y => if y = a then some u else if y = b then some v else m y := by
  funext y; split
  · subst_vars; exact h1
  · split
    · subst_vars; exact h2
    · rfl
theorem chain3 {m : Str → Option Value} {a b c : Str} {u v w : Value} (h1 : m a = some u) (h2 : m b = some v) (h3 : m c = some w) : m = fun y => if y = a then some u else if y = b then some v else if y = c then some w else m y := by
  funext y; split
  · subst_vars; exact h1
  · split
    · subst_vars; exact h2
    · split
      · subst_vars; exact h3
      · rfl
theorem pick_skip {test : Int → Bool} {d : Str} {l : List (Int × Str)} : ∀ {i : Nat}, (∀ j q, j < i → l[j]? = some q → test q.1 = false) → pick test d l = pick test d (l.drop i) := by
  induction l with
  | nil => intro i _; simp
  | cons p r ih =>
    intro i h
    cases i with
    | zero => rfl
    | succ i =>
      obtain ⟨b, c⟩ := p
      have h0 := h 0 (b, c) (Nat.succ_pos _) rfl
      rw [List.drop_succ_cons, ← ih (i := i) fun j q hj hq => h (j + 1) q (Nat.succ_lt_succ hj) (by simpa using hq)]
      simp [pick, h0]

theorem step_next {h₀ : Heap} {L : Addr} {ws : List Addr} {its : List (Addr × Obj)} {s : Shared} {Jn : (Str → Option Value) → List (Addr × Obj) → Prop} {Q : Flow → Shared → Prop} {h' : Heap} {tk : Nat} {m₂ : Str → Option Value} {news₂ : List (Addr × Obj)}
    (F : Fr h₀ L h' m₂) (N : News h₀ L h' (its ++ news₂)) (hoff : ∀ p ∈ news₂, p.1 ∉ ws) (hJ : Jn m₂ news₂) : StepPost h₀ L ws its s Jn Q .next { s with heap := h', toks := tk } :=
  ⟨h', tk, m₂, news₂, rfl, F, N, hoff, hJ⟩
theorem news_tail {h₀ h : Heap} {L : Addr} {p : Addr × Obj} {l : List (Addr × Obj)} (N : News h₀ L h (p :: l)) : News h₀ L h l := fun q hq => N q (.tail _ hq)
theorem pick_at {test : Int → Bool} {d : Str} {l : List (Int × Str)} {i : Nat} {b : Int} {c : Str} (h : ∀ j q, j < i → l[j]? = some q → test q.1 = false) (hi : l[i]? = some (b, c)) (ht : test b = true) : pick test d l = c := by
  rw [pick_skip h]
  have : l.drop i = (b, c) :: l.drop (i + 1) := by
    obtain ⟨hlt, e⟩ := List.getElem?_eq_some_iff.mp hi
    rw [List.drop_eq_getElem_cons hlt, e]
  rw [this]
  simp [pick, ht]
theorem pick_none {test : Int → Bool} {d : Str} {l : List (Int × Str)} (h : ∀ j q, j < l.length → l[j]? = some q → test q.1 = false) : pick test d l = d := by
  rw [pick_skip h]; simp [pick]
/-- one more sign -/
theorem sign_more {x : Int} {i : Nat} {vs : List Value} {ps : List (Addr × Int × Str)} {c : Str} {t : Tok} (hvs : StrsAre vs ((fmSigns x).take i)) (hi : i < 10) (htab : fmTab.getD i [] = ps.map (·.2)) (hc : pick (pickTest x i) (pickDflt i) (ps.map (·.2)) = c) :
    StrsAre (vs ++ [.str c t]) ((fmSigns x).take (i + 1)) := by
  rw [fmSigns_take x i hi]
  refine hvs.append' ?_
  have : fmSign x i = c := by unfold fmSign; rw [htab, hc]
  rw [this]
  exact .cons c t .nil
theorem map_at {ps : List (Addr × Int × Str)} {j : Nat} {q : Int × Str} (h : (ps.map (·.2))[j]? = some q) : ∃ a, ps[j]? = some (a, q) := by
  have : ps[j]?.map (·.2) = some q := by simpa using h
  obtain ⟨r, hr, rfl⟩ := Option.map_eq_some_iff.mp this
  exact ⟨r.1, hr⟩
theorem sign_hit {x : Int} {i j : Nat} {ps : List (Addr × Int × Str)} {a : Addr} {b : Int} {c : Str} (hno : ∀ k q, k < j → ps[k]? = some q → pickTest x i q.2.1 = false) (hq : ps[j]? = some (a, b, c)) (ht : pickTest x i b = true) :
    pick (pickTest x i) (pickDflt i) (ps.map (·.2)) = c := by
  refine pick_at (i := j) (b := b) (fun k q hk hkq => ?_) (by simp [hq]) ht
  obtain ⟨a', h'⟩ := map_at hkq
  exact hno k _ hk h'
theorem sign_miss {x : Int} {i n : Nat} {ps : List (Addr × Int × Str)} (hn : ps.length ≤ n) (hno : ∀ k q, k < n → ps[k]? = some q → pickTest x i q.2.1 = false) :
    pick (pickTest x i) (pickDflt i) (ps.map (·.2)) = pickDflt i := by
  refine pick_none fun k q hk hkq => ?_
  obtain ⟨a', h'⟩ := map_at hkq
  exact hno k _ (by simp at hk; omega) h'
theorem no_more {x : Int} {i j : Nat} {ps : List (Addr × Int × Str)} {a : Addr} {b : Int} {c : Str} (hno : ∀ k q, k < j → ps[k]? = some q → pickTest x i q.2.1 = false) (hq : ps[j]? = some (a, b, c)) (ht : pickTest x i b = false) :
    ∀ k q, k < j + 1 → ps[k]? = some q → pickTest x i q.2.1 = false := by
  intro k q hk hkq
  rcases Nat.lt_succ_iff_lt_or_eq.mp hk with hk | rfl
  · exact hno k q hk hkq
  · rw [hq] at hkq; cases hkq; exact ht
theorem signs_fit {x : Int} {i : Nat} {vs : List Value} (hvs : StrsAre vs ((fmSigns x).take i)) : vs.toArray.size ≤ sizeLine := by
  have h1 := hvs.length
  have h2 : ((fmSigns x).take i).length ≤ 10 := by rw [List.length_take, fmSigns_length]; omega
  rw [List.size_toArray, h1]
  exact Nat.le_trans h2 (by decide)

theorem off1 {q : Addr × Obj} {l : List (Addr × Obj)} {ws : List Addr} (h : q.1 ∉ ws) (r : ∀ p ∈ l, p.1 ∉ ws) : ∀ p ∈ q :: l, p.1 ∉ ws := by
  intro p hp
  rcases List.mem_cons.mp hp with rfl | hp
  · exact h
  · exact r p hp
theorem off0 {ws : List Addr} : ∀ p ∈ ([] : List (Addr × Obj)), p.1 ∉ ws := fun _ hp => nomatch hp
theorem nmem1 {a b : Nat} {l : List Nat} (h : a ≠ b) (r : a ∉ l) : a ∉ b :: l := by simp [h, r]
theorem nmem0 {a : Nat} : a ∉ ([] : List Nat) := by simp
theorem pick_len {test : Int → Bool} {d : Str} (hd : d.length = 1) : ∀ {l : List (Int × Str)}, (∀ q ∈ l, q.2.length = 1) → (pick test d l).length = 1
  | [], _ => hd
  | (b, c) :: r, h => by
    unfold pick
    split
    · exact h (b, c) (.head _)
    · exact pick_len hd fun q hq => h q (.tail _ hq)
theorem fmTab_len : ∀ i, ∀ q ∈ fmTab.getD i [], q.2.length = 1 := by
  intro i q hq
  have : ∀ r ∈ fmTab, ∀ q ∈ r, q.2.length = 1 := by decide
  rw [List.getD_eq_getElem?_getD] at hq
  cases h : fmTab[i]? with
  | none => rw [h] at hq; simp at hq
  | some r => rw [h] at hq; exact this r (List.mem_of_getElem? h) q (by simpa using hq)
theorem fmSign_len (x : Int) (i : Nat) : (fmSign x i).length = 1 := by
  unfold fmSign
  refine pick_len ?_ (fmTab_len i)
  unfold pickDflt; split <;> decide
theorem fmSigns_weight (x : Int) : ((fmSigns x).map (·.length)).sum + (fmSigns x).length ≤ 1048576 := by
  have : (fmSigns x).map (·.length) = List.replicate 10 1 := by
    simp only [fmSigns, List.map_map]
    rw [List.eq_replicate_iff]
    refine ⟨by simp, ?_⟩
    intro b hb
    simp only [List.mem_map, Function.comp] at hb
    obtain ⟨i, _, rfl⟩ := hb
    exact fmSign_len x i
  rw [this, fmSigns_length]; decide
section
variable {prog : Program} {w : World} {A : Around} {E : Value → Shared → Prop} {s : Shared} {h₀ : Heap} {L l : Addr} {m : Str → Option Value} {news : List (Addr × Obj)} {value slice : PySem.Expr} {vs ws : List Value} {ss ms : List Str} {vl vu : Value} {lo hi : Option Int} {x y : Int} {Q : Value → Shared → Prop}
theorem strs_item {k : Int} {u : Tok} (hl : s.heap.IsList l vs.toArray) (hss : StrsAre vs ss) (h0 : 0 ≤ k) (h1 : k < (ss.length : Int)) (hhi : k < 2 ^ 63) (h : ∀ t, Q (.str (ss.getD k.toNat (Str.ofString "")) t) s)
    (hs : subscripted slice false (.ref l) (.int k u) = operate [.ref l, .int k u] (getItem (.ref l) (.int k u))) :
    wpAny (model prog w) A (subscriptTail value slice (.ref l) (.int k u)) Q E s := by
  have hk : k.toNat < ss.length := by omega
  have hx : ss[k.toNat]? = some (ss.getD k.toNat (Str.ofString "")) := by simp [List.getD, hk]
  obtain ⟨t, ht⟩ := hss.get _ _ hx
  exact tail_any hl.typeIs slot_list_getitem.lookup (wpAny_getItem_list hl h0 hhi (by simpa using ht) (h t)) hs
theorem slice_strs (F : Fr h₀ L s.heap m) (N : News h₀ L s.heap news) (hl : s.heap.IsList l vs.toArray) (pl : IsPart vl lo) (pu : IsPart vu hi) (hm : StrsAre (slicePick vs.toArray lo hi none).toList ms)
    (h : ∀ D ws h', Fr h₀ L h' m → News h₀ L h' ((D, listOf (List.toArray ws) 0) :: news) → (∀ p ∈ news, p.1 < D) → StrsAre ws ms → Q (.ref D) { s with heap := h' })
    (hs : subscripted slice false (.ref l) (.ref s.heap.objs.size) = operate [.ref s.heap.objs.size, .ref l] (getItem (.ref l) (.ref s.heap.objs.size))) (ht : ∀ r, letTemporaryGo value (.ref l) r = pure ()) (hz : vs.toArray.size ≤ sizeLine) :
    wpAny (model prog w) A (subscriptTail value slice (.ref l) (.ref s.heap.objs.size)) Q E { s with heap := s.heap.push { cls := .type "slice", data := .fields #[vl, vu, .none] } } := by
  refine kmk_slice F N hl pl pu (fun D h' F' N' l1 => h D (slicePick vs.toArray lo hi none).toList h' F' ?_ l1 hm) hs ht hz
  rw [Array.toArray_toList]
  exact N'
theorem strs_upto (hi' : StrsAre vs ss) (h : 0 ≤ y) : StrsAre (slicePick vs.toArray none (some y) none).toList (ss.take y.toNat) := by
  have e : sliceBounds none (some y) none vs.toArray.size = (((0 : Nat) : Int), ((min y.toNat vs.toArray.size : Nat) : Int), 1) := by
    simp only [sliceBounds, Option.getD_none, show (1 : Int) > 0 by decide, if_true, if_neg (show ¬ (y < 0) by omega)]
    congr 1
    congr 1
    omega
  rw [kmk_pick_nat _ e]
  show StrsAre ((vs.drop 0).take (min y.toNat vs.toArray.size - 0)) _
  rw [List.drop_zero, Nat.sub_zero, List.size_toArray, kmk_take_min]
  exact hi'.take' _
theorem strs_from (hi' : StrsAre vs ss) (h : 0 ≤ x) : StrsAre (slicePick vs.toArray (some x) none none).toList (ss.drop x.toNat) := by
  have e : sliceBounds (some x) none none vs.toArray.size = (((min x.toNat vs.toArray.size : Nat) : Int), ((vs.toArray.size : Nat) : Int), 1) := by
    simp only [sliceBounds, Option.getD_none, show (1 : Int) > 0 by decide, if_true, if_neg (show ¬ (x < 0) by omega)]
    congr 1
    omega
  rw [kmk_pick_nat _ e]
  show StrsAre ((vs.drop (min x.toNat vs.toArray.size)).take (vs.toArray.size - min x.toNat vs.toArray.size)) _
  rw [List.size_toArray, kmk_drop_min, List.take_of_length_le (by rw [List.length_drop]; omega)]
  exact hi'.drop' _
theorem strs_run (hi' : StrsAre vs ss) (h : 0 ≤ x) (h2 : 0 ≤ y) (h3 : y ≤ (ss.length : Int)) : StrsAre (slicePick vs.toArray (some x) (some y) none).toList ((ss.drop x.toNat).take (y.toNat - x.toNat)) := by
  have hl := hi'.length
  have e : sliceBounds (some x) (some y) none vs.toArray.size = (((min x.toNat vs.toArray.size : Nat) : Int), ((y.toNat : Nat) : Int), 1) := by
    have : vs.toArray.size = ss.length := by rw [List.size_toArray, hl]
    simp only [sliceBounds, Option.getD_none, show (1 : Int) > 0 by decide, if_true, if_neg (show ¬ (x < 0) by omega), if_neg (show ¬ (y < 0) by omega)]
    congr 1
    · omega
    · congr 1
      omega
  rw [kmk_pick_nat _ e]
  show StrsAre ((vs.drop (min x.toNat vs.toArray.size)).take (y.toNat - min x.toNat vs.toArray.size)) _
  rw [List.size_toArray, kmk_drop_min]
  by_cases hx : x.toNat ≤ vs.length
  · rw [Nat.min_eq_left hx]
    exact (hi'.drop' _).take' _
  · rw [List.drop_of_length_le (by omega), List.drop_of_length_le (by omega)]
    simpa using StrsAre.nil
theorem cat_strs {a b : Addr} (F : Fr h₀ L s.heap m) (N : News h₀ L s.heap news) (ha : s.heap.IsList a vs.toArray) (hb : s.heap.IsList b ws.toArray) (hi : StrsAre vs ss) (hj : StrsAre ws ms)
    (h : ∀ D us h', Fr h₀ L h' m → News h₀ L h' ((D, listOf (List.toArray us) 0) :: news) → (∀ p ∈ news, p.1 < D) → StrsAre us (ss ++ ms) → Q (.ref D) { s with heap := h' })
    (hz : ss.length + ms.length ≤ sizeLine) : wpAny (model prog w) A (binaryOp .Add (.ref a) (.ref b)) Q E s := by
  refine add_lists F N ha hb (fun h' F' N' => ?_) (by rw [hi.length, hj.length]; exact hz)
  exact h _ _ h' F' N' (fun p hp => Heap.lt_size (N p hp).1) (hi.append' hj)
theorem strs_fit {n : Nat} (h : StrsAre vs ss) (hl : ss.length = n) (hn : n ≤ 100) : vs.toArray.size ≤ sizeLine := by
  rw [List.size_toArray, h.length, hl]; exact Nat.le_trans hn (by decide)
/-- list of a text's signs -/
theorem list_strN {x0 : Str} {t : Tok} (hh : A.handled = none) (F : Fr h₀ L s.heap m) (N : News h₀ L s.heap news)
    (h : ∀ D ys n h' tk, Fr h₀ L h' m → News h₀ L h' ((D, listOf (List.toArray ys) n) :: news) → (∀ p ∈ news, p.1 < D) → StrsAre ys (signs x0) → Q (.ref D) { s with heap := h', toks := tk }) (hsz : x0.length ≤ sizeLine) :
    wpAny (model prog w) A (call (.type "list") [.str x0 t]) Q E s := by
  refine list_strD (hsz := hsz) hh F N fun h' tk ys F' N' hk hn _ hp hc => ?_
  obtain ⟨⟨n, hD⟩, _⟩ := hp
  refine h _ ys n h' tk F' (fun p hp => ?_) (fun p hp => Heap.lt_size (N p hp).1) (StrsAre.of_carried hc)
  rcases List.mem_cons.mp hp with rfl | hp
  · exact ⟨hD, Nat.ne_of_gt F.ns.lt, hn⟩
  · exact N' p hp
theorem news_more {h h' : Heap} {D : Addr} {o : Obj} (F : Fr h₀ L h m) (N : News h₀ L h' news) (hD : h.get? D = none) (hg : h'.get? D = some o) : News h₀ L h' ((D, o) :: news) := by
  intro p hp
  rcases List.mem_cons.mp hp with rfl | hp
  · refine ⟨hg, fun e => ?_, ?_⟩
    · obtain ⟨o', _, _, ho', _⟩ := F.ns
      have e' : D = L := e
      rw [e', ho'] at hD; cases hD
    · cases e : h₀.get? D with
      | none => rfl
      | some o' => rw [F.keep _ _ e] at hD; cases hD
  · exact N p hp
theorem news_ne {h : Heap} {D : Addr} (N : News h₀ L h news) (hD : h.get? D = none) : ∀ p ∈ news, p.1 ≠ D := by
  intro p hp e
  have := (N p hp).1
  rw [e, hD] at this; cases this
/-- a conditional expression of two written ints, not split -/
theorem ifexp_ints {M : Model} {env : Env} {test : Expr} {a c : Int} {k1 k2 : Nat} {p1 p2 pos : Pos} (h : wpAny M A (isTrue test env (eval test env)) (fun b s₁ => Q (.int (if b = true then a else c) s₁.toks) { s₁ with toks := s₁.toks + 1 }) E s) :
    wpAny M A (eval (.IfExp test (.Constant (.int a) k1 p1) (.Constant (.int c) k2 p2) pos) env) Q E s := by
  refine IfExp_ (wpAny_mono h (fun b s₁ h₁ => ?_) fun _ _ e => e)
  cases b with
  | true => exact wpAny_Constant_int h₁
  | false => exact wpAny_Constant_int h₁
end

section
variable {prog : Program} {w : World} {A : Around} {E : Value → Shared → Prop} {s : Shared} {env : Env} {h₀ : Heap} {target : Expr} {body orelse : List Stmt} {Q : Flow → Shared → Prop} {m : Str → Option Value} {news : List (Addr × Obj)}
/-- over a list of the ground -/
theorem iter_list {T : Addr} {items : Array Value} (hh : A.handled = none) (hT : h₀.IsList T items) (F : Fr h₀ env.locals s.heap m) (N : News h₀ env.locals s.heap news)
    (J : Nat → (Str → Option Value) → List (Addr × Obj) → Prop) (h0 : J 0 m news)
    (step : ∀ i v m₁ news₁ h₁ tk₁ I o, items[i]? = some v → J i m₁ news₁ → (∀ p ∈ news₁, p.1 ≠ I) → Fr h₀ env.locals h₁ m₁ → News h₀ env.locals h₁ ((I, o) :: news₁) → (∀ p ∈ news, p.1 < I) →
      wpAny (model prog w) A (assign target env v) (fun _ s₂ => wpAny (model prog w) A (execs body env)
        (StepPost h₀ env.locals [I] [(I, o)] s (J (i + 1)) Q) E s₂) E { s with heap := h₁, toks := tk₁ })
    (done : ∀ h' tk m' news', Fr h₀ env.locals h' m' → News h₀ env.locals h' news' → J items.size m' news' → wpAny (model prog w) A (execs orelse env) Q E { s with heap := h', toks := tk })
    (hE : PassesOwn (model prog w) A env E) :
    wpAny (model prog w) A (pyIter (.ref T)) (fun it s₂ => codeAny (model prog w) A (.forLoop target it body orelse env) (LoopR prog w A env Q E) s₂) E s := by
  obtain ⟨oT, hoT, hcT, nT, hdT⟩ := id hT
  have hTs : s.heap.IsList T items := ⟨oT, F.keep _ _ hoT, hcT, nT, hdT⟩
  have hlt : T < s.heap.objs.size := Heap.lt_size (F.keep _ _ hoT)
  have hne : T ≠ s.heap.objs.size := Nat.ne_of_lt hlt
  have hLs : env.locals < s.heap.objs.size := F.ns.lt
  refine wpAny_pyIter_list hTs ?_
  refine my_loop (s := { s with heap := s.heap.push _ }) (ws := [s.heap.objs.size]) (KTurns.ofWalks (Walks.list hh s.heap.objs.size T hne items) fun i v s Q E st q => letGo_listiter st.1 q) ?_ ?_ ?_ ?_ ?_ ?_ (F.push _) (fun p hp => ⟨Heap.get?_push_of_some _ (N p hp).1, (N p hp).2⟩) J h0 ?_ ?_ hE
  · intro b hb
    have hb' : b = s.heap.objs.size ∨ b = T := by simpa using hb
    rcases hb' with rfl | rfl
    · exact .inl (by simp)
    · exact .inr ⟨oT, hoT⟩
  · intro b hb; simpa using hb
  · intro b hb
    have hb' : b = s.heap.objs.size := by simpa using hb
    subst hb'
    exact ⟨base_new F (Nat.le_refl _), Nat.ne_of_gt hLs⟩
  · rintro i h ⟨⟨o, ho, _⟩, _⟩ b hb
    have hb' : b = s.heap.objs.size := by simpa using hb
    subst hb'
    exact ⟨o, ho⟩
  · intro p hp hI
    have hb' : p.1 = s.heap.objs.size := by simpa using hI
    exact absurd (Heap.lt_size (N p hp).1) (hb' ▸ Nat.lt_irrefl _)
  · exact ⟨⟨_, Heap.get?_push_size _ rfl, rfl, rfl⟩, hTs.at fun o e => Heap.get?_push_of_some _ e⟩
  · intro i v m₁ news₁ h₁ tk₁ its hi hP hJ hoff hits F₁ N₁
    obtain ⟨o, rfl⟩ := one_of hits
    exact step i v m₁ news₁ h₁ tk₁ _ o hP hJ (fun p hp e => hoff p hp (by simp [e])) F₁ N₁ fun p hp => Heap.lt_size (N p hp).1
  · intro h' tk m' news' F' N' _ hJ
    exact done h' tk m' news' F' N' hJ
end
/-- the body and the scope of a def that the written part holds -/
def fnBody (K : Frag) (a : Addr) : List Stmt := match K.lookup a with
  | some ⟨_, _, .func fd, _⟩ => (match fd.body with | .stmts b => b | _ => [])
  | _ => []
def fnScope (K : Frag) (a : Addr) : Scope := match K.lookup a with
  | some ⟨_, _, .func fd, _⟩ => fd.scope
  | _ => { kind := .function, names := [], isGenerator := false, isCoroutine := false }
/-- the law's end: True, the frame as it is kept -/
def LawEnd (h₀ : Heap) (L : Addr) (s : Shared) (fl : Flow) (s' : Shared) : Prop :=
  fl = .ret (.bool true) ∧ ∃ h' tk m', s' = { s with heap := h', toks := tk } ∧ Fr h₀ L h' m'
def Hold (p : Prop) : Prop := p
theorem execs_cut_at {M : Model} {Γ : Ctx} {E : Value → Pos → Shared → Prop} {env : Env} (P : Shared → Prop) {Q : Flow → Pos → Shared → Prop} : ∀ (n : Nat) {l : List Stmt} {p : Pos} {s : Shared},
    Sem.wp M Γ (execs (l.take n) env) (fun f _ s' => f = .next ∧ P s') E p s → (∀ p' s', P s' → Sem.wp M Γ (execs (l.drop n) env) Q E p' s') → Sem.wp M Γ (execs l env) Q E p s
  | 0, _, p, s, h, k => k p s (show Flow.next = Flow.next ∧ P s from h).2
  | _ + 1, [], p, s, h, k => k p s (show Flow.next = Flow.next ∧ P s from h).2
  | n + 1, a :: r, p, s, h, k => by
    rw [List.take_succ_cons, execs_cons, Sem.wp_bind'] at h
    rw [execs_cons, Sem.wp_bind']
    refine Sem.wp_mono M Γ _ (fun f p' s' h' => ?_) (fun _ _ _ h' => h') _ _ h
    cases f with
    | next => exact execs_cut_at P n h' k
    | ret v => exact absurd (show Flow.ret v = Flow.next ∧ P s' from h').1 (by intro e; cases e)
    | brk => exact absurd (show Flow.brk = Flow.next ∧ P s' from h').1 (by intro e; cases e)
    | cont => exact absurd (show Flow.cont = Flow.next ∧ P s' from h').1 (by intro e; cases e)
/-- the first n statements end in P; the rest goes on from any state of P -/
theorem execs_cut {M : Model} {A : Around} {E : Value → Shared → Prop} {env : Env} {l : List Stmt} {s : Shared} {Q : Flow → Shared → Prop} (n : Nat) (P : Shared → Prop)
    (h : wpAny M A (execs (l.take n) env) (fun f s' => Hold (f = .next ∧ P s')) E s) (k : ∀ s', P s' → wpAny M A (execs (l.drop n) env) Q E s') : wpAny M A (execs l env) Q E s :=
  fun Γ p hΓ => execs_cut_at P n (h Γ p hΓ) fun p' s' hP => k s' hP Γ p' hΓ
theorem chainN {m : Str → Option Value} : ∀ {l : List (Str × Value)}, (∀ q ∈ l, m q.1 = some q.2) → m = fun y => l.foldr (fun q r => if y = q.1 then some q.2 else r) (m y)
  | [], _ => rfl
  | q :: l, h => by
    have ih := chainN (m := m) (l := l) fun r hr => h r (.tail _ hr)
    funext y
    by_cases e : y = q.1
    · simp [List.foldr, e, h q (.head _)]
    · simp only [List.foldr, if_neg e]; exact congrFun ih y
theorem news_pick2 {h₀ h : Heap} {L : Addr} {l : List (Addr × Obj)} {a b : Addr × Obj} (N : News h₀ L h l) (h1 : a ∈ l) (h2 : b ∈ l) : News h₀ L h [a, b] := by
  intro p hp
  rcases List.mem_cons.mp hp with rfl | hp
  · exact N _ h1
  · rw [List.mem_singleton.mp hp]; exact N _ h2
theorem ints_item {vs : List Value} {ns : List Int} (h : IntsAre vs ns) {i : Nat} {v : Value} (hv : vs[i]? = some v) : ∃ x t, x ∈ ns ∧ v = .int x t := by
  have hi : i < ns.length := by rw [← h.length]; exact (List.getElem?_eq_some_iff.mp hv).1
  obtain ⟨t, ht⟩ := h.get i (ns[i]'hi) (List.getElem?_eq_getElem hi)
  rw [hv] at ht
  exact ⟨_, t, List.getElem_mem hi, Option.some.inj ht⟩
theorem nat_and_pow (n k : Nat) : n &&& 2 ^ k = 2 ^ k * (n / 2 ^ k % 2) := by
  have h1 : (n &&& 2 ^ k) / 2 ^ k = n / 2 ^ k % 2 := by
    rw [Nat.and_div_two_pow, Nat.div_self (Nat.two_pow_pos k), Nat.and_one_is_mod]
  have h2 : (n &&& 2 ^ k) % 2 ^ k = 0 := by
    rw [Nat.and_mod_two_pow, Nat.mod_self, Nat.and_zero]
  have h3 := Nat.div_add_mod (n &&& 2 ^ k) (2 ^ k)
  rw [h1, h2] at h3
  omega
theorem nat_and_type (n : Nat) : n &&& 61440 = 4096 * (n / 4096 % 16) := by
  have h1 : (n &&& 61440) / 2 ^ 12 = n / 4096 % 16 := by
    rw [Nat.and_div_two_pow]
    exact Nat.and_two_pow_sub_one_eq_mod (n / 2 ^ 12) 4
  have h2 : (n &&& 61440) % 2 ^ 12 = 0 := by
    rw [Nat.and_mod_two_pow]
    exact Nat.and_zero _
  have h3 := Nat.div_add_mod (n &&& 61440) (2 ^ 12)
  rw [h1, h2] at h3
  omega
theorem bitAnd_type (x : Int) : Builtin.bitAnd x 61440 = 4096 * (x / 4096 % 16) := by
  by_cases hx : 0 ≤ x
  · rw [bitAnd_pp hx (by decide), show (61440 : Int).toNat = 61440 from rfl, nat_and_type]; omega
  · rw [bitAnd_np hx (by decide), show (61440 : Int).toNat = 61440 from rfl, Nat.and_comm, nat_and_type]
    unfold Builtin.bitNot; omega
theorem bitAnd_p0 (x : Int) : Builtin.bitAnd x 1 = 1 * (x / 1 % 2) := by
  have h := nat_and_pow (k := 0)
  simp only [Nat.reducePow] at h
  by_cases hx : 0 ≤ x
  · rw [bitAnd_pp hx (by decide), show (1 : Int).toNat = 1 from rfl, h]; omega
  · rw [bitAnd_np hx (by decide), show (1 : Int).toNat = 1 from rfl, Nat.and_comm, h]
    unfold Builtin.bitNot; omega
theorem bitAnd_p1 (x : Int) : Builtin.bitAnd x 2 = 2 * (x / 2 % 2) := by
  have h := nat_and_pow (k := 1)
  simp only [Nat.reducePow] at h
  by_cases hx : 0 ≤ x
  · rw [bitAnd_pp hx (by decide), show (2 : Int).toNat = 2 from rfl, h]; omega
  · rw [bitAnd_np hx (by decide), show (2 : Int).toNat = 2 from rfl, Nat.and_comm, h]
    unfold Builtin.bitNot; omega
theorem bitAnd_p2 (x : Int) : Builtin.bitAnd x 4 = 4 * (x / 4 % 2) := by
  have h := nat_and_pow (k := 2)
  simp only [Nat.reducePow] at h
  by_cases hx : 0 ≤ x
  · rw [bitAnd_pp hx (by decide), show (4 : Int).toNat = 4 from rfl, h]; omega
  · rw [bitAnd_np hx (by decide), show (4 : Int).toNat = 4 from rfl, Nat.and_comm, h]
    unfold Builtin.bitNot; omega
theorem bitAnd_p3 (x : Int) : Builtin.bitAnd x 8 = 8 * (x / 8 % 2) := by
  have h := nat_and_pow (k := 3)
  simp only [Nat.reducePow] at h
  by_cases hx : 0 ≤ x
  · rw [bitAnd_pp hx (by decide), show (8 : Int).toNat = 8 from rfl, h]; omega
  · rw [bitAnd_np hx (by decide), show (8 : Int).toNat = 8 from rfl, Nat.and_comm, h]
    unfold Builtin.bitNot; omega
theorem bitAnd_p4 (x : Int) : Builtin.bitAnd x 16 = 16 * (x / 16 % 2) := by
  have h := nat_and_pow (k := 4)
  simp only [Nat.reducePow] at h
  by_cases hx : 0 ≤ x
  · rw [bitAnd_pp hx (by decide), show (16 : Int).toNat = 16 from rfl, h]; omega
  · rw [bitAnd_np hx (by decide), show (16 : Int).toNat = 16 from rfl, Nat.and_comm, h]
    unfold Builtin.bitNot; omega
theorem bitAnd_p5 (x : Int) : Builtin.bitAnd x 32 = 32 * (x / 32 % 2) := by
  have h := nat_and_pow (k := 5)
  simp only [Nat.reducePow] at h
  by_cases hx : 0 ≤ x
  · rw [bitAnd_pp hx (by decide), show (32 : Int).toNat = 32 from rfl, h]; omega
  · rw [bitAnd_np hx (by decide), show (32 : Int).toNat = 32 from rfl, Nat.and_comm, h]
    unfold Builtin.bitNot; omega
theorem bitAnd_p6 (x : Int) : Builtin.bitAnd x 64 = 64 * (x / 64 % 2) := by
  have h := nat_and_pow (k := 6)
  simp only [Nat.reducePow] at h
  by_cases hx : 0 ≤ x
  · rw [bitAnd_pp hx (by decide), show (64 : Int).toNat = 64 from rfl, h]; omega
  · rw [bitAnd_np hx (by decide), show (64 : Int).toNat = 64 from rfl, Nat.and_comm, h]
    unfold Builtin.bitNot; omega
theorem bitAnd_p7 (x : Int) : Builtin.bitAnd x 128 = 128 * (x / 128 % 2) := by
  have h := nat_and_pow (k := 7)
  simp only [Nat.reducePow] at h
  by_cases hx : 0 ≤ x
  · rw [bitAnd_pp hx (by decide), show (128 : Int).toNat = 128 from rfl, h]; omega
  · rw [bitAnd_np hx (by decide), show (128 : Int).toNat = 128 from rfl, Nat.and_comm, h]
    unfold Builtin.bitNot; omega
theorem bitAnd_p8 (x : Int) : Builtin.bitAnd x 256 = 256 * (x / 256 % 2) := by
  have h := nat_and_pow (k := 8)
  simp only [Nat.reducePow] at h
  by_cases hx : 0 ≤ x
  · rw [bitAnd_pp hx (by decide), show (256 : Int).toNat = 256 from rfl, h]; omega
  · rw [bitAnd_np hx (by decide), show (256 : Int).toNat = 256 from rfl, Nat.and_comm, h]
    unfold Builtin.bitNot; omega
theorem bitAnd_p9 (x : Int) : Builtin.bitAnd x 512 = 512 * (x / 512 % 2) := by
  have h := nat_and_pow (k := 9)
  simp only [Nat.reducePow] at h
  by_cases hx : 0 ≤ x
  · rw [bitAnd_pp hx (by decide), show (512 : Int).toNat = 512 from rfl, h]; omega
  · rw [bitAnd_np hx (by decide), show (512 : Int).toNat = 512 from rfl, Nat.and_comm, h]
    unfold Builtin.bitNot; omega
theorem bitAnd_p10 (x : Int) : Builtin.bitAnd x 1024 = 1024 * (x / 1024 % 2) := by
  have h := nat_and_pow (k := 10)
  simp only [Nat.reducePow] at h
  by_cases hx : 0 ≤ x
  · rw [bitAnd_pp hx (by decide), show (1024 : Int).toNat = 1024 from rfl, h]; omega
  · rw [bitAnd_np hx (by decide), show (1024 : Int).toNat = 1024 from rfl, Nat.and_comm, h]
    unfold Builtin.bitNot; omega
theorem bitAnd_p11 (x : Int) : Builtin.bitAnd x 2048 = 2048 * (x / 2048 % 2) := by
  have h := nat_and_pow (k := 11)
  simp only [Nat.reducePow] at h
  by_cases hx : 0 ≤ x
  · rw [bitAnd_pp hx (by decide), show (2048 : Int).toNat = 2048 from rfl, h]; omega
  · rw [bitAnd_np hx (by decide), show (2048 : Int).toNat = 2048 from rfl, Nat.and_comm, h]
    unfold Builtin.bitNot; omega
theorem nat_and_2112 (n : Nat) : n &&& 2112 = 2048 * (n / 2048 % 2) + 64 * (n / 64 % 2) := by
  have e : n &&& 2112 = (n &&& 2048) ||| (n &&& 64) := by rw [← Nat.and_or_distrib_left]; rfl
  have h1 := nat_and_pow n 11
  have h2 := nat_and_pow n 6
  simp only [Nat.reducePow] at h1 h2
  rw [e, h1, h2]
  rcases Nat.mod_two_eq_zero_or_one (n / 2048) with q | q <;> rcases Nat.mod_two_eq_zero_or_one (n / 64) with r | r <;> rw [q, r] <;> rfl
theorem bitAnd_2112 (x : Int) : Builtin.bitAnd x 2112 = 2048 * (x / 2048 % 2) + 64 * (x / 64 % 2) := by
  by_cases hx : 0 ≤ x
  · rw [bitAnd_pp hx (by decide), show (2112 : Int).toNat = 2112 from rfl, nat_and_2112]; omega
  · rw [bitAnd_np hx (by decide), show (2112 : Int).toNat = 2112 from rfl, Nat.and_comm, nat_and_2112]
    unfold Builtin.bitNot; omega
theorem nat_and_1032 (n : Nat) : n &&& 1032 = 1024 * (n / 1024 % 2) + 8 * (n / 8 % 2) := by
  have e : n &&& 1032 = (n &&& 1024) ||| (n &&& 8) := by rw [← Nat.and_or_distrib_left]; rfl
  have h1 := nat_and_pow n 10
  have h2 := nat_and_pow n 3
  simp only [Nat.reducePow] at h1 h2
  rw [e, h1, h2]
  rcases Nat.mod_two_eq_zero_or_one (n / 1024) with q | q <;> rcases Nat.mod_two_eq_zero_or_one (n / 8) with r | r <;> rw [q, r] <;> rfl
theorem bitAnd_1032 (x : Int) : Builtin.bitAnd x 1032 = 1024 * (x / 1024 % 2) + 8 * (x / 8 % 2) := by
  by_cases hx : 0 ≤ x
  · rw [bitAnd_pp hx (by decide), show (1032 : Int).toNat = 1032 from rfl, nat_and_1032]; omega
  · rw [bitAnd_np hx (by decide), show (1032 : Int).toNat = 1032 from rfl, Nat.and_comm, nat_and_1032]
    unfold Builtin.bitNot; omega
theorem nat_and_513 (n : Nat) : n &&& 513 = 512 * (n / 512 % 2) + 1 * (n / 1 % 2) := by
  have e : n &&& 513 = (n &&& 512) ||| (n &&& 1) := by rw [← Nat.and_or_distrib_left]; rfl
  have h1 := nat_and_pow n 9
  have h2 := nat_and_pow n 0
  simp only [Nat.reducePow] at h1 h2
  rw [e, h1, h2]
  rcases Nat.mod_two_eq_zero_or_one (n / 512) with q | q <;> rcases Nat.mod_two_eq_zero_or_one (n / 1) with r | r <;> rw [q, r] <;> rfl
theorem bitAnd_513 (x : Int) : Builtin.bitAnd x 513 = 512 * (x / 512 % 2) + 1 * (x / 1 % 2) := by
  by_cases hx : 0 ≤ x
  · rw [bitAnd_pp hx (by decide), show (513 : Int).toNat = 513 from rfl, nat_and_513]; omega
  · rw [bitAnd_np hx (by decide), show (513 : Int).toNat = 513 from rfl, Nat.and_comm, nat_and_513]
    unfold Builtin.bitNot; omega

/-- the signs, out of the type's number and the twelve bits -/
def typeSign (k : Int) : Str :=
  if k = 10 then Str.ofString "l" else if k = 12 then Str.ofString "s" else if k = 8 then Str.ofString "-" else if k = 6 then Str.ofString "b" else if k = 4 then Str.ofString "d" else if k = 2 then Str.ofString "c" else if k = 1 then Str.ofString "p" else Str.ofString "?"
def oneSign (b : Int) (c : Str) : Str := if b = 1 then c else Str.ofString "-"
def endSign (runs above : Int) (both alone : Str) : Str := if above = 1 then (if runs = 1 then both else alone) else if runs = 1 then Str.ofString "x" else Str.ofString "-"
def sigOf (ty b0 b1 b2 b3 b4 b5 b6 b7 b8 b9 b10 b11 : Int) : List Str :=
  [typeSign ty, oneSign b8 (Str.ofString "r"), oneSign b7 (Str.ofString "w"), endSign b6 b11 (Str.ofString "s") (Str.ofString "S"),
   oneSign b5 (Str.ofString "r"), oneSign b4 (Str.ofString "w"), endSign b3 b10 (Str.ofString "s") (Str.ofString "S"),
   oneSign b2 (Str.ofString "r"), oneSign b1 (Str.ofString "w"), endSign b0 b9 (Str.ofString "t") (Str.ofString "T")]
theorem ifd {c d : Prop} [Decidable c] [Decidable d] {α : Type} {a b : α} (h : c ↔ d) : (if decide c = true then a else b) = if d then a else b := by
  by_cases hd : d
  · rw [if_pos hd, if_pos (decide_eq_true (h.mpr hd))]
  · rw [if_neg hd, if_neg (by simpa using fun hc => hd (h.mp hc))]
theorem sign0 (x : Int) : fmSign x 0 = typeSign (x / 4096 % 16) := by
  show pick (pickTest x 0) (pickDflt 0) [(40960, Str.ofString "l"), (49152, Str.ofString "s"), (32768, Str.ofString "-"), (24576, Str.ofString "b"), (16384, Str.ofString "d"), (8192, Str.ofString "c"), (4096, Str.ofString "p")] = _
  simp only [pick, pickTest, pickDflt, if_true, bitAnd_type, typeSign]
  rw [ifd (show 4096 * (x / 4096 % 16) = 40960 ↔ x / 4096 % 16 = 10 by omega), ifd (show 4096 * (x / 4096 % 16) = 49152 ↔ x / 4096 % 16 = 12 by omega), ifd (show 4096 * (x / 4096 % 16) = 32768 ↔ x / 4096 % 16 = 8 by omega), ifd (show 4096 * (x / 4096 % 16) = 24576 ↔ x / 4096 % 16 = 6 by omega), ifd (show 4096 * (x / 4096 % 16) = 16384 ↔ x / 4096 % 16 = 4 by omega), ifd (show 4096 * (x / 4096 % 16) = 8192 ↔ x / 4096 % 16 = 2 by omega), ifd (show 4096 * (x / 4096 % 16) = 4096 ↔ x / 4096 % 16 = 1 by omega)]
theorem sign1 (x : Int) : fmSign x 1 = oneSign (x / 256 % 2) (Str.ofString "r") := by
  show pick (pickTest x 1) (pickDflt 1) [(256, Str.ofString "r")] = _
  simp only [pick, pickTest, pickDflt, show (1 : Nat) = 0 ↔ False from by decide, if_false, bitAnd_p8, oneSign]
  rw [ifd (show 256 * (x / 256 % 2) = 256 ↔ x / 256 % 2 = 1 by omega)]
theorem sign2 (x : Int) : fmSign x 2 = oneSign (x / 128 % 2) (Str.ofString "w") := by
  show pick (pickTest x 2) (pickDflt 2) [(128, Str.ofString "w")] = _
  simp only [pick, pickTest, pickDflt, show (2 : Nat) = 0 ↔ False from by decide, if_false, bitAnd_p7, oneSign]
  rw [ifd (show 128 * (x / 128 % 2) = 128 ↔ x / 128 % 2 = 1 by omega)]
theorem sign4 (x : Int) : fmSign x 4 = oneSign (x / 32 % 2) (Str.ofString "r") := by
  show pick (pickTest x 4) (pickDflt 4) [(32, Str.ofString "r")] = _
  simp only [pick, pickTest, pickDflt, show (4 : Nat) = 0 ↔ False from by decide, if_false, bitAnd_p5, oneSign]
  rw [ifd (show 32 * (x / 32 % 2) = 32 ↔ x / 32 % 2 = 1 by omega)]
theorem sign5 (x : Int) : fmSign x 5 = oneSign (x / 16 % 2) (Str.ofString "w") := by
  show pick (pickTest x 5) (pickDflt 5) [(16, Str.ofString "w")] = _
  simp only [pick, pickTest, pickDflt, show (5 : Nat) = 0 ↔ False from by decide, if_false, bitAnd_p4, oneSign]
  rw [ifd (show 16 * (x / 16 % 2) = 16 ↔ x / 16 % 2 = 1 by omega)]
theorem sign7 (x : Int) : fmSign x 7 = oneSign (x / 4 % 2) (Str.ofString "r") := by
  show pick (pickTest x 7) (pickDflt 7) [(4, Str.ofString "r")] = _
  simp only [pick, pickTest, pickDflt, show (7 : Nat) = 0 ↔ False from by decide, if_false, bitAnd_p2, oneSign]
  rw [ifd (show 4 * (x / 4 % 2) = 4 ↔ x / 4 % 2 = 1 by omega)]
theorem sign8 (x : Int) : fmSign x 8 = oneSign (x / 2 % 2) (Str.ofString "w") := by
  show pick (pickTest x 8) (pickDflt 8) [(2, Str.ofString "w")] = _
  simp only [pick, pickTest, pickDflt, show (8 : Nat) = 0 ↔ False from by decide, if_false, bitAnd_p1, oneSign]
  rw [ifd (show 2 * (x / 2 % 2) = 2 ↔ x / 2 % 2 = 1 by omega)]
theorem sign3 (x : Int) : fmSign x 3 = endSign (x / 64 % 2) (x / 2048 % 2) (Str.ofString "s") (Str.ofString "S") := by
  show pick (pickTest x 3) (pickDflt 3) [(2112, Str.ofString "s"), (2048, Str.ofString "S"), (64, Str.ofString "x")] = _
  simp only [pick, pickTest, pickDflt, show (3 : Nat) = 0 ↔ False from by decide, if_false, bitAnd_p6, bitAnd_p11, bitAnd_2112, endSign]
  rw [ifd (show 2048 * (x / 2048 % 2) + 64 * (x / 64 % 2) = 2112 ↔ (x / 2048 % 2 = 1 ∧ x / 64 % 2 = 1) by omega), ifd (show 2048 * (x / 2048 % 2) = 2048 ↔ x / 2048 % 2 = 1 by omega), ifd (show 64 * (x / 64 % 2) = 64 ↔ x / 64 % 2 = 1 by omega)]
  by_cases h1 : x / 2048 % 2 = 1 <;> by_cases h2 : x / 64 % 2 = 1 <;> simp [h1, h2]
theorem sign6 (x : Int) : fmSign x 6 = endSign (x / 8 % 2) (x / 1024 % 2) (Str.ofString "s") (Str.ofString "S") := by
  show pick (pickTest x 6) (pickDflt 6) [(1032, Str.ofString "s"), (1024, Str.ofString "S"), (8, Str.ofString "x")] = _
  simp only [pick, pickTest, pickDflt, show (6 : Nat) = 0 ↔ False from by decide, if_false, bitAnd_p3, bitAnd_p10, bitAnd_1032, endSign]
  rw [ifd (show 1024 * (x / 1024 % 2) + 8 * (x / 8 % 2) = 1032 ↔ (x / 1024 % 2 = 1 ∧ x / 8 % 2 = 1) by omega), ifd (show 1024 * (x / 1024 % 2) = 1024 ↔ x / 1024 % 2 = 1 by omega), ifd (show 8 * (x / 8 % 2) = 8 ↔ x / 8 % 2 = 1 by omega)]
  by_cases h1 : x / 1024 % 2 = 1 <;> by_cases h2 : x / 8 % 2 = 1 <;> simp [h1, h2]
theorem sign9 (x : Int) : fmSign x 9 = endSign (x / 1 % 2) (x / 512 % 2) (Str.ofString "t") (Str.ofString "T") := by
  show pick (pickTest x 9) (pickDflt 9) [(513, Str.ofString "t"), (512, Str.ofString "T"), (1, Str.ofString "x")] = _
  simp only [pick, pickTest, pickDflt, show (9 : Nat) = 0 ↔ False from by decide, if_false, bitAnd_p0, bitAnd_p9, bitAnd_513, endSign]
  rw [ifd (show 512 * (x / 512 % 2) + 1 * (x / 1 % 2) = 513 ↔ (x / 512 % 2 = 1 ∧ x / 1 % 2 = 1) by omega), ifd (show 512 * (x / 512 % 2) = 512 ↔ x / 512 % 2 = 1 by omega), ifd (show 1 * (x / 1 % 2) = 1 ↔ x / 1 % 2 = 1 by omega)]
  by_cases h1 : x / 512 % 2 = 1 <;> by_cases h2 : x / 1 % 2 = 1 <;> simp [h1, h2]
theorem fmSigns_eq (x : Int) : fmSigns x = sigOf (x / 4096 % 16) (x / 1 % 2) (x / 2 % 2) (x / 4 % 2) (x / 8 % 2) (x / 16 % 2) (x / 32 % 2) (x / 64 % 2) (x / 128 % 2) (x / 256 % 2) (x / 512 % 2) (x / 1024 % 2) (x / 2048 % 2) := by
  have : fmSigns x = [fmSign x 0, fmSign x 1, fmSign x 2, fmSign x 3, fmSign x 4, fmSign x 5, fmSign x 6, fmSign x 7, fmSign x 8, fmSign x 9] := rfl
  rw [this, sign0, sign1, sign2, sign3, sign4, sign5, sign6, sign7, sign8, sign9]
  rfl
theorem bit_is {v c V L M : Int} (hv : 0 < v) (hL : 0 ≤ L) (hL' : L < v) (hc : 0 ≤ c ∧ c ≤ 1) (e : M = v * (c + 2 * V) + L) : M / v % 2 = c := by
  have : M / v = c + 2 * V := by
    rw [e, Int.add_comm, Int.add_mul_ediv_left _ _ (Int.ne_of_gt hv), Int.ediv_eq_zero_of_lt hL hL', Int.zero_add]
  rw [this]; omega
set_option maxHeartbeats 4000000 in
theorem bits_of {T c0 c1 c2 c3 c4 c5 c6 c7 c8 c9 c10 c11 M : Int} (h0 : 0 ≤ c0 ∧ c0 ≤ 1) (h1 : 0 ≤ c1 ∧ c1 ≤ 1) (h2 : 0 ≤ c2 ∧ c2 ≤ 1) (h3 : 0 ≤ c3 ∧ c3 ≤ 1) (h4 : 0 ≤ c4 ∧ c4 ≤ 1) (h5 : 0 ≤ c5 ∧ c5 ≤ 1) (h6 : 0 ≤ c6 ∧ c6 ≤ 1) (h7 : 0 ≤ c7 ∧ c7 ≤ 1) (h8 : 0 ≤ c8 ∧ c8 ≤ 1) (h9 : 0 ≤ c9 ∧ c9 ≤ 1) (h10 : 0 ≤ c10 ∧ c10 ≤ 1) (h11 : 0 ≤ c11 ∧ c11 ≤ 1) (e : M = 4096 * T + (c0 + 2 * c1 + 4 * c2 + 8 * c3 + 16 * c4 + 32 * c5 + 64 * c6 + 128 * c7 + 256 * c8 + 512 * c9 + 1024 * c10 + 2048 * c11)) :
    M / 4096 = T ∧ M / 1 % 2 = c0 ∧ M / 2 % 2 = c1 ∧ M / 4 % 2 = c2 ∧ M / 8 % 2 = c3 ∧ M / 16 % 2 = c4 ∧ M / 32 % 2 = c5 ∧ M / 64 % 2 = c6 ∧ M / 128 % 2 = c7 ∧ M / 256 % 2 = c8 ∧ M / 512 % 2 = c9 ∧ M / 1024 % 2 = c10 ∧ M / 2048 % 2 = c11 := by
  refine ⟨by omega, bit_is (V := 2048 * T + 1 * c1 + 2 * c2 + 4 * c3 + 8 * c4 + 16 * c5 + 32 * c6 + 64 * c7 + 128 * c8 + 256 * c9 + 512 * c10 + 1024 * c11) (L := 0) (by decide) (by omega) (by omega) h0 (by omega), bit_is (V := 1024 * T + 1 * c2 + 2 * c3 + 4 * c4 + 8 * c5 + 16 * c6 + 32 * c7 + 64 * c8 + 128 * c9 + 256 * c10 + 512 * c11) (L := 1 * c0) (by decide) (by omega) (by omega) h1 (by omega), bit_is (V := 512 * T + 1 * c3 + 2 * c4 + 4 * c5 + 8 * c6 + 16 * c7 + 32 * c8 + 64 * c9 + 128 * c10 + 256 * c11) (L := 1 * c0 + 2 * c1) (by decide) (by omega) (by omega) h2 (by omega), bit_is (V := 256 * T + 1 * c4 + 2 * c5 + 4 * c6 + 8 * c7 + 16 * c8 + 32 * c9 + 64 * c10 + 128 * c11) (L := 1 * c0 + 2 * c1 + 4 * c2) (by decide) (by omega) (by omega) h3 (by omega), bit_is (V := 128 * T + 1 * c5 + 2 * c6 + 4 * c7 + 8 * c8 + 16 * c9 + 32 * c10 + 64 * c11) (L := 1 * c0 + 2 * c1 + 4 * c2 + 8 * c3) (by decide) (by omega) (by omega) h4 (by omega), bit_is (V := 64 * T + 1 * c6 + 2 * c7 + 4 * c8 + 8 * c9 + 16 * c10 + 32 * c11) (L := 1 * c0 + 2 * c1 + 4 * c2 + 8 * c3 + 16 * c4) (by decide) (by omega) (by omega) h5 (by omega), bit_is (V := 32 * T + 1 * c7 + 2 * c8 + 4 * c9 + 8 * c10 + 16 * c11) (L := 1 * c0 + 2 * c1 + 4 * c2 + 8 * c3 + 16 * c4 + 32 * c5) (by decide) (by omega) (by omega) h6 (by omega), bit_is (V := 16 * T + 1 * c8 + 2 * c9 + 4 * c10 + 8 * c11) (L := 1 * c0 + 2 * c1 + 4 * c2 + 8 * c3 + 16 * c4 + 32 * c5 + 64 * c6) (by decide) (by omega) (by omega) h7 (by omega), bit_is (V := 8 * T + 1 * c9 + 2 * c10 + 4 * c11) (L := 1 * c0 + 2 * c1 + 4 * c2 + 8 * c3 + 16 * c4 + 32 * c5 + 64 * c6 + 128 * c7) (by decide) (by omega) (by omega) h8 (by omega), bit_is (V := 4 * T + 1 * c10 + 2 * c11) (L := 1 * c0 + 2 * c1 + 4 * c2 + 8 * c3 + 16 * c4 + 32 * c5 + 64 * c6 + 128 * c7 + 256 * c8) (by decide) (by omega) (by omega) h9 (by omega), bit_is (V := 2 * T + 1 * c11) (L := 1 * c0 + 2 * c1 + 4 * c2 + 8 * c3 + 16 * c4 + 32 * c5 + 64 * c6 + 128 * c7 + 256 * c8 + 512 * c9) (by decide) (by omega) (by omega) h10 (by omega), bit_is (V := 1 * T) (L := 1 * c0 + 2 * c1 + 4 * c2 + 8 * c3 + 16 * c4 + 32 * c5 + 64 * c6 + 128 * c7 + 256 * c8 + 512 * c9 + 1024 * c10) (by decide) (by omega) (by omega) h11 (by omega)⟩
theorem bitR (x v : Int) : 0 ≤ x / v % 2 ∧ x / v % 2 ≤ 1 := by omega
theorem bits_dec (M : Int) : M = 4096 * (M / 4096) + ((M / 1 % 2) + 2 * (M / 2 % 2) + 4 * (M / 4 % 2) + 8 * (M / 8 % 2) + 16 * (M / 16 % 2) + 32 * (M / 32 % 2) + 64 * (M / 64 % 2) + 128 * (M / 128 % 2) + 256 * (M / 256 % 2) + 512 * (M / 512 % 2) + 1024 * (M / 1024 % 2) + 2048 * (M / 2048 % 2)) := by
  have d0 : M / 1 = 2 * (M / 2) + M / 1 % 2 := by omega
  have d1 : M / 2 = 2 * (M / 4) + M / 2 % 2 := by omega
  have d2 : M / 4 = 2 * (M / 8) + M / 4 % 2 := by omega
  have d3 : M / 8 = 2 * (M / 16) + M / 8 % 2 := by omega
  have d4 : M / 16 = 2 * (M / 32) + M / 16 % 2 := by omega
  have d5 : M / 32 = 2 * (M / 64) + M / 32 % 2 := by omega
  have d6 : M / 64 = 2 * (M / 128) + M / 64 % 2 := by omega
  have d7 : M / 128 = 2 * (M / 256) + M / 128 % 2 := by omega
  have d8 : M / 256 = 2 * (M / 512) + M / 256 % 2 := by omega
  have d9 : M / 512 = 2 * (M / 1024) + M / 512 % 2 := by omega
  have d10 : M / 1024 = 2 * (M / 2048) + M / 1024 % 2 := by omega
  have d11 : M / 2048 = 2 * (M / 4096) + M / 2048 % 2 := by omega
  rw [Int.ediv_one] at d0
  generalize M / 2 % 2 = b1 at *
  generalize M / 4 % 2 = b2 at *
  generalize M / 8 % 2 = b3 at *
  generalize M / 16 % 2 = b4 at *
  generalize M / 32 % 2 = b5 at *
  generalize M / 64 % 2 = b6 at *
  generalize M / 128 % 2 = b7 at *
  generalize M / 256 % 2 = b8 at *
  generalize M / 512 % 2 = b9 at *
  generalize M / 1024 % 2 = b10 at *
  generalize M / 2048 % 2 = b11 at *
  rw [Int.ediv_one]
  generalize M % 2 = b0 at *
  generalize M / 2 = a1 at *
  generalize M / 4 = a2 at *
  generalize M / 8 = a3 at *
  generalize M / 16 = a4 at *
  generalize M / 32 = a5 at *
  generalize M / 64 = a6 at *
  generalize M / 128 = a7 at *
  generalize M / 256 = a8 at *
  generalize M / 512 = a9 at *
  generalize M / 1024 = a10 at *
  generalize M / 2048 = a11 at *
  generalize M / 4096 = a12 at *
  omega
def turnedF (there deed : Int) : Int := if deed = 0 then 1 else if deed = 1 then 0 else 1 - there
theorem turned_eq {th de : Int} (h0 : 0 ≤ de) (h3 : de < 3) : [1, 0, 1 - th].getD de.toNat 0 = turnedF th de := by
  have : de = 0 ∨ de = 1 ∨ de = 2 := by omega
  rcases this with rfl | rfl | rfl <;> simp [turnedF]
theorem turned_range {th de : Int} (h0 : 0 ≤ th) (h1 : th < 2) : 0 ≤ turnedF th de ∧ turnedF th de < 2 := by
  unfold turnedF; split
  · omega
  · split <;> omega
def lastF (runs above who : Int) : Str := if above = 1 then (if runs = 1 then (if who = 2 then Str.ofString "t" else Str.ofString "s") else (if who = 2 then Str.ofString "T" else Str.ofString "S")) else if runs = 1 then Str.ofString "x" else Str.ofString "-"
abbrev inT (y x : Str) : Bool := !(Builtin.Str.occurrences y x 0 y.length 1).isEmpty
abbrev placeF (wh wt : Int) : Int := 1 + 3 * wh + if 2 < wt then 2 else wt
abbrev signAt (ss : List Str) (wh wt : Int) : Str := ss.getD (placeF wh wt).toNat Str.empty
abbrev runsF (x : Str) : Int := if inT (Str.ofString "xst") x = true then 1 else 0
abbrev aboveF (x : Str) : Int := if inT (Str.ofString "sStT") x = true then 1 else 0
abbrev thereF (x : Str) : Int := if (x == Str.ofString "-") = true then 0 else 1
def newF (x : Str) (de wh wt : Int) : Str :=
  if wt < 2 then (if turnedF (thereF x) de = 0 then Str.ofString "-" else Txt.item (Str.ofString "rw") wt)
  else if wt = 2 then lastF (turnedF (runsF x) de) (aboveF x) wh else lastF (runsF x) (turnedF (aboveF x) de) wh
def signsF (ss : List Str) (de wh wt : Int) : List Str := ss.take (placeF wh wt).toNat ++ [newF (signAt ss wh wt) de wh wt] ++ ss.drop (placeF wh wt + 1).toNat
def givenF (ss : List Str) (g t : Int) : List Str :=
  ss.take (1 + 3 * t).toNat ++ ((ss.drop (1 + 3 * g).toNat).take ((3 + 3 * g).toNat - (1 + 3 * g).toNat) ++ [lastF (runsF (ss.getD (3 + 3 * g).toNat Str.empty)) (aboveF (ss.getD (3 + 3 * t).toNat Str.empty)) t]) ++ ss.drop (4 + 3 * t).toNat
theorem bit01 (x v : Int) : x / v % 2 = 0 ∨ x / v % 2 = 1 := by omega
theorem new_0_0 {b de : Int} (hb : b = 0 ∨ b = 1) (hd : de = 0 ∨ de = 1 ∨ de = 2) : newF (oneSign b (Str.ofString "r")) de 0 0 = oneSign (turnedF b de) (Str.ofString "r") := by
  rcases hb with rfl | rfl <;> rcases hd with rfl | rfl | rfl <;> decide +kernel
theorem new_0_1 {b de : Int} (hb : b = 0 ∨ b = 1) (hd : de = 0 ∨ de = 1 ∨ de = 2) : newF (oneSign b (Str.ofString "w")) de 0 1 = oneSign (turnedF b de) (Str.ofString "w") := by
  rcases hb with rfl | rfl <;> rcases hd with rfl | rfl | rfl <;> decide +kernel
theorem new_0_2 {r a de : Int} (hr : r = 0 ∨ r = 1) (ha : a = 0 ∨ a = 1) (hd : de = 0 ∨ de = 1 ∨ de = 2) : newF (endSign r a (Str.ofString "s") (Str.ofString "S")) de 0 2 = endSign (turnedF r de) a (Str.ofString "s") (Str.ofString "S") := by
  rcases hr with rfl | rfl <;> rcases ha with rfl | rfl <;> rcases hd with rfl | rfl | rfl <;> decide +kernel
theorem new_0_3 {r a de : Int} (hr : r = 0 ∨ r = 1) (ha : a = 0 ∨ a = 1) (hd : de = 0 ∨ de = 1 ∨ de = 2) : newF (endSign r a (Str.ofString "s") (Str.ofString "S")) de 0 3 = endSign r (turnedF a de) (Str.ofString "s") (Str.ofString "S") := by
  rcases hr with rfl | rfl <;> rcases ha with rfl | rfl <;> rcases hd with rfl | rfl | rfl <;> decide +kernel
theorem new_1_0 {b de : Int} (hb : b = 0 ∨ b = 1) (hd : de = 0 ∨ de = 1 ∨ de = 2) : newF (oneSign b (Str.ofString "r")) de 1 0 = oneSign (turnedF b de) (Str.ofString "r") := by
  rcases hb with rfl | rfl <;> rcases hd with rfl | rfl | rfl <;> decide +kernel
theorem new_1_1 {b de : Int} (hb : b = 0 ∨ b = 1) (hd : de = 0 ∨ de = 1 ∨ de = 2) : newF (oneSign b (Str.ofString "w")) de 1 1 = oneSign (turnedF b de) (Str.ofString "w") := by
  rcases hb with rfl | rfl <;> rcases hd with rfl | rfl | rfl <;> decide +kernel
theorem new_1_2 {r a de : Int} (hr : r = 0 ∨ r = 1) (ha : a = 0 ∨ a = 1) (hd : de = 0 ∨ de = 1 ∨ de = 2) : newF (endSign r a (Str.ofString "s") (Str.ofString "S")) de 1 2 = endSign (turnedF r de) a (Str.ofString "s") (Str.ofString "S") := by
  rcases hr with rfl | rfl <;> rcases ha with rfl | rfl <;> rcases hd with rfl | rfl | rfl <;> decide +kernel
theorem new_1_3 {r a de : Int} (hr : r = 0 ∨ r = 1) (ha : a = 0 ∨ a = 1) (hd : de = 0 ∨ de = 1 ∨ de = 2) : newF (endSign r a (Str.ofString "s") (Str.ofString "S")) de 1 3 = endSign r (turnedF a de) (Str.ofString "s") (Str.ofString "S") := by
  rcases hr with rfl | rfl <;> rcases ha with rfl | rfl <;> rcases hd with rfl | rfl | rfl <;> decide +kernel
theorem new_2_0 {b de : Int} (hb : b = 0 ∨ b = 1) (hd : de = 0 ∨ de = 1 ∨ de = 2) : newF (oneSign b (Str.ofString "r")) de 2 0 = oneSign (turnedF b de) (Str.ofString "r") := by
  rcases hb with rfl | rfl <;> rcases hd with rfl | rfl | rfl <;> decide +kernel
theorem new_2_1 {b de : Int} (hb : b = 0 ∨ b = 1) (hd : de = 0 ∨ de = 1 ∨ de = 2) : newF (oneSign b (Str.ofString "w")) de 2 1 = oneSign (turnedF b de) (Str.ofString "w") := by
  rcases hb with rfl | rfl <;> rcases hd with rfl | rfl | rfl <;> decide +kernel
theorem new_2_2 {r a de : Int} (hr : r = 0 ∨ r = 1) (ha : a = 0 ∨ a = 1) (hd : de = 0 ∨ de = 1 ∨ de = 2) : newF (endSign r a (Str.ofString "t") (Str.ofString "T")) de 2 2 = endSign (turnedF r de) a (Str.ofString "t") (Str.ofString "T") := by
  rcases hr with rfl | rfl <;> rcases ha with rfl | rfl <;> rcases hd with rfl | rfl | rfl <;> decide +kernel
theorem new_2_3 {r a de : Int} (hr : r = 0 ∨ r = 1) (ha : a = 0 ∨ a = 1) (hd : de = 0 ∨ de = 1 ∨ de = 2) : newF (endSign r a (Str.ofString "t") (Str.ofString "T")) de 2 3 = endSign r (turnedF a de) (Str.ofString "t") (Str.ofString "T") := by
  rcases hr with rfl | rfl <;> rcases ha with rfl | rfl <;> rcases hd with rfl | rfl | rfl <;> decide +kernel
theorem sig_0_0 {ty b0 b1 b2 b3 b4 b5 b6 b7 b8 b9 b10 b11 de : Int} (hb8 : b8 = 0 ∨ b8 = 1) (hd : de = 0 ∨ de = 1 ∨ de = 2) : signsF (sigOf ty b0 b1 b2 b3 b4 b5 b6 b7 b8 b9 b10 b11) de 0 0 = sigOf ty b0 b1 b2 b3 b4 b5 b6 b7 (turnedF b8 de) b9 b10 b11 := by
  have e : signsF (sigOf ty b0 b1 b2 b3 b4 b5 b6 b7 b8 b9 b10 b11) de 0 0 = [typeSign ty, newF (oneSign b8 (Str.ofString "r")) de 0 0, oneSign b7 (Str.ofString "w"), endSign b6 b11 (Str.ofString "s") (Str.ofString "S"), oneSign b5 (Str.ofString "r"), oneSign b4 (Str.ofString "w"), endSign b3 b10 (Str.ofString "s") (Str.ofString "S"), oneSign b2 (Str.ofString "r"), oneSign b1 (Str.ofString "w"), endSign b0 b9 (Str.ofString "t") (Str.ofString "T")] := rfl
  rw [e, new_0_0 hb8 hd]; rfl
theorem sig_0_1 {ty b0 b1 b2 b3 b4 b5 b6 b7 b8 b9 b10 b11 de : Int} (hb7 : b7 = 0 ∨ b7 = 1) (hd : de = 0 ∨ de = 1 ∨ de = 2) : signsF (sigOf ty b0 b1 b2 b3 b4 b5 b6 b7 b8 b9 b10 b11) de 0 1 = sigOf ty b0 b1 b2 b3 b4 b5 b6 (turnedF b7 de) b8 b9 b10 b11 := by
  have e : signsF (sigOf ty b0 b1 b2 b3 b4 b5 b6 b7 b8 b9 b10 b11) de 0 1 = [typeSign ty, oneSign b8 (Str.ofString "r"), newF (oneSign b7 (Str.ofString "w")) de 0 1, endSign b6 b11 (Str.ofString "s") (Str.ofString "S"), oneSign b5 (Str.ofString "r"), oneSign b4 (Str.ofString "w"), endSign b3 b10 (Str.ofString "s") (Str.ofString "S"), oneSign b2 (Str.ofString "r"), oneSign b1 (Str.ofString "w"), endSign b0 b9 (Str.ofString "t") (Str.ofString "T")] := rfl
  rw [e, new_0_1 hb7 hd]; rfl
theorem sig_0_2 {ty b0 b1 b2 b3 b4 b5 b6 b7 b8 b9 b10 b11 de : Int} (hb6 : b6 = 0 ∨ b6 = 1) (hb11 : b11 = 0 ∨ b11 = 1) (hd : de = 0 ∨ de = 1 ∨ de = 2) : signsF (sigOf ty b0 b1 b2 b3 b4 b5 b6 b7 b8 b9 b10 b11) de 0 2 = sigOf ty b0 b1 b2 b3 b4 b5 (turnedF b6 de) b7 b8 b9 b10 b11 := by
  have e : signsF (sigOf ty b0 b1 b2 b3 b4 b5 b6 b7 b8 b9 b10 b11) de 0 2 = [typeSign ty, oneSign b8 (Str.ofString "r"), oneSign b7 (Str.ofString "w"), newF (endSign b6 b11 (Str.ofString "s") (Str.ofString "S")) de 0 2, oneSign b5 (Str.ofString "r"), oneSign b4 (Str.ofString "w"), endSign b3 b10 (Str.ofString "s") (Str.ofString "S"), oneSign b2 (Str.ofString "r"), oneSign b1 (Str.ofString "w"), endSign b0 b9 (Str.ofString "t") (Str.ofString "T")] := rfl
  rw [e, new_0_2 hb6 hb11 hd]; rfl
theorem sig_0_3 {ty b0 b1 b2 b3 b4 b5 b6 b7 b8 b9 b10 b11 de : Int} (hb6 : b6 = 0 ∨ b6 = 1) (hb11 : b11 = 0 ∨ b11 = 1) (hd : de = 0 ∨ de = 1 ∨ de = 2) : signsF (sigOf ty b0 b1 b2 b3 b4 b5 b6 b7 b8 b9 b10 b11) de 0 3 = sigOf ty b0 b1 b2 b3 b4 b5 b6 b7 b8 b9 b10 (turnedF b11 de) := by
  have e : signsF (sigOf ty b0 b1 b2 b3 b4 b5 b6 b7 b8 b9 b10 b11) de 0 3 = [typeSign ty, oneSign b8 (Str.ofString "r"), oneSign b7 (Str.ofString "w"), newF (endSign b6 b11 (Str.ofString "s") (Str.ofString "S")) de 0 3, oneSign b5 (Str.ofString "r"), oneSign b4 (Str.ofString "w"), endSign b3 b10 (Str.ofString "s") (Str.ofString "S"), oneSign b2 (Str.ofString "r"), oneSign b1 (Str.ofString "w"), endSign b0 b9 (Str.ofString "t") (Str.ofString "T")] := rfl
  rw [e, new_0_3 hb6 hb11 hd]; rfl
theorem sig_1_0 {ty b0 b1 b2 b3 b4 b5 b6 b7 b8 b9 b10 b11 de : Int} (hb5 : b5 = 0 ∨ b5 = 1) (hd : de = 0 ∨ de = 1 ∨ de = 2) : signsF (sigOf ty b0 b1 b2 b3 b4 b5 b6 b7 b8 b9 b10 b11) de 1 0 = sigOf ty b0 b1 b2 b3 b4 (turnedF b5 de) b6 b7 b8 b9 b10 b11 := by
  have e : signsF (sigOf ty b0 b1 b2 b3 b4 b5 b6 b7 b8 b9 b10 b11) de 1 0 = [typeSign ty, oneSign b8 (Str.ofString "r"), oneSign b7 (Str.ofString "w"), endSign b6 b11 (Str.ofString "s") (Str.ofString "S"), newF (oneSign b5 (Str.ofString "r")) de 1 0, oneSign b4 (Str.ofString "w"), endSign b3 b10 (Str.ofString "s") (Str.ofString "S"), oneSign b2 (Str.ofString "r"), oneSign b1 (Str.ofString "w"), endSign b0 b9 (Str.ofString "t") (Str.ofString "T")] := rfl
  rw [e, new_1_0 hb5 hd]; rfl
theorem sig_1_1 {ty b0 b1 b2 b3 b4 b5 b6 b7 b8 b9 b10 b11 de : Int} (hb4 : b4 = 0 ∨ b4 = 1) (hd : de = 0 ∨ de = 1 ∨ de = 2) : signsF (sigOf ty b0 b1 b2 b3 b4 b5 b6 b7 b8 b9 b10 b11) de 1 1 = sigOf ty b0 b1 b2 b3 (turnedF b4 de) b5 b6 b7 b8 b9 b10 b11 := by
  have e : signsF (sigOf ty b0 b1 b2 b3 b4 b5 b6 b7 b8 b9 b10 b11) de 1 1 = [typeSign ty, oneSign b8 (Str.ofString "r"), oneSign b7 (Str.ofString "w"), endSign b6 b11 (Str.ofString "s") (Str.ofString "S"), oneSign b5 (Str.ofString "r"), newF (oneSign b4 (Str.ofString "w")) de 1 1, endSign b3 b10 (Str.ofString "s") (Str.ofString "S"), oneSign b2 (Str.ofString "r"), oneSign b1 (Str.ofString "w"), endSign b0 b9 (Str.ofString "t") (Str.ofString "T")] := rfl
  rw [e, new_1_1 hb4 hd]; rfl
theorem sig_1_2 {ty b0 b1 b2 b3 b4 b5 b6 b7 b8 b9 b10 b11 de : Int} (hb3 : b3 = 0 ∨ b3 = 1) (hb10 : b10 = 0 ∨ b10 = 1) (hd : de = 0 ∨ de = 1 ∨ de = 2) : signsF (sigOf ty b0 b1 b2 b3 b4 b5 b6 b7 b8 b9 b10 b11) de 1 2 = sigOf ty b0 b1 b2 (turnedF b3 de) b4 b5 b6 b7 b8 b9 b10 b11 := by
  have e : signsF (sigOf ty b0 b1 b2 b3 b4 b5 b6 b7 b8 b9 b10 b11) de 1 2 = [typeSign ty, oneSign b8 (Str.ofString "r"), oneSign b7 (Str.ofString "w"), endSign b6 b11 (Str.ofString "s") (Str.ofString "S"), oneSign b5 (Str.ofString "r"), oneSign b4 (Str.ofString "w"), newF (endSign b3 b10 (Str.ofString "s") (Str.ofString "S")) de 1 2, oneSign b2 (Str.ofString "r"), oneSign b1 (Str.ofString "w"), endSign b0 b9 (Str.ofString "t") (Str.ofString "T")] := rfl
  rw [e, new_1_2 hb3 hb10 hd]; rfl
theorem sig_1_3 {ty b0 b1 b2 b3 b4 b5 b6 b7 b8 b9 b10 b11 de : Int} (hb3 : b3 = 0 ∨ b3 = 1) (hb10 : b10 = 0 ∨ b10 = 1) (hd : de = 0 ∨ de = 1 ∨ de = 2) : signsF (sigOf ty b0 b1 b2 b3 b4 b5 b6 b7 b8 b9 b10 b11) de 1 3 = sigOf ty b0 b1 b2 b3 b4 b5 b6 b7 b8 b9 (turnedF b10 de) b11 := by
  have e : signsF (sigOf ty b0 b1 b2 b3 b4 b5 b6 b7 b8 b9 b10 b11) de 1 3 = [typeSign ty, oneSign b8 (Str.ofString "r"), oneSign b7 (Str.ofString "w"), endSign b6 b11 (Str.ofString "s") (Str.ofString "S"), oneSign b5 (Str.ofString "r"), oneSign b4 (Str.ofString "w"), newF (endSign b3 b10 (Str.ofString "s") (Str.ofString "S")) de 1 3, oneSign b2 (Str.ofString "r"), oneSign b1 (Str.ofString "w"), endSign b0 b9 (Str.ofString "t") (Str.ofString "T")] := rfl
  rw [e, new_1_3 hb3 hb10 hd]; rfl
theorem sig_2_0 {ty b0 b1 b2 b3 b4 b5 b6 b7 b8 b9 b10 b11 de : Int} (hb2 : b2 = 0 ∨ b2 = 1) (hd : de = 0 ∨ de = 1 ∨ de = 2) : signsF (sigOf ty b0 b1 b2 b3 b4 b5 b6 b7 b8 b9 b10 b11) de 2 0 = sigOf ty b0 b1 (turnedF b2 de) b3 b4 b5 b6 b7 b8 b9 b10 b11 := by
  have e : signsF (sigOf ty b0 b1 b2 b3 b4 b5 b6 b7 b8 b9 b10 b11) de 2 0 = [typeSign ty, oneSign b8 (Str.ofString "r"), oneSign b7 (Str.ofString "w"), endSign b6 b11 (Str.ofString "s") (Str.ofString "S"), oneSign b5 (Str.ofString "r"), oneSign b4 (Str.ofString "w"), endSign b3 b10 (Str.ofString "s") (Str.ofString "S"), newF (oneSign b2 (Str.ofString "r")) de 2 0, oneSign b1 (Str.ofString "w"), endSign b0 b9 (Str.ofString "t") (Str.ofString "T")] := rfl
  rw [e, new_2_0 hb2 hd]; rfl
theorem sig_2_1 {ty b0 b1 b2 b3 b4 b5 b6 b7 b8 b9 b10 b11 de : Int} (hb1 : b1 = 0 ∨ b1 = 1) (hd : de = 0 ∨ de = 1 ∨ de = 2) : signsF (sigOf ty b0 b1 b2 b3 b4 b5 b6 b7 b8 b9 b10 b11) de 2 1 = sigOf ty b0 (turnedF b1 de) b2 b3 b4 b5 b6 b7 b8 b9 b10 b11 := by
  have e : signsF (sigOf ty b0 b1 b2 b3 b4 b5 b6 b7 b8 b9 b10 b11) de 2 1 = [typeSign ty, oneSign b8 (Str.ofString "r"), oneSign b7 (Str.ofString "w"), endSign b6 b11 (Str.ofString "s") (Str.ofString "S"), oneSign b5 (Str.ofString "r"), oneSign b4 (Str.ofString "w"), endSign b3 b10 (Str.ofString "s") (Str.ofString "S"), oneSign b2 (Str.ofString "r"), newF (oneSign b1 (Str.ofString "w")) de 2 1, endSign b0 b9 (Str.ofString "t") (Str.ofString "T")] := rfl
  rw [e, new_2_1 hb1 hd]; rfl
theorem sig_2_2 {ty b0 b1 b2 b3 b4 b5 b6 b7 b8 b9 b10 b11 de : Int} (hb0 : b0 = 0 ∨ b0 = 1) (hb9 : b9 = 0 ∨ b9 = 1) (hd : de = 0 ∨ de = 1 ∨ de = 2) : signsF (sigOf ty b0 b1 b2 b3 b4 b5 b6 b7 b8 b9 b10 b11) de 2 2 = sigOf ty (turnedF b0 de) b1 b2 b3 b4 b5 b6 b7 b8 b9 b10 b11 := by
  have e : signsF (sigOf ty b0 b1 b2 b3 b4 b5 b6 b7 b8 b9 b10 b11) de 2 2 = [typeSign ty, oneSign b8 (Str.ofString "r"), oneSign b7 (Str.ofString "w"), endSign b6 b11 (Str.ofString "s") (Str.ofString "S"), oneSign b5 (Str.ofString "r"), oneSign b4 (Str.ofString "w"), endSign b3 b10 (Str.ofString "s") (Str.ofString "S"), oneSign b2 (Str.ofString "r"), oneSign b1 (Str.ofString "w"), newF (endSign b0 b9 (Str.ofString "t") (Str.ofString "T")) de 2 2] := rfl
  rw [e, new_2_2 hb0 hb9 hd]; rfl
theorem sig_2_3 {ty b0 b1 b2 b3 b4 b5 b6 b7 b8 b9 b10 b11 de : Int} (hb0 : b0 = 0 ∨ b0 = 1) (hb9 : b9 = 0 ∨ b9 = 1) (hd : de = 0 ∨ de = 1 ∨ de = 2) : signsF (sigOf ty b0 b1 b2 b3 b4 b5 b6 b7 b8 b9 b10 b11) de 2 3 = sigOf ty b0 b1 b2 b3 b4 b5 b6 b7 b8 (turnedF b9 de) b10 b11 := by
  have e : signsF (sigOf ty b0 b1 b2 b3 b4 b5 b6 b7 b8 b9 b10 b11) de 2 3 = [typeSign ty, oneSign b8 (Str.ofString "r"), oneSign b7 (Str.ofString "w"), endSign b6 b11 (Str.ofString "s") (Str.ofString "S"), oneSign b5 (Str.ofString "r"), oneSign b4 (Str.ofString "w"), endSign b3 b10 (Str.ofString "s") (Str.ofString "S"), oneSign b2 (Str.ofString "r"), oneSign b1 (Str.ofString "w"), newF (endSign b0 b9 (Str.ofString "t") (Str.ofString "T")) de 2 3] := rfl
  rw [e, new_2_3 hb0 hb9 hd]; rfl
theorem fm_set_0 (M c : Int) (hc : 0 ≤ c ∧ c ≤ 1) : fmSigns (M + (c - M / 1 % 2) * 1) = sigOf (M / 4096 % 16) c (M / 2 % 2) (M / 4 % 2) (M / 8 % 2) (M / 16 % 2) (M / 32 % 2) (M / 64 % 2) (M / 128 % 2) (M / 256 % 2) (M / 512 % 2) (M / 1024 % 2) (M / 2048 % 2) := by
  have hM := bits_dec M
  obtain ⟨e, e0, e1, e2, e3, e4, e5, e6, e7, e8, e9, e10, e11⟩ := bits_of (T := M / 4096) (c0 := c) (c1 := (M / 2 % 2)) (c2 := (M / 4 % 2)) (c3 := (M / 8 % 2)) (c4 := (M / 16 % 2)) (c5 := (M / 32 % 2)) (c6 := (M / 64 % 2)) (c7 := (M / 128 % 2)) (c8 := (M / 256 % 2)) (c9 := (M / 512 % 2)) (c10 := (M / 1024 % 2)) (c11 := (M / 2048 % 2)) hc (bitR _ _) (bitR _ _) (bitR _ _) (bitR _ _) (bitR _ _) (bitR _ _) (bitR _ _) (bitR _ _) (bitR _ _) (bitR _ _) (bitR _ _) (M := M + (c - M / 1 % 2) * 1) (by
    generalize M / 1 % 2 = b0 at *
    generalize M / 2 % 2 = b1 at *
    generalize M / 4 % 2 = b2 at *
    generalize M / 8 % 2 = b3 at *
    generalize M / 16 % 2 = b4 at *
    generalize M / 32 % 2 = b5 at *
    generalize M / 64 % 2 = b6 at *
    generalize M / 128 % 2 = b7 at *
    generalize M / 256 % 2 = b8 at *
    generalize M / 512 % 2 = b9 at *
    generalize M / 1024 % 2 = b10 at *
    generalize M / 2048 % 2 = b11 at *
    generalize M / 4096 = T at *
    omega)
  rw [fmSigns_eq, e, e0, e1, e2, e3, e4, e5, e6, e7, e8, e9, e10, e11]
theorem fm_set_1 (M c : Int) (hc : 0 ≤ c ∧ c ≤ 1) : fmSigns (M + (c - M / 2 % 2) * 2) = sigOf (M / 4096 % 16) (M / 1 % 2) c (M / 4 % 2) (M / 8 % 2) (M / 16 % 2) (M / 32 % 2) (M / 64 % 2) (M / 128 % 2) (M / 256 % 2) (M / 512 % 2) (M / 1024 % 2) (M / 2048 % 2) := by
  have hM := bits_dec M
  obtain ⟨e, e0, e1, e2, e3, e4, e5, e6, e7, e8, e9, e10, e11⟩ := bits_of (T := M / 4096) (c0 := (M / 1 % 2)) (c1 := c) (c2 := (M / 4 % 2)) (c3 := (M / 8 % 2)) (c4 := (M / 16 % 2)) (c5 := (M / 32 % 2)) (c6 := (M / 64 % 2)) (c7 := (M / 128 % 2)) (c8 := (M / 256 % 2)) (c9 := (M / 512 % 2)) (c10 := (M / 1024 % 2)) (c11 := (M / 2048 % 2)) (bitR _ _) hc (bitR _ _) (bitR _ _) (bitR _ _) (bitR _ _) (bitR _ _) (bitR _ _) (bitR _ _) (bitR _ _) (bitR _ _) (bitR _ _) (M := M + (c - M / 2 % 2) * 2) (by
    generalize M / 1 % 2 = b0 at *
    generalize M / 2 % 2 = b1 at *
    generalize M / 4 % 2 = b2 at *
    generalize M / 8 % 2 = b3 at *
    generalize M / 16 % 2 = b4 at *
    generalize M / 32 % 2 = b5 at *
    generalize M / 64 % 2 = b6 at *
    generalize M / 128 % 2 = b7 at *
    generalize M / 256 % 2 = b8 at *
    generalize M / 512 % 2 = b9 at *
    generalize M / 1024 % 2 = b10 at *
    generalize M / 2048 % 2 = b11 at *
    generalize M / 4096 = T at *
    omega)
  rw [fmSigns_eq, e, e0, e1, e2, e3, e4, e5, e6, e7, e8, e9, e10, e11]
theorem fm_set_2 (M c : Int) (hc : 0 ≤ c ∧ c ≤ 1) : fmSigns (M + (c - M / 4 % 2) * 4) = sigOf (M / 4096 % 16) (M / 1 % 2) (M / 2 % 2) c (M / 8 % 2) (M / 16 % 2) (M / 32 % 2) (M / 64 % 2) (M / 128 % 2) (M / 256 % 2) (M / 512 % 2) (M / 1024 % 2) (M / 2048 % 2) := by
  have hM := bits_dec M
  obtain ⟨e, e0, e1, e2, e3, e4, e5, e6, e7, e8, e9, e10, e11⟩ := bits_of (T := M / 4096) (c0 := (M / 1 % 2)) (c1 := (M / 2 % 2)) (c2 := c) (c3 := (M / 8 % 2)) (c4 := (M / 16 % 2)) (c5 := (M / 32 % 2)) (c6 := (M / 64 % 2)) (c7 := (M / 128 % 2)) (c8 := (M / 256 % 2)) (c9 := (M / 512 % 2)) (c10 := (M / 1024 % 2)) (c11 := (M / 2048 % 2)) (bitR _ _) (bitR _ _) hc (bitR _ _) (bitR _ _) (bitR _ _) (bitR _ _) (bitR _ _) (bitR _ _) (bitR _ _) (bitR _ _) (bitR _ _) (M := M + (c - M / 4 % 2) * 4) (by
    generalize M / 1 % 2 = b0 at *
    generalize M / 2 % 2 = b1 at *
    generalize M / 4 % 2 = b2 at *
    generalize M / 8 % 2 = b3 at *
    generalize M / 16 % 2 = b4 at *
    generalize M / 32 % 2 = b5 at *
    generalize M / 64 % 2 = b6 at *
    generalize M / 128 % 2 = b7 at *
    generalize M / 256 % 2 = b8 at *
    generalize M / 512 % 2 = b9 at *
    generalize M / 1024 % 2 = b10 at *
    generalize M / 2048 % 2 = b11 at *
    generalize M / 4096 = T at *
    omega)
  rw [fmSigns_eq, e, e0, e1, e2, e3, e4, e5, e6, e7, e8, e9, e10, e11]
theorem fm_set_3 (M c : Int) (hc : 0 ≤ c ∧ c ≤ 1) : fmSigns (M + (c - M / 8 % 2) * 8) = sigOf (M / 4096 % 16) (M / 1 % 2) (M / 2 % 2) (M / 4 % 2) c (M / 16 % 2) (M / 32 % 2) (M / 64 % 2) (M / 128 % 2) (M / 256 % 2) (M / 512 % 2) (M / 1024 % 2) (M / 2048 % 2) := by
  have hM := bits_dec M
  obtain ⟨e, e0, e1, e2, e3, e4, e5, e6, e7, e8, e9, e10, e11⟩ := bits_of (T := M / 4096) (c0 := (M / 1 % 2)) (c1 := (M / 2 % 2)) (c2 := (M / 4 % 2)) (c3 := c) (c4 := (M / 16 % 2)) (c5 := (M / 32 % 2)) (c6 := (M / 64 % 2)) (c7 := (M / 128 % 2)) (c8 := (M / 256 % 2)) (c9 := (M / 512 % 2)) (c10 := (M / 1024 % 2)) (c11 := (M / 2048 % 2)) (bitR _ _) (bitR _ _) (bitR _ _) hc (bitR _ _) (bitR _ _) (bitR _ _) (bitR _ _) (bitR _ _) (bitR _ _) (bitR _ _) (bitR _ _) (M := M + (c - M / 8 % 2) * 8) (by
    generalize M / 1 % 2 = b0 at *
    generalize M / 2 % 2 = b1 at *
    generalize M / 4 % 2 = b2 at *
    generalize M / 8 % 2 = b3 at *
    generalize M / 16 % 2 = b4 at *
    generalize M / 32 % 2 = b5 at *
    generalize M / 64 % 2 = b6 at *
    generalize M / 128 % 2 = b7 at *
    generalize M / 256 % 2 = b8 at *
    generalize M / 512 % 2 = b9 at *
    generalize M / 1024 % 2 = b10 at *
    generalize M / 2048 % 2 = b11 at *
    generalize M / 4096 = T at *
    omega)
  rw [fmSigns_eq, e, e0, e1, e2, e3, e4, e5, e6, e7, e8, e9, e10, e11]
theorem fm_set_4 (M c : Int) (hc : 0 ≤ c ∧ c ≤ 1) : fmSigns (M + (c - M / 16 % 2) * 16) = sigOf (M / 4096 % 16) (M / 1 % 2) (M / 2 % 2) (M / 4 % 2) (M / 8 % 2) c (M / 32 % 2) (M / 64 % 2) (M / 128 % 2) (M / 256 % 2) (M / 512 % 2) (M / 1024 % 2) (M / 2048 % 2) := by
  have hM := bits_dec M
  obtain ⟨e, e0, e1, e2, e3, e4, e5, e6, e7, e8, e9, e10, e11⟩ := bits_of (T := M / 4096) (c0 := (M / 1 % 2)) (c1 := (M / 2 % 2)) (c2 := (M / 4 % 2)) (c3 := (M / 8 % 2)) (c4 := c) (c5 := (M / 32 % 2)) (c6 := (M / 64 % 2)) (c7 := (M / 128 % 2)) (c8 := (M / 256 % 2)) (c9 := (M / 512 % 2)) (c10 := (M / 1024 % 2)) (c11 := (M / 2048 % 2)) (bitR _ _) (bitR _ _) (bitR _ _) (bitR _ _) hc (bitR _ _) (bitR _ _) (bitR _ _) (bitR _ _) (bitR _ _) (bitR _ _) (bitR _ _) (M := M + (c - M / 16 % 2) * 16) (by
    generalize M / 1 % 2 = b0 at *
    generalize M / 2 % 2 = b1 at *
    generalize M / 4 % 2 = b2 at *
    generalize M / 8 % 2 = b3 at *
    generalize M / 16 % 2 = b4 at *
    generalize M / 32 % 2 = b5 at *
    generalize M / 64 % 2 = b6 at *
    generalize M / 128 % 2 = b7 at *
    generalize M / 256 % 2 = b8 at *
    generalize M / 512 % 2 = b9 at *
    generalize M / 1024 % 2 = b10 at *
    generalize M / 2048 % 2 = b11 at *
    generalize M / 4096 = T at *
    omega)
  rw [fmSigns_eq, e, e0, e1, e2, e3, e4, e5, e6, e7, e8, e9, e10, e11]
theorem fm_set_5 (M c : Int) (hc : 0 ≤ c ∧ c ≤ 1) : fmSigns (M + (c - M / 32 % 2) * 32) = sigOf (M / 4096 % 16) (M / 1 % 2) (M / 2 % 2) (M / 4 % 2) (M / 8 % 2) (M / 16 % 2) c (M / 64 % 2) (M / 128 % 2) (M / 256 % 2) (M / 512 % 2) (M / 1024 % 2) (M / 2048 % 2) := by
  have hM := bits_dec M
  obtain ⟨e, e0, e1, e2, e3, e4, e5, e6, e7, e8, e9, e10, e11⟩ := bits_of (T := M / 4096) (c0 := (M / 1 % 2)) (c1 := (M / 2 % 2)) (c2 := (M / 4 % 2)) (c3 := (M / 8 % 2)) (c4 := (M / 16 % 2)) (c5 := c) (c6 := (M / 64 % 2)) (c7 := (M / 128 % 2)) (c8 := (M / 256 % 2)) (c9 := (M / 512 % 2)) (c10 := (M / 1024 % 2)) (c11 := (M / 2048 % 2)) (bitR _ _) (bitR _ _) (bitR _ _) (bitR _ _) (bitR _ _) hc (bitR _ _) (bitR _ _) (bitR _ _) (bitR _ _) (bitR _ _) (bitR _ _) (M := M + (c - M / 32 % 2) * 32) (by
    generalize M / 1 % 2 = b0 at *
    generalize M / 2 % 2 = b1 at *
    generalize M / 4 % 2 = b2 at *
    generalize M / 8 % 2 = b3 at *
    generalize M / 16 % 2 = b4 at *
    generalize M / 32 % 2 = b5 at *
    generalize M / 64 % 2 = b6 at *
    generalize M / 128 % 2 = b7 at *
    generalize M / 256 % 2 = b8 at *
    generalize M / 512 % 2 = b9 at *
    generalize M / 1024 % 2 = b10 at *
    generalize M / 2048 % 2 = b11 at *
    generalize M / 4096 = T at *
    omega)
  rw [fmSigns_eq, e, e0, e1, e2, e3, e4, e5, e6, e7, e8, e9, e10, e11]
theorem fm_set_6 (M c : Int) (hc : 0 ≤ c ∧ c ≤ 1) : fmSigns (M + (c - M / 64 % 2) * 64) = sigOf (M / 4096 % 16) (M / 1 % 2) (M / 2 % 2) (M / 4 % 2) (M / 8 % 2) (M / 16 % 2) (M / 32 % 2) c (M / 128 % 2) (M / 256 % 2) (M / 512 % 2) (M / 1024 % 2) (M / 2048 % 2) := by
  have hM := bits_dec M
  obtain ⟨e, e0, e1, e2, e3, e4, e5, e6, e7, e8, e9, e10, e11⟩ := bits_of (T := M / 4096) (c0 := (M / 1 % 2)) (c1 := (M / 2 % 2)) (c2 := (M / 4 % 2)) (c3 := (M / 8 % 2)) (c4 := (M / 16 % 2)) (c5 := (M / 32 % 2)) (c6 := c) (c7 := (M / 128 % 2)) (c8 := (M / 256 % 2)) (c9 := (M / 512 % 2)) (c10 := (M / 1024 % 2)) (c11 := (M / 2048 % 2)) (bitR _ _) (bitR _ _) (bitR _ _) (bitR _ _) (bitR _ _) (bitR _ _) hc (bitR _ _) (bitR _ _) (bitR _ _) (bitR _ _) (bitR _ _) (M := M + (c - M / 64 % 2) * 64) (by
    generalize M / 1 % 2 = b0 at *
    generalize M / 2 % 2 = b1 at *
    generalize M / 4 % 2 = b2 at *
    generalize M / 8 % 2 = b3 at *
    generalize M / 16 % 2 = b4 at *
    generalize M / 32 % 2 = b5 at *
    generalize M / 64 % 2 = b6 at *
    generalize M / 128 % 2 = b7 at *
    generalize M / 256 % 2 = b8 at *
    generalize M / 512 % 2 = b9 at *
    generalize M / 1024 % 2 = b10 at *
    generalize M / 2048 % 2 = b11 at *
    generalize M / 4096 = T at *
    omega)
  rw [fmSigns_eq, e, e0, e1, e2, e3, e4, e5, e6, e7, e8, e9, e10, e11]
theorem fm_set_7 (M c : Int) (hc : 0 ≤ c ∧ c ≤ 1) : fmSigns (M + (c - M / 128 % 2) * 128) = sigOf (M / 4096 % 16) (M / 1 % 2) (M / 2 % 2) (M / 4 % 2) (M / 8 % 2) (M / 16 % 2) (M / 32 % 2) (M / 64 % 2) c (M / 256 % 2) (M / 512 % 2) (M / 1024 % 2) (M / 2048 % 2) := by
  have hM := bits_dec M
  obtain ⟨e, e0, e1, e2, e3, e4, e5, e6, e7, e8, e9, e10, e11⟩ := bits_of (T := M / 4096) (c0 := (M / 1 % 2)) (c1 := (M / 2 % 2)) (c2 := (M / 4 % 2)) (c3 := (M / 8 % 2)) (c4 := (M / 16 % 2)) (c5 := (M / 32 % 2)) (c6 := (M / 64 % 2)) (c7 := c) (c8 := (M / 256 % 2)) (c9 := (M / 512 % 2)) (c10 := (M / 1024 % 2)) (c11 := (M / 2048 % 2)) (bitR _ _) (bitR _ _) (bitR _ _) (bitR _ _) (bitR _ _) (bitR _ _) (bitR _ _) hc (bitR _ _) (bitR _ _) (bitR _ _) (bitR _ _) (M := M + (c - M / 128 % 2) * 128) (by
    generalize M / 1 % 2 = b0 at *
    generalize M / 2 % 2 = b1 at *
    generalize M / 4 % 2 = b2 at *
    generalize M / 8 % 2 = b3 at *
    generalize M / 16 % 2 = b4 at *
    generalize M / 32 % 2 = b5 at *
    generalize M / 64 % 2 = b6 at *
    generalize M / 128 % 2 = b7 at *
    generalize M / 256 % 2 = b8 at *
    generalize M / 512 % 2 = b9 at *
    generalize M / 1024 % 2 = b10 at *
    generalize M / 2048 % 2 = b11 at *
    generalize M / 4096 = T at *
    omega)
  rw [fmSigns_eq, e, e0, e1, e2, e3, e4, e5, e6, e7, e8, e9, e10, e11]
theorem fm_set_8 (M c : Int) (hc : 0 ≤ c ∧ c ≤ 1) : fmSigns (M + (c - M / 256 % 2) * 256) = sigOf (M / 4096 % 16) (M / 1 % 2) (M / 2 % 2) (M / 4 % 2) (M / 8 % 2) (M / 16 % 2) (M / 32 % 2) (M / 64 % 2) (M / 128 % 2) c (M / 512 % 2) (M / 1024 % 2) (M / 2048 % 2) := by
  have hM := bits_dec M
  obtain ⟨e, e0, e1, e2, e3, e4, e5, e6, e7, e8, e9, e10, e11⟩ := bits_of (T := M / 4096) (c0 := (M / 1 % 2)) (c1 := (M / 2 % 2)) (c2 := (M / 4 % 2)) (c3 := (M / 8 % 2)) (c4 := (M / 16 % 2)) (c5 := (M / 32 % 2)) (c6 := (M / 64 % 2)) (c7 := (M / 128 % 2)) (c8 := c) (c9 := (M / 512 % 2)) (c10 := (M / 1024 % 2)) (c11 := (M / 2048 % 2)) (bitR _ _) (bitR _ _) (bitR _ _) (bitR _ _) (bitR _ _) (bitR _ _) (bitR _ _) (bitR _ _) hc (bitR _ _) (bitR _ _) (bitR _ _) (M := M + (c - M / 256 % 2) * 256) (by
    generalize M / 1 % 2 = b0 at *
    generalize M / 2 % 2 = b1 at *
    generalize M / 4 % 2 = b2 at *
    generalize M / 8 % 2 = b3 at *
    generalize M / 16 % 2 = b4 at *
    generalize M / 32 % 2 = b5 at *
    generalize M / 64 % 2 = b6 at *
    generalize M / 128 % 2 = b7 at *
    generalize M / 256 % 2 = b8 at *
    generalize M / 512 % 2 = b9 at *
    generalize M / 1024 % 2 = b10 at *
    generalize M / 2048 % 2 = b11 at *
    generalize M / 4096 = T at *
    omega)
  rw [fmSigns_eq, e, e0, e1, e2, e3, e4, e5, e6, e7, e8, e9, e10, e11]
theorem fm_set_9 (M c : Int) (hc : 0 ≤ c ∧ c ≤ 1) : fmSigns (M + (c - M / 512 % 2) * 512) = sigOf (M / 4096 % 16) (M / 1 % 2) (M / 2 % 2) (M / 4 % 2) (M / 8 % 2) (M / 16 % 2) (M / 32 % 2) (M / 64 % 2) (M / 128 % 2) (M / 256 % 2) c (M / 1024 % 2) (M / 2048 % 2) := by
  have hM := bits_dec M
  obtain ⟨e, e0, e1, e2, e3, e4, e5, e6, e7, e8, e9, e10, e11⟩ := bits_of (T := M / 4096) (c0 := (M / 1 % 2)) (c1 := (M / 2 % 2)) (c2 := (M / 4 % 2)) (c3 := (M / 8 % 2)) (c4 := (M / 16 % 2)) (c5 := (M / 32 % 2)) (c6 := (M / 64 % 2)) (c7 := (M / 128 % 2)) (c8 := (M / 256 % 2)) (c9 := c) (c10 := (M / 1024 % 2)) (c11 := (M / 2048 % 2)) (bitR _ _) (bitR _ _) (bitR _ _) (bitR _ _) (bitR _ _) (bitR _ _) (bitR _ _) (bitR _ _) (bitR _ _) hc (bitR _ _) (bitR _ _) (M := M + (c - M / 512 % 2) * 512) (by
    generalize M / 1 % 2 = b0 at *
    generalize M / 2 % 2 = b1 at *
    generalize M / 4 % 2 = b2 at *
    generalize M / 8 % 2 = b3 at *
    generalize M / 16 % 2 = b4 at *
    generalize M / 32 % 2 = b5 at *
    generalize M / 64 % 2 = b6 at *
    generalize M / 128 % 2 = b7 at *
    generalize M / 256 % 2 = b8 at *
    generalize M / 512 % 2 = b9 at *
    generalize M / 1024 % 2 = b10 at *
    generalize M / 2048 % 2 = b11 at *
    generalize M / 4096 = T at *
    omega)
  rw [fmSigns_eq, e, e0, e1, e2, e3, e4, e5, e6, e7, e8, e9, e10, e11]
theorem fm_set_10 (M c : Int) (hc : 0 ≤ c ∧ c ≤ 1) : fmSigns (M + (c - M / 1024 % 2) * 1024) = sigOf (M / 4096 % 16) (M / 1 % 2) (M / 2 % 2) (M / 4 % 2) (M / 8 % 2) (M / 16 % 2) (M / 32 % 2) (M / 64 % 2) (M / 128 % 2) (M / 256 % 2) (M / 512 % 2) c (M / 2048 % 2) := by
  have hM := bits_dec M
  obtain ⟨e, e0, e1, e2, e3, e4, e5, e6, e7, e8, e9, e10, e11⟩ := bits_of (T := M / 4096) (c0 := (M / 1 % 2)) (c1 := (M / 2 % 2)) (c2 := (M / 4 % 2)) (c3 := (M / 8 % 2)) (c4 := (M / 16 % 2)) (c5 := (M / 32 % 2)) (c6 := (M / 64 % 2)) (c7 := (M / 128 % 2)) (c8 := (M / 256 % 2)) (c9 := (M / 512 % 2)) (c10 := c) (c11 := (M / 2048 % 2)) (bitR _ _) (bitR _ _) (bitR _ _) (bitR _ _) (bitR _ _) (bitR _ _) (bitR _ _) (bitR _ _) (bitR _ _) (bitR _ _) hc (bitR _ _) (M := M + (c - M / 1024 % 2) * 1024) (by
    generalize M / 1 % 2 = b0 at *
    generalize M / 2 % 2 = b1 at *
    generalize M / 4 % 2 = b2 at *
    generalize M / 8 % 2 = b3 at *
    generalize M / 16 % 2 = b4 at *
    generalize M / 32 % 2 = b5 at *
    generalize M / 64 % 2 = b6 at *
    generalize M / 128 % 2 = b7 at *
    generalize M / 256 % 2 = b8 at *
    generalize M / 512 % 2 = b9 at *
    generalize M / 1024 % 2 = b10 at *
    generalize M / 2048 % 2 = b11 at *
    generalize M / 4096 = T at *
    omega)
  rw [fmSigns_eq, e, e0, e1, e2, e3, e4, e5, e6, e7, e8, e9, e10, e11]
theorem fm_set_11 (M c : Int) (hc : 0 ≤ c ∧ c ≤ 1) : fmSigns (M + (c - M / 2048 % 2) * 2048) = sigOf (M / 4096 % 16) (M / 1 % 2) (M / 2 % 2) (M / 4 % 2) (M / 8 % 2) (M / 16 % 2) (M / 32 % 2) (M / 64 % 2) (M / 128 % 2) (M / 256 % 2) (M / 512 % 2) (M / 1024 % 2) c := by
  have hM := bits_dec M
  obtain ⟨e, e0, e1, e2, e3, e4, e5, e6, e7, e8, e9, e10, e11⟩ := bits_of (T := M / 4096) (c0 := (M / 1 % 2)) (c1 := (M / 2 % 2)) (c2 := (M / 4 % 2)) (c3 := (M / 8 % 2)) (c4 := (M / 16 % 2)) (c5 := (M / 32 % 2)) (c6 := (M / 64 % 2)) (c7 := (M / 128 % 2)) (c8 := (M / 256 % 2)) (c9 := (M / 512 % 2)) (c10 := (M / 1024 % 2)) (c11 := c) (bitR _ _) (bitR _ _) (bitR _ _) (bitR _ _) (bitR _ _) (bitR _ _) (bitR _ _) (bitR _ _) (bitR _ _) (bitR _ _) (bitR _ _) hc (M := M + (c - M / 2048 % 2) * 2048) (by
    generalize M / 1 % 2 = b0 at *
    generalize M / 2 % 2 = b1 at *
    generalize M / 4 % 2 = b2 at *
    generalize M / 8 % 2 = b3 at *
    generalize M / 16 % 2 = b4 at *
    generalize M / 32 % 2 = b5 at *
    generalize M / 64 % 2 = b6 at *
    generalize M / 128 % 2 = b7 at *
    generalize M / 256 % 2 = b8 at *
    generalize M / 512 % 2 = b9 at *
    generalize M / 1024 % 2 = b10 at *
    generalize M / 2048 % 2 = b11 at *
    generalize M / 4096 = T at *
    omega)
  rw [fmSigns_eq, e, e0, e1, e2, e3, e4, e5, e6, e7, e8, e9, e10, e11]
theorem step_0_0 {M de : Int} (hd : de = 0 ∨ de = 1 ∨ de = 2) : signsF (fmSigns M) de 0 0 = fmSigns (M + (turnedF (M / 256 % 2) de - M / 256 % 2) * 256) := by
  have hr := turned_range (th := M / 256 % 2) (de := de) (by omega) (by omega)
  rw [fm_set_8 M _ (by omega), fmSigns_eq M, sig_0_0 (bit01 _ _) hd]
theorem step_0_1 {M de : Int} (hd : de = 0 ∨ de = 1 ∨ de = 2) : signsF (fmSigns M) de 0 1 = fmSigns (M + (turnedF (M / 128 % 2) de - M / 128 % 2) * 128) := by
  have hr := turned_range (th := M / 128 % 2) (de := de) (by omega) (by omega)
  rw [fm_set_7 M _ (by omega), fmSigns_eq M, sig_0_1 (bit01 _ _) hd]
theorem step_0_2 {M de : Int} (hd : de = 0 ∨ de = 1 ∨ de = 2) : signsF (fmSigns M) de 0 2 = fmSigns (M + (turnedF (M / 64 % 2) de - M / 64 % 2) * 64) := by
  have hr := turned_range (th := M / 64 % 2) (de := de) (by omega) (by omega)
  rw [fm_set_6 M _ (by omega), fmSigns_eq M, sig_0_2 (bit01 _ _) (bit01 _ _) hd]
theorem step_0_3 {M de : Int} (hd : de = 0 ∨ de = 1 ∨ de = 2) : signsF (fmSigns M) de 0 3 = fmSigns (M + (turnedF (M / 2048 % 2) de - M / 2048 % 2) * 2048) := by
  have hr := turned_range (th := M / 2048 % 2) (de := de) (by omega) (by omega)
  rw [fm_set_11 M _ (by omega), fmSigns_eq M, sig_0_3 (bit01 _ _) (bit01 _ _) hd]
theorem step_1_0 {M de : Int} (hd : de = 0 ∨ de = 1 ∨ de = 2) : signsF (fmSigns M) de 1 0 = fmSigns (M + (turnedF (M / 32 % 2) de - M / 32 % 2) * 32) := by
  have hr := turned_range (th := M / 32 % 2) (de := de) (by omega) (by omega)
  rw [fm_set_5 M _ (by omega), fmSigns_eq M, sig_1_0 (bit01 _ _) hd]
theorem step_1_1 {M de : Int} (hd : de = 0 ∨ de = 1 ∨ de = 2) : signsF (fmSigns M) de 1 1 = fmSigns (M + (turnedF (M / 16 % 2) de - M / 16 % 2) * 16) := by
  have hr := turned_range (th := M / 16 % 2) (de := de) (by omega) (by omega)
  rw [fm_set_4 M _ (by omega), fmSigns_eq M, sig_1_1 (bit01 _ _) hd]
theorem step_1_2 {M de : Int} (hd : de = 0 ∨ de = 1 ∨ de = 2) : signsF (fmSigns M) de 1 2 = fmSigns (M + (turnedF (M / 8 % 2) de - M / 8 % 2) * 8) := by
  have hr := turned_range (th := M / 8 % 2) (de := de) (by omega) (by omega)
  rw [fm_set_3 M _ (by omega), fmSigns_eq M, sig_1_2 (bit01 _ _) (bit01 _ _) hd]
theorem step_1_3 {M de : Int} (hd : de = 0 ∨ de = 1 ∨ de = 2) : signsF (fmSigns M) de 1 3 = fmSigns (M + (turnedF (M / 1024 % 2) de - M / 1024 % 2) * 1024) := by
  have hr := turned_range (th := M / 1024 % 2) (de := de) (by omega) (by omega)
  rw [fm_set_10 M _ (by omega), fmSigns_eq M, sig_1_3 (bit01 _ _) (bit01 _ _) hd]
theorem step_2_0 {M de : Int} (hd : de = 0 ∨ de = 1 ∨ de = 2) : signsF (fmSigns M) de 2 0 = fmSigns (M + (turnedF (M / 4 % 2) de - M / 4 % 2) * 4) := by
  have hr := turned_range (th := M / 4 % 2) (de := de) (by omega) (by omega)
  rw [fm_set_2 M _ (by omega), fmSigns_eq M, sig_2_0 (bit01 _ _) hd]
theorem step_2_1 {M de : Int} (hd : de = 0 ∨ de = 1 ∨ de = 2) : signsF (fmSigns M) de 2 1 = fmSigns (M + (turnedF (M / 2 % 2) de - M / 2 % 2) * 2) := by
  have hr := turned_range (th := M / 2 % 2) (de := de) (by omega) (by omega)
  rw [fm_set_1 M _ (by omega), fmSigns_eq M, sig_2_1 (bit01 _ _) hd]
theorem step_2_2 {M de : Int} (hd : de = 0 ∨ de = 1 ∨ de = 2) : signsF (fmSigns M) de 2 2 = fmSigns (M + (turnedF (M / 1 % 2) de - M / 1 % 2) * 1) := by
  have hr := turned_range (th := M / 1 % 2) (de := de) (by omega) (by omega)
  rw [fm_set_0 M _ (by omega), fmSigns_eq M, sig_2_2 (bit01 _ _) (bit01 _ _) hd]
theorem step_2_3 {M de : Int} (hd : de = 0 ∨ de = 1 ∨ de = 2) : signsF (fmSigns M) de 2 3 = fmSigns (M + (turnedF (M / 512 % 2) de - M / 512 % 2) * 512) := by
  have hr := turned_range (th := M / 512 % 2) (de := de) (by omega) (by omega)
  rw [fm_set_9 M _ (by omega), fmSigns_eq M, sig_2_3 (bit01 _ _) (bit01 _ _) hd]
theorem giv_0_1a {r a c d : Int} (hr : r = 0 ∨ r = 1) (ha : a = 0 ∨ a = 1) (hc : c = 0 ∨ c = 1) (hd : d = 0 ∨ d = 1) :
    lastF (runsF (endSign r a (Str.ofString "s") (Str.ofString "S"))) (aboveF (endSign c d (Str.ofString "s") (Str.ofString "S"))) 1 = endSign r d (Str.ofString "s") (Str.ofString "S") := by
  rcases hr with rfl | rfl <;> rcases ha with rfl | rfl <;> rcases hc with rfl | rfl <;> rcases hd with rfl | rfl <;> decide +kernel
theorem giv_0_1 {ty b0 b1 b2 b3 b4 b5 b6 b7 b8 b9 b10 b11 : Int} (h1 : b6 = 0 ∨ b6 = 1) (h2 : b11 = 0 ∨ b11 = 1) (h3 : b3 = 0 ∨ b3 = 1) (h4 : b10 = 0 ∨ b10 = 1) : givenF (sigOf ty b0 b1 b2 b3 b4 b5 b6 b7 b8 b9 b10 b11) 0 1 = sigOf ty b0 b1 b2 b6 b7 b8 b6 b7 b8 b9 b10 b11 := by
  have e : givenF (sigOf ty b0 b1 b2 b3 b4 b5 b6 b7 b8 b9 b10 b11) 0 1 = [typeSign ty, oneSign b8 (Str.ofString "r"), oneSign b7 (Str.ofString "w"), endSign b6 b11 (Str.ofString "s") (Str.ofString "S"), oneSign b8 (Str.ofString "r"), oneSign b7 (Str.ofString "w"), lastF (runsF (endSign b6 b11 (Str.ofString "s") (Str.ofString "S"))) (aboveF (endSign b3 b10 (Str.ofString "s") (Str.ofString "S"))) 1, oneSign b2 (Str.ofString "r"), oneSign b1 (Str.ofString "w"), endSign b0 b9 (Str.ofString "t") (Str.ofString "T")] := rfl
  rw [e, giv_0_1a h1 h2 h3 h4]; rfl
theorem gstep_0_1 {M : Int} : givenF (fmSigns M) 0 1 = fmSigns (M + (M / 64 % 8 - M / 8 % 8) * 8) := by
  have e1 : M / 64 % 8 = M / 64 % 2 + 2 * (M / 128 % 2) + 4 * (M / 256 % 2) := by omega
  have e2 : M / 8 % 8 = M / 8 % 2 + 2 * (M / 16 % 2) + 4 * (M / 32 % 2) := by omega
  have hM := bits_dec M
  obtain ⟨e, e3, e4, e5, e6, e7, e8, e9, e10, e11, e12, e13, e14⟩ := bits_of (T := M / 4096) (c0 := (M / 1 % 2)) (c1 := (M / 2 % 2)) (c2 := (M / 4 % 2)) (c3 := (M / 64 % 2)) (c4 := (M / 128 % 2)) (c5 := (M / 256 % 2)) (c6 := (M / 64 % 2)) (c7 := (M / 128 % 2)) (c8 := (M / 256 % 2)) (c9 := (M / 512 % 2)) (c10 := (M / 1024 % 2)) (c11 := (M / 2048 % 2)) (bitR _ _) (bitR _ _) (bitR _ _) (bitR _ _) (bitR _ _) (bitR _ _) (bitR _ _) (bitR _ _) (bitR _ _) (bitR _ _) (bitR _ _) (bitR _ _) (M := M + (M / 64 % 8 - M / 8 % 8) * 8) (by
    rw [e1, e2]; clear e1 e2
    generalize M / 1 % 2 = b0 at *
    generalize M / 2 % 2 = b1 at *
    generalize M / 4 % 2 = b2 at *
    generalize M / 8 % 2 = b3 at *
    generalize M / 16 % 2 = b4 at *
    generalize M / 32 % 2 = b5 at *
    generalize M / 64 % 2 = b6 at *
    generalize M / 128 % 2 = b7 at *
    generalize M / 256 % 2 = b8 at *
    generalize M / 512 % 2 = b9 at *
    generalize M / 1024 % 2 = b10 at *
    generalize M / 2048 % 2 = b11 at *
    generalize M / 4096 = T at *
    omega)
  rw [fmSigns_eq (M + _), e, e3, e4, e5, e6, e7, e8, e9, e10, e11, e12, e13, e14, fmSigns_eq M, giv_0_1 (bit01 _ _) (bit01 _ _) (bit01 _ _) (bit01 _ _)]
theorem giv_0_2a {r a c d : Int} (hr : r = 0 ∨ r = 1) (ha : a = 0 ∨ a = 1) (hc : c = 0 ∨ c = 1) (hd : d = 0 ∨ d = 1) :
    lastF (runsF (endSign r a (Str.ofString "s") (Str.ofString "S"))) (aboveF (endSign c d (Str.ofString "t") (Str.ofString "T"))) 2 = endSign r d (Str.ofString "t") (Str.ofString "T") := by
  rcases hr with rfl | rfl <;> rcases ha with rfl | rfl <;> rcases hc with rfl | rfl <;> rcases hd with rfl | rfl <;> decide +kernel
theorem giv_0_2 {ty b0 b1 b2 b3 b4 b5 b6 b7 b8 b9 b10 b11 : Int} (h1 : b6 = 0 ∨ b6 = 1) (h2 : b11 = 0 ∨ b11 = 1) (h3 : b0 = 0 ∨ b0 = 1) (h4 : b9 = 0 ∨ b9 = 1) : givenF (sigOf ty b0 b1 b2 b3 b4 b5 b6 b7 b8 b9 b10 b11) 0 2 = sigOf ty b6 b7 b8 b3 b4 b5 b6 b7 b8 b9 b10 b11 := by
  have e : givenF (sigOf ty b0 b1 b2 b3 b4 b5 b6 b7 b8 b9 b10 b11) 0 2 = [typeSign ty, oneSign b8 (Str.ofString "r"), oneSign b7 (Str.ofString "w"), endSign b6 b11 (Str.ofString "s") (Str.ofString "S"), oneSign b5 (Str.ofString "r"), oneSign b4 (Str.ofString "w"), endSign b3 b10 (Str.ofString "s") (Str.ofString "S"), oneSign b8 (Str.ofString "r"), oneSign b7 (Str.ofString "w"), lastF (runsF (endSign b6 b11 (Str.ofString "s") (Str.ofString "S"))) (aboveF (endSign b0 b9 (Str.ofString "t") (Str.ofString "T"))) 2] := rfl
  rw [e, giv_0_2a h1 h2 h3 h4]; rfl
theorem gstep_0_2 {M : Int} : givenF (fmSigns M) 0 2 = fmSigns (M + (M / 64 % 8 - M / 1 % 8) * 1) := by
  have e1 : M / 64 % 8 = M / 64 % 2 + 2 * (M / 128 % 2) + 4 * (M / 256 % 2) := by omega
  have e2 : M / 1 % 8 = M / 1 % 2 + 2 * (M / 2 % 2) + 4 * (M / 4 % 2) := by omega
  have hM := bits_dec M
  obtain ⟨e, e3, e4, e5, e6, e7, e8, e9, e10, e11, e12, e13, e14⟩ := bits_of (T := M / 4096) (c0 := (M / 64 % 2)) (c1 := (M / 128 % 2)) (c2 := (M / 256 % 2)) (c3 := (M / 8 % 2)) (c4 := (M / 16 % 2)) (c5 := (M / 32 % 2)) (c6 := (M / 64 % 2)) (c7 := (M / 128 % 2)) (c8 := (M / 256 % 2)) (c9 := (M / 512 % 2)) (c10 := (M / 1024 % 2)) (c11 := (M / 2048 % 2)) (bitR _ _) (bitR _ _) (bitR _ _) (bitR _ _) (bitR _ _) (bitR _ _) (bitR _ _) (bitR _ _) (bitR _ _) (bitR _ _) (bitR _ _) (bitR _ _) (M := M + (M / 64 % 8 - M / 1 % 8) * 1) (by
    rw [e1, e2]; clear e1 e2
    generalize M / 1 % 2 = b0 at *
    generalize M / 2 % 2 = b1 at *
    generalize M / 4 % 2 = b2 at *
    generalize M / 8 % 2 = b3 at *
    generalize M / 16 % 2 = b4 at *
    generalize M / 32 % 2 = b5 at *
    generalize M / 64 % 2 = b6 at *
    generalize M / 128 % 2 = b7 at *
    generalize M / 256 % 2 = b8 at *
    generalize M / 512 % 2 = b9 at *
    generalize M / 1024 % 2 = b10 at *
    generalize M / 2048 % 2 = b11 at *
    generalize M / 4096 = T at *
    omega)
  rw [fmSigns_eq (M + _), e, e3, e4, e5, e6, e7, e8, e9, e10, e11, e12, e13, e14, fmSigns_eq M, giv_0_2 (bit01 _ _) (bit01 _ _) (bit01 _ _) (bit01 _ _)]
theorem giv_1_0a {r a c d : Int} (hr : r = 0 ∨ r = 1) (ha : a = 0 ∨ a = 1) (hc : c = 0 ∨ c = 1) (hd : d = 0 ∨ d = 1) :
    lastF (runsF (endSign r a (Str.ofString "s") (Str.ofString "S"))) (aboveF (endSign c d (Str.ofString "s") (Str.ofString "S"))) 0 = endSign r d (Str.ofString "s") (Str.ofString "S") := by
  rcases hr with rfl | rfl <;> rcases ha with rfl | rfl <;> rcases hc with rfl | rfl <;> rcases hd with rfl | rfl <;> decide +kernel
theorem giv_1_0 {ty b0 b1 b2 b3 b4 b5 b6 b7 b8 b9 b10 b11 : Int} (h1 : b3 = 0 ∨ b3 = 1) (h2 : b10 = 0 ∨ b10 = 1) (h3 : b6 = 0 ∨ b6 = 1) (h4 : b11 = 0 ∨ b11 = 1) : givenF (sigOf ty b0 b1 b2 b3 b4 b5 b6 b7 b8 b9 b10 b11) 1 0 = sigOf ty b0 b1 b2 b3 b4 b5 b3 b4 b5 b9 b10 b11 := by
  have e : givenF (sigOf ty b0 b1 b2 b3 b4 b5 b6 b7 b8 b9 b10 b11) 1 0 = [typeSign ty, oneSign b5 (Str.ofString "r"), oneSign b4 (Str.ofString "w"), lastF (runsF (endSign b3 b10 (Str.ofString "s") (Str.ofString "S"))) (aboveF (endSign b6 b11 (Str.ofString "s") (Str.ofString "S"))) 0, oneSign b5 (Str.ofString "r"), oneSign b4 (Str.ofString "w"), endSign b3 b10 (Str.ofString "s") (Str.ofString "S"), oneSign b2 (Str.ofString "r"), oneSign b1 (Str.ofString "w"), endSign b0 b9 (Str.ofString "t") (Str.ofString "T")] := rfl
  rw [e, giv_1_0a h1 h2 h3 h4]; rfl
theorem gstep_1_0 {M : Int} : givenF (fmSigns M) 1 0 = fmSigns (M + (M / 8 % 8 - M / 64 % 8) * 64) := by
  have e1 : M / 8 % 8 = M / 8 % 2 + 2 * (M / 16 % 2) + 4 * (M / 32 % 2) := by omega
  have e2 : M / 64 % 8 = M / 64 % 2 + 2 * (M / 128 % 2) + 4 * (M / 256 % 2) := by omega
  have hM := bits_dec M
  obtain ⟨e, e3, e4, e5, e6, e7, e8, e9, e10, e11, e12, e13, e14⟩ := bits_of (T := M / 4096) (c0 := (M / 1 % 2)) (c1 := (M / 2 % 2)) (c2 := (M / 4 % 2)) (c3 := (M / 8 % 2)) (c4 := (M / 16 % 2)) (c5 := (M / 32 % 2)) (c6 := (M / 8 % 2)) (c7 := (M / 16 % 2)) (c8 := (M / 32 % 2)) (c9 := (M / 512 % 2)) (c10 := (M / 1024 % 2)) (c11 := (M / 2048 % 2)) (bitR _ _) (bitR _ _) (bitR _ _) (bitR _ _) (bitR _ _) (bitR _ _) (bitR _ _) (bitR _ _) (bitR _ _) (bitR _ _) (bitR _ _) (bitR _ _) (M := M + (M / 8 % 8 - M / 64 % 8) * 64) (by
    rw [e1, e2]; clear e1 e2
    generalize M / 1 % 2 = b0 at *
    generalize M / 2 % 2 = b1 at *
    generalize M / 4 % 2 = b2 at *
    generalize M / 8 % 2 = b3 at *
    generalize M / 16 % 2 = b4 at *
    generalize M / 32 % 2 = b5 at *
    generalize M / 64 % 2 = b6 at *
    generalize M / 128 % 2 = b7 at *
    generalize M / 256 % 2 = b8 at *
    generalize M / 512 % 2 = b9 at *
    generalize M / 1024 % 2 = b10 at *
    generalize M / 2048 % 2 = b11 at *
    generalize M / 4096 = T at *
    omega)
  rw [fmSigns_eq (M + _), e, e3, e4, e5, e6, e7, e8, e9, e10, e11, e12, e13, e14, fmSigns_eq M, giv_1_0 (bit01 _ _) (bit01 _ _) (bit01 _ _) (bit01 _ _)]
theorem giv_1_2a {r a c d : Int} (hr : r = 0 ∨ r = 1) (ha : a = 0 ∨ a = 1) (hc : c = 0 ∨ c = 1) (hd : d = 0 ∨ d = 1) :
    lastF (runsF (endSign r a (Str.ofString "s") (Str.ofString "S"))) (aboveF (endSign c d (Str.ofString "t") (Str.ofString "T"))) 2 = endSign r d (Str.ofString "t") (Str.ofString "T") := by
  rcases hr with rfl | rfl <;> rcases ha with rfl | rfl <;> rcases hc with rfl | rfl <;> rcases hd with rfl | rfl <;> decide +kernel
theorem giv_1_2 {ty b0 b1 b2 b3 b4 b5 b6 b7 b8 b9 b10 b11 : Int} (h1 : b3 = 0 ∨ b3 = 1) (h2 : b10 = 0 ∨ b10 = 1) (h3 : b0 = 0 ∨ b0 = 1) (h4 : b9 = 0 ∨ b9 = 1) : givenF (sigOf ty b0 b1 b2 b3 b4 b5 b6 b7 b8 b9 b10 b11) 1 2 = sigOf ty b3 b4 b5 b3 b4 b5 b6 b7 b8 b9 b10 b11 := by
  have e : givenF (sigOf ty b0 b1 b2 b3 b4 b5 b6 b7 b8 b9 b10 b11) 1 2 = [typeSign ty, oneSign b8 (Str.ofString "r"), oneSign b7 (Str.ofString "w"), endSign b6 b11 (Str.ofString "s") (Str.ofString "S"), oneSign b5 (Str.ofString "r"), oneSign b4 (Str.ofString "w"), endSign b3 b10 (Str.ofString "s") (Str.ofString "S"), oneSign b5 (Str.ofString "r"), oneSign b4 (Str.ofString "w"), lastF (runsF (endSign b3 b10 (Str.ofString "s") (Str.ofString "S"))) (aboveF (endSign b0 b9 (Str.ofString "t") (Str.ofString "T"))) 2] := rfl
  rw [e, giv_1_2a h1 h2 h3 h4]; rfl
theorem gstep_1_2 {M : Int} : givenF (fmSigns M) 1 2 = fmSigns (M + (M / 8 % 8 - M / 1 % 8) * 1) := by
  have e1 : M / 8 % 8 = M / 8 % 2 + 2 * (M / 16 % 2) + 4 * (M / 32 % 2) := by omega
  have e2 : M / 1 % 8 = M / 1 % 2 + 2 * (M / 2 % 2) + 4 * (M / 4 % 2) := by omega
  have hM := bits_dec M
  obtain ⟨e, e3, e4, e5, e6, e7, e8, e9, e10, e11, e12, e13, e14⟩ := bits_of (T := M / 4096) (c0 := (M / 8 % 2)) (c1 := (M / 16 % 2)) (c2 := (M / 32 % 2)) (c3 := (M / 8 % 2)) (c4 := (M / 16 % 2)) (c5 := (M / 32 % 2)) (c6 := (M / 64 % 2)) (c7 := (M / 128 % 2)) (c8 := (M / 256 % 2)) (c9 := (M / 512 % 2)) (c10 := (M / 1024 % 2)) (c11 := (M / 2048 % 2)) (bitR _ _) (bitR _ _) (bitR _ _) (bitR _ _) (bitR _ _) (bitR _ _) (bitR _ _) (bitR _ _) (bitR _ _) (bitR _ _) (bitR _ _) (bitR _ _) (M := M + (M / 8 % 8 - M / 1 % 8) * 1) (by
    rw [e1, e2]; clear e1 e2
    generalize M / 1 % 2 = b0 at *
    generalize M / 2 % 2 = b1 at *
    generalize M / 4 % 2 = b2 at *
    generalize M / 8 % 2 = b3 at *
    generalize M / 16 % 2 = b4 at *
    generalize M / 32 % 2 = b5 at *
    generalize M / 64 % 2 = b6 at *
    generalize M / 128 % 2 = b7 at *
    generalize M / 256 % 2 = b8 at *
    generalize M / 512 % 2 = b9 at *
    generalize M / 1024 % 2 = b10 at *
    generalize M / 2048 % 2 = b11 at *
    generalize M / 4096 = T at *
    omega)
  rw [fmSigns_eq (M + _), e, e3, e4, e5, e6, e7, e8, e9, e10, e11, e12, e13, e14, fmSigns_eq M, giv_1_2 (bit01 _ _) (bit01 _ _) (bit01 _ _) (bit01 _ _)]
theorem giv_2_0a {r a c d : Int} (hr : r = 0 ∨ r = 1) (ha : a = 0 ∨ a = 1) (hc : c = 0 ∨ c = 1) (hd : d = 0 ∨ d = 1) :
    lastF (runsF (endSign r a (Str.ofString "t") (Str.ofString "T"))) (aboveF (endSign c d (Str.ofString "s") (Str.ofString "S"))) 0 = endSign r d (Str.ofString "s") (Str.ofString "S") := by
  rcases hr with rfl | rfl <;> rcases ha with rfl | rfl <;> rcases hc with rfl | rfl <;> rcases hd with rfl | rfl <;> decide +kernel
theorem giv_2_0 {ty b0 b1 b2 b3 b4 b5 b6 b7 b8 b9 b10 b11 : Int} (h1 : b0 = 0 ∨ b0 = 1) (h2 : b9 = 0 ∨ b9 = 1) (h3 : b6 = 0 ∨ b6 = 1) (h4 : b11 = 0 ∨ b11 = 1) : givenF (sigOf ty b0 b1 b2 b3 b4 b5 b6 b7 b8 b9 b10 b11) 2 0 = sigOf ty b0 b1 b2 b3 b4 b5 b0 b1 b2 b9 b10 b11 := by
  have e : givenF (sigOf ty b0 b1 b2 b3 b4 b5 b6 b7 b8 b9 b10 b11) 2 0 = [typeSign ty, oneSign b2 (Str.ofString "r"), oneSign b1 (Str.ofString "w"), lastF (runsF (endSign b0 b9 (Str.ofString "t") (Str.ofString "T"))) (aboveF (endSign b6 b11 (Str.ofString "s") (Str.ofString "S"))) 0, oneSign b5 (Str.ofString "r"), oneSign b4 (Str.ofString "w"), endSign b3 b10 (Str.ofString "s") (Str.ofString "S"), oneSign b2 (Str.ofString "r"), oneSign b1 (Str.ofString "w"), endSign b0 b9 (Str.ofString "t") (Str.ofString "T")] := rfl
  rw [e, giv_2_0a h1 h2 h3 h4]; rfl
theorem gstep_2_0 {M : Int} : givenF (fmSigns M) 2 0 = fmSigns (M + (M / 1 % 8 - M / 64 % 8) * 64) := by
  have e1 : M / 1 % 8 = M / 1 % 2 + 2 * (M / 2 % 2) + 4 * (M / 4 % 2) := by omega
  have e2 : M / 64 % 8 = M / 64 % 2 + 2 * (M / 128 % 2) + 4 * (M / 256 % 2) := by omega
  have hM := bits_dec M
  obtain ⟨e, e3, e4, e5, e6, e7, e8, e9, e10, e11, e12, e13, e14⟩ := bits_of (T := M / 4096) (c0 := (M / 1 % 2)) (c1 := (M / 2 % 2)) (c2 := (M / 4 % 2)) (c3 := (M / 8 % 2)) (c4 := (M / 16 % 2)) (c5 := (M / 32 % 2)) (c6 := (M / 1 % 2)) (c7 := (M / 2 % 2)) (c8 := (M / 4 % 2)) (c9 := (M / 512 % 2)) (c10 := (M / 1024 % 2)) (c11 := (M / 2048 % 2)) (bitR _ _) (bitR _ _) (bitR _ _) (bitR _ _) (bitR _ _) (bitR _ _) (bitR _ _) (bitR _ _) (bitR _ _) (bitR _ _) (bitR _ _) (bitR _ _) (M := M + (M / 1 % 8 - M / 64 % 8) * 64) (by
    rw [e1, e2]; clear e1 e2
    generalize M / 1 % 2 = b0 at *
    generalize M / 2 % 2 = b1 at *
    generalize M / 4 % 2 = b2 at *
    generalize M / 8 % 2 = b3 at *
    generalize M / 16 % 2 = b4 at *
    generalize M / 32 % 2 = b5 at *
    generalize M / 64 % 2 = b6 at *
    generalize M / 128 % 2 = b7 at *
    generalize M / 256 % 2 = b8 at *
    generalize M / 512 % 2 = b9 at *
    generalize M / 1024 % 2 = b10 at *
    generalize M / 2048 % 2 = b11 at *
    generalize M / 4096 = T at *
    omega)
  rw [fmSigns_eq (M + _), e, e3, e4, e5, e6, e7, e8, e9, e10, e11, e12, e13, e14, fmSigns_eq M, giv_2_0 (bit01 _ _) (bit01 _ _) (bit01 _ _) (bit01 _ _)]
theorem giv_2_1a {r a c d : Int} (hr : r = 0 ∨ r = 1) (ha : a = 0 ∨ a = 1) (hc : c = 0 ∨ c = 1) (hd : d = 0 ∨ d = 1) :
    lastF (runsF (endSign r a (Str.ofString "t") (Str.ofString "T"))) (aboveF (endSign c d (Str.ofString "s") (Str.ofString "S"))) 1 = endSign r d (Str.ofString "s") (Str.ofString "S") := by
  rcases hr with rfl | rfl <;> rcases ha with rfl | rfl <;> rcases hc with rfl | rfl <;> rcases hd with rfl | rfl <;> decide +kernel
theorem giv_2_1 {ty b0 b1 b2 b3 b4 b5 b6 b7 b8 b9 b10 b11 : Int} (h1 : b0 = 0 ∨ b0 = 1) (h2 : b9 = 0 ∨ b9 = 1) (h3 : b3 = 0 ∨ b3 = 1) (h4 : b10 = 0 ∨ b10 = 1) : givenF (sigOf ty b0 b1 b2 b3 b4 b5 b6 b7 b8 b9 b10 b11) 2 1 = sigOf ty b0 b1 b2 b0 b1 b2 b6 b7 b8 b9 b10 b11 := by
  have e : givenF (sigOf ty b0 b1 b2 b3 b4 b5 b6 b7 b8 b9 b10 b11) 2 1 = [typeSign ty, oneSign b8 (Str.ofString "r"), oneSign b7 (Str.ofString "w"), endSign b6 b11 (Str.ofString "s") (Str.ofString "S"), oneSign b2 (Str.ofString "r"), oneSign b1 (Str.ofString "w"), lastF (runsF (endSign b0 b9 (Str.ofString "t") (Str.ofString "T"))) (aboveF (endSign b3 b10 (Str.ofString "s") (Str.ofString "S"))) 1, oneSign b2 (Str.ofString "r"), oneSign b1 (Str.ofString "w"), endSign b0 b9 (Str.ofString "t") (Str.ofString "T")] := rfl
  rw [e, giv_2_1a h1 h2 h3 h4]; rfl
theorem gstep_2_1 {M : Int} : givenF (fmSigns M) 2 1 = fmSigns (M + (M / 1 % 8 - M / 8 % 8) * 8) := by
  have e1 : M / 1 % 8 = M / 1 % 2 + 2 * (M / 2 % 2) + 4 * (M / 4 % 2) := by omega
  have e2 : M / 8 % 8 = M / 8 % 2 + 2 * (M / 16 % 2) + 4 * (M / 32 % 2) := by omega
  have hM := bits_dec M
  obtain ⟨e, e3, e4, e5, e6, e7, e8, e9, e10, e11, e12, e13, e14⟩ := bits_of (T := M / 4096) (c0 := (M / 1 % 2)) (c1 := (M / 2 % 2)) (c2 := (M / 4 % 2)) (c3 := (M / 1 % 2)) (c4 := (M / 2 % 2)) (c5 := (M / 4 % 2)) (c6 := (M / 64 % 2)) (c7 := (M / 128 % 2)) (c8 := (M / 256 % 2)) (c9 := (M / 512 % 2)) (c10 := (M / 1024 % 2)) (c11 := (M / 2048 % 2)) (bitR _ _) (bitR _ _) (bitR _ _) (bitR _ _) (bitR _ _) (bitR _ _) (bitR _ _) (bitR _ _) (bitR _ _) (bitR _ _) (bitR _ _) (bitR _ _) (M := M + (M / 1 % 8 - M / 8 % 8) * 8) (by
    rw [e1, e2]; clear e1 e2
    generalize M / 1 % 2 = b0 at *
    generalize M / 2 % 2 = b1 at *
    generalize M / 4 % 2 = b2 at *
    generalize M / 8 % 2 = b3 at *
    generalize M / 16 % 2 = b4 at *
    generalize M / 32 % 2 = b5 at *
    generalize M / 64 % 2 = b6 at *
    generalize M / 128 % 2 = b7 at *
    generalize M / 256 % 2 = b8 at *
    generalize M / 512 % 2 = b9 at *
    generalize M / 1024 % 2 = b10 at *
    generalize M / 2048 % 2 = b11 at *
    generalize M / 4096 = T at *
    omega)
  rw [fmSigns_eq (M + _), e, e3, e4, e5, e6, e7, e8, e9, e10, e11, e12, e13, e14, fmSigns_eq M, giv_2_1 (bit01 _ _) (bit01 _ _) (bit01 _ _) (bit01 _ _)]
theorem type_sign {k : Int} (hk : 0 ≤ k ∧ k < 16) : Txt.item (Str.ofString "?pc?d?b?-?l?s???") k = typeSign k := by
  have : ∀ n : Fin 16, Txt.item (Str.ofString "?pc?d?b?-?l?s???") (n.val : Int) = typeSign (n.val : Int) := by decide +kernel
  have h := this ⟨k.toNat, by omega⟩
  have e : ((k.toNat : Nat) : Int) = k := by omega
  simpa [e] using h
theorem type_step {M k : Int} (hk : 0 ≤ k ∧ k < 16) : Txt.item (Str.ofString "?pc?d?b?-?l?s???") k :: (fmSigns M).drop 1 = fmSigns (M + (k - M / 4096 % 16) * 4096) := by
  have e' : (M / 4096 + (k - M / 4096 % 16)) % 16 = k := by omega
  have hM := bits_dec M
  obtain ⟨e, e0, e1, e2, e3, e4, e5, e6, e7, e8, e9, e10, e11⟩ := bits_of (T := M / 4096 + (k - M / 4096 % 16)) (c0 := (M / 1 % 2)) (c1 := (M / 2 % 2)) (c2 := (M / 4 % 2)) (c3 := (M / 8 % 2)) (c4 := (M / 16 % 2)) (c5 := (M / 32 % 2)) (c6 := (M / 64 % 2)) (c7 := (M / 128 % 2)) (c8 := (M / 256 % 2)) (c9 := (M / 512 % 2)) (c10 := (M / 1024 % 2)) (c11 := (M / 2048 % 2)) (bitR _ _) (bitR _ _) (bitR _ _) (bitR _ _) (bitR _ _) (bitR _ _) (bitR _ _) (bitR _ _) (bitR _ _) (bitR _ _) (bitR _ _) (bitR _ _) (M := M + (k - M / 4096 % 16) * 4096) (by
    generalize M / 1 % 2 = b0 at *
    generalize M / 2 % 2 = b1 at *
    generalize M / 4 % 2 = b2 at *
    generalize M / 8 % 2 = b3 at *
    generalize M / 16 % 2 = b4 at *
    generalize M / 32 % 2 = b5 at *
    generalize M / 64 % 2 = b6 at *
    generalize M / 128 % 2 = b7 at *
    generalize M / 256 % 2 = b8 at *
    generalize M / 512 % 2 = b9 at *
    generalize M / 1024 % 2 = b10 at *
    generalize M / 2048 % 2 = b11 at *
    omega)
  rw [fmSigns_eq (M + _), e, e', e0, e1, e2, e3, e4, e5, e6, e7, e8, e9, e10, e11, fmSigns_eq M, type_sign hk]; rfl
theorem high_step {M z : Int} : fmSigns (M + 65536 * z) = fmSigns M := by
  have e' : (M / 4096 + 16 * z) % 16 = M / 4096 % 16 := by omega
  have hM := bits_dec M
  obtain ⟨e, e0, e1, e2, e3, e4, e5, e6, e7, e8, e9, e10, e11⟩ := bits_of (T := M / 4096 + 16 * z) (c0 := (M / 1 % 2)) (c1 := (M / 2 % 2)) (c2 := (M / 4 % 2)) (c3 := (M / 8 % 2)) (c4 := (M / 16 % 2)) (c5 := (M / 32 % 2)) (c6 := (M / 64 % 2)) (c7 := (M / 128 % 2)) (c8 := (M / 256 % 2)) (c9 := (M / 512 % 2)) (c10 := (M / 1024 % 2)) (c11 := (M / 2048 % 2)) (bitR _ _) (bitR _ _) (bitR _ _) (bitR _ _) (bitR _ _) (bitR _ _) (bitR _ _) (bitR _ _) (bitR _ _) (bitR _ _) (bitR _ _) (bitR _ _) (M := M + 65536 * z) (by
    generalize M / 1 % 2 = b0 at *
    generalize M / 2 % 2 = b1 at *
    generalize M / 4 % 2 = b2 at *
    generalize M / 8 % 2 = b3 at *
    generalize M / 16 % 2 = b4 at *
    generalize M / 32 % 2 = b5 at *
    generalize M / 64 % 2 = b6 at *
    generalize M / 128 % 2 = b7 at *
    generalize M / 256 % 2 = b8 at *
    generalize M / 512 % 2 = b9 at *
    generalize M / 1024 % 2 = b10 at *
    generalize M / 2048 % 2 = b11 at *
    omega)
  rw [fmSigns_eq (M + _), e, e', e0, e1, e2, e3, e4, e5, e6, e7, e8, e9, e10, e11, fmSigns_eq M]
open_top hd for PySem.Challenge.rw_dn0160_02
def tabRows : List (Addr × List (Addr × Int × Str)) :=
  [(29, [(22, 40960, Str.ofString "l"), (23, 49152, Str.ofString "s"), (24, 32768, Str.ofString "-"), (25, 24576, Str.ofString "b"), (26, 16384, Str.ofString "d"), (27, 8192, Str.ofString "c"), (28, 4096, Str.ofString "p")]),
   (31, [(30, 256, Str.ofString "r")]), (33, [(32, 128, Str.ofString "w")]), (37, [(34, 2112, Str.ofString "s"), (35, 2048, Str.ofString "S"), (36, 64, Str.ofString "x")]),
   (39, [(38, 32, Str.ofString "r")]), (41, [(40, 16, Str.ofString "w")]), (45, [(42, 1032, Str.ofString "s"), (43, 1024, Str.ofString "S"), (44, 8, Str.ofString "x")]),
   (47, [(46, 4, Str.ofString "r")]), (49, [(48, 2, Str.ofString "w")]), (53, [(50, 513, Str.ofString "t"), (51, 512, Str.ofString "T"), (52, 1, Str.ofString "x")])]
theorem tab_is (w : World) {h : Heap} (X : (hd.heap_39 w.params).In h) : TabIs h 54 tabRows := by
  refine TabIs.of X rfl ?_ rfl
  intro r hr
  simp only [tabRows, List.mem_cons, List.not_mem_nil, or_false] at hr
  rcases hr with rfl | rfl | rfl | rfl | rfl | rfl | rfl | rfl | rfl | rfl
  all_goals
    refine ⟨rfl, ?_⟩
    intro q hq
    simp only [List.mem_cons, List.not_mem_nil, or_false] at hq
    repeat' (first | (rcases hq with rfl | hq) | (subst hq))
    all_goals exact ⟨_, _, rfl⟩
local macro_rules | `(tactic| walk_at "MyEnter") => `(tactic| (k_dflt ((case kA => exact rfl); (case kF => exact rfl); (case kK => assumption); (case ho => k_is); (case hcd => k_is); (case hroom => ktr_room); (case hb => exact BindsTo.of_eq rfl); (case hl => exact locs rfl); (case c1 => exact rfl); (case c2 => exact rfl); (case c3 => exact rfl); (case c4 => decide); k_whole)))
local macro_rules | `(tactic| walk_at "MyOff") => `(tactic| repeat' (first | exact off0 | exact nmem0 | (refine off1 ?_ ?_) | (refine nmem1 (by k_ne) ?_)))
local macro_rules | `(tactic| walk_at "exec For Tuple Call cons nil") => `(tactic| (k_here; (with_reducible refine wpAny_For ?_ ?hs); (case hs => (intro _; rfl))))
local macro_rules | `(tactic| walk_at "exec For Tuple Name cons cons") => `(tactic| (k_here; (with_reducible refine wpAny_For ?_ ?hs); (case hs => (intro _; rfl))))
theorem ifmt_contract {w : World} {p : Program} {loose : List Str} {mean : ExcName → Option Value} {mg mb : Str → Option Value} {x : Int} {tx : Tok}
   {dp un : Nat} {gd : Option (List Code)} {cn : Str} {cs : Scope} {a : Addr} {ccd : Value} {cl : List (Str × Addr)} {outer : List Env} {A₀ : Around} {base h₀ : Heap} {L : Addr} {m : Str → Option Value} {s : Shared} {Q E : Value → Shared → Prop}
    (B : Below A₀ base outer h₀) (F : Fr h₀ L s.heap m) (X : (hd.heap_39 w.params).In h₀) (T : Top p loose mean mg mb h₀) (hcs : cs.kind = .function)
    (hdp : dp + 1 < recursionLimit) (hun : un + 10 < cLine)
    (hret : ∀ (t : Tok) (h' : Heap) (tk' : Nat), (∀ b o, s.heap.get? b = some o → h'.get? b = some o) → Q (.int (Builtin.bitAnd x 61440) t) { s with heap := h', toks := tk' }) :
    wpAny (model PySem.Challenge.rw_dn0160_02.row.prog w) (ktrTop dp un gd cn cs L a ccd cl outer) (call (.ref 21) [.int x tx]) Q E s := by
  w_top off
  revert X; k_fill; intro X
  refine' call_pure B F X T ?kA ?kF ?kK ?ho ?hcd ?hroom ?hb ?hl ?_ ?c1 ?c2 ?c3 ?c4
  walk_at "MyEnter"
  intro L' h₁ F' N' B' X' T'
  clear B F X T
  replace F' : Fr s.heap L' h₁ (fun y => List.lookup y [(Str.ofString "mode", Value.int x tx)]) := F'
  k_steps
  rename Fr _ _ _ _ => F1
  exact hret _ _ _ F1.keep
local macro_rules | `(tactic| walk_at "call ref") => `(tactic| (k_here; (with_reducible show wpAny _ _ (call (Value.ref 21) [Value.int _ _]) _ _ _); k_dflt (refine' ifmt_contract ?k1 ?k2 ?k3 ?k5 ?kK ?kd ?ku ?_; (case k1 => k_asm); (case k2 => k_asm); (case k3 => k_asm); (case k5 => k_asm); (case kK => first | exact rfl | assumption); (case kd => ktr_room); (case ku => ktr_units)); (rename Fr _ _ _ _ => kF9); (rename News _ _ _ _ => kN9); intro t9 h9 tk9 hk9; (have F9 := Fr.keeps kF9 hk9); (have N9 := News.grown kN9 hk9); clear kF9 kN9 hk9; (try dsimp only)))
theorem fm_contract {w : World} {p : Program} {loose : List Str} {mean : ExcName → Option Value} {mg mb : Str → Option Value} {x : Int} {tx : Tok} 
   {dp un : Nat} {gd : Option (List Code)} {cn : Str} {cs : Scope} {a : Addr} {ccd : Value} {cl : List (Str × Addr)} {outer : List Env} {A₀ : Around} {base h₀ : Heap} {L : Addr} {m : Str → Option Value} {s : Shared} {Q E : Value → Shared → Prop}
    (B : Below A₀ base outer h₀) (F : Fr h₀ L s.heap m) (X : (hd.heap_39 w.params).In h₀) (T : Top p loose mean mg mb h₀) (hcs : cs.kind = .function)
    (hdp : dp + 3 < recursionLimit) (hun : un + 40 < cLine)
    (hret : ∀ (h' : Heap) (tk' : Nat), (∀ b o, s.heap.get? b = some o → h'.get? b = some o) → ∀ (t : Tok), Q (.str (fmText x) t) { s with heap := h', toks := tk' }) :
    wpAny (model PySem.Challenge.rw_dn0160_02.row.prog w) (ktrTop dp un gd cn cs L a ccd cl outer) (call (.ref 61) [.int x tx]) Q E s := by
  w_top off
  revert X; k_fill; intro X
  refine' call_pure B F X T ?kA ?kF ?kK ?ho ?hcd ?hroom ?hb ?hl ?_ ?c1 ?c2 ?c3 ?c4
  walk_at "MyEnter"
  intro L' h₁ F' N' B' X' T'
  have TB := tab_is w X'
  clear B F X T
  replace F' : Fr s.heap L' h₁ (fun y => List.lookup y [(Str.ofString "mode", Value.int x tx)]) := F'
  k_steps
  rename Fr _ _ _ _ => F1
  rename News _ _ _ _ => N1
  rename_i pa _ _ _
  refine iter_enumTuple (items := (tabRows.map fun r => Value.ref r.1).toArray) rfl TB.1 F1 N1
    (fun i m₁ news₁ => m₁ (Str.ofString "mode") = some (.int x tx) ∧ m₁ (Str.ofString "perm") = some (.ref pa) ∧ ∃ vs n, news₁ = [(pa, listOf vs.toArray n)] ∧ StrsAre vs ((fmSigns x).take i)) ?_ ?_ ?_ PassesOwn.never
  · exact ⟨rfl, rfl, [], 0, rfl, by simpa using StrsAre.nil⟩
  · clear F1 N1
    intro i v t U m₁ news₁ h₂ tk₁ e oe I o hv hJ hoff hU F2 N2 hlt hIe
    obtain ⟨hm1, hm2, vs, n, rfl, hvs⟩ := hJ
    obtain ⟨S, ps, rfl, hR, htab, hi⟩ := TB.item hv
    rw [chain2 hm1 hm2] at F2
    have hp1 := hlt (pa, _) (.head _)
    have hp2 := ltN hp1
    have hp3 := ltN hIe
    clear hp1 hlt hoff hm1 hm2
    dsimp only at hp2
    k_steps
    clear hU
    rename Fr _ _ _ _ => F3
    rename News _ _ _ _ => N3
    refine iter_tuple (items := (ps.map fun q => Value.ref q.1).toArray) rfl hR.1 F3 N3
      (fun j m₂ news₂ => m₂ (Str.ofString "mode") = some (.int x tx) ∧ m₂ (Str.ofString "perm") = some (.ref pa) ∧ m₂ (Str.ofString "index") = some (.int (i : Int) t) ∧ news₂ = [(e, oe), (I, o), (pa, listOf vs.toArray n)] ∧ ∀ k q, k < j → ps[k]? = some q → pickTest x i q.2.1 = false) ?_ ?_ ?_ PassesOwn.never
    · exact ⟨rfl, rfl, rfl, rfl, fun k q hk => absurd hk (Nat.not_lt_zero _)⟩
    · clear F3 N3
      intro j v m₂ news₂ h₃ tk₃ I₂ o₂ hv₂ hJ hoff F3 N3 hlt₂
      obtain ⟨hm1, hm2, hm3, rfl, hno⟩ := hJ
      obtain ⟨q, hq, rfl⟩ : ∃ q, ps[j]? = some q ∧ Value.ref q.1 = v := by
        have h' : ps[j]?.map (fun q => Value.ref q.1) = some v := by simpa using hv₂
        exact Option.map_eq_some_iff.mp h'
      obtain ⟨tb, tc, hpair⟩ := hR.2 q (List.mem_of_getElem? hq)
      obtain ⟨pr, b, c⟩ := q
      have hpr : IsTup h₃ pr #[.int b tb, .str c tc] := by
        obtain ⟨o', ho', r⟩ := hpair
        exact ⟨o', F3.keep _ _ ho', r⟩
      rw [chain3 hm1 hm2 hm3] at F3
      have l1 := ltN (hlt₂ (e, oe) (.head _))
      have l2 := ltN (hlt₂ (I, o) (.tail _ (.head _)))
      have l3 := ltN (hlt₂ (pa, _) (.tail _ (.tail _ (.head _))))
      dsimp only at l1 l2 l3
      have hfit := signs_fit hvs
      replace F3 : Fr s.heap L' h₃ _ := F3
      replace N3 : News s.heap L' h₃ _ := N3
      clear hlt₂ hoff hm1 hm2 hm3 hv₂
      rcases Nat.eq_zero_or_pos i with hi0 | hi0
      · subst hi0
        k_steps
        · (change wpAny _ _ (execs [] _) _ _ _); k_steps
          rename News _ _ _ _ => N4
          refine step_next (its := [(e, oe), (I, o)]) (news₂ := [(pa, listOf (vs ++ [Value.str c tc]).toArray (n + 1))]) (by k_asm) (by rw [← List.push_toArray]; exact news_tail N4) ?_ ?_
          · walk_at "MyOff"
          · refine ⟨rfl, rfl, _, _, rfl, sign_more hvs hi htab (sign_hit hno hq ?_)⟩
            simp [pickTest]; assumption
        · refine step_next (its := [(I₂, o₂)]) (news₂ := [(e, oe), (I, o), (pa, listOf vs.toArray n)]) (by k_asm) (by k_asm) ?_ ?_
          · walk_at "MyOff"
          · refine ⟨rfl, rfl, rfl, rfl, no_more hno hq ?_⟩
            simp [pickTest]; assumption
      · k_steps
        · exfalso; omega
        · (change wpAny _ _ (execs [] _) _ _ _); k_steps
          rename News _ _ _ _ => N4
          refine step_next (its := [(e, oe), (I, o)]) (news₂ := [(pa, listOf (vs ++ [Value.str c tc]).toArray (n + 1))]) (by k_asm) (by rw [← List.push_toArray]; exact news_tail N4) ?_ ?_
          · walk_at "MyOff"
          · refine ⟨rfl, rfl, _, _, rfl, sign_more hvs hi htab (sign_hit hno hq ?_)⟩
            simp [pickTest, Nat.ne_of_gt hi0]; assumption
        · refine step_next (its := [(I₂, o₂)]) (news₂ := [(e, oe), (I, o), (pa, listOf vs.toArray n)]) (by k_asm) (by k_asm) ?_ ?_
          · walk_at "MyOff"
          · refine ⟨rfl, rfl, rfl, rfl, no_more hno hq ?_⟩
            simp [pickTest, Nat.ne_of_gt hi0]; assumption
    · clear F3 N3
      intro h₃ tk₃ m₂ news₂ F3 N3 hJ
      obtain ⟨hm1, hm2, hm3, rfl, hno⟩ := hJ
      rw [chain3 hm1 hm2 hm3] at F3
      replace F3 : Fr s.heap L' h₃ _ := F3
      replace N3 : News s.heap L' h₃ _ := N3
      have hfit := signs_fit hvs
      have hmiss := sign_miss (by simp) hno
      rcases Nat.eq_zero_or_pos i with hi0 | hi0
      · subst hi0
        k_steps
        rename News _ _ _ _ => N4
        refine step_next (its := [(e, oe), (I, o)]) (news₂ := [(pa, listOf (vs ++ [Value.str (Str.ofString "?") _]).toArray (n + 1))]) (by k_asm) (by rw [← List.push_toArray]; exact N4) ?_ ?_
        · walk_at "MyOff"
        · exact ⟨rfl, rfl, _, _, rfl, sign_more hvs hi htab hmiss⟩
      · k_steps
        · exfalso; omega
        · rename News _ _ _ _ => N4
          refine step_next (its := [(e, oe), (I, o)]) (news₂ := [(pa, listOf (vs ++ [Value.str (Str.ofString "-") _]).toArray (n + 1))]) (by k_asm) (by rw [← List.push_toArray]; exact N4) ?_ ?_
          · walk_at "MyOff"
          · exact ⟨rfl, rfl, _, _, rfl, sign_more hvs hi htab (hmiss.trans (by simp [pickDflt, Nat.ne_of_gt hi0]))⟩
  · clear F1 N1
    intro h₃ tk₃ m₂ news₂ F3 N3 hJ
    obtain ⟨hm1, hm2, vs, n, rfl, hvs⟩ := hJ
    rw [chain2 hm1 hm2] at F3
    replace F3 : Fr s.heap L' h₃ _ := F3
    replace N3 : News s.heap L' h₃ _ := N3
    k_steps
    have hvs' : StrsAre vs.toArray.toList (fmSigns x) := by
      have e : (tabRows.map fun r => Value.ref r.1).toArray.size = 10 := rfl
      rw [e, List.take_of_length_le (by rw [fmSigns_length]; exact Nat.le_refl _)] at hvs
      simpa using hvs
    refine join_listW (News.isList N3 (.head _)) hvs' (by decide) (fmSigns_weight x) ?_
    intro t' k'
    exact hret _ _ F3.keep _
local macro_rules | `(tactic| walk_at "MyEnter") => `(tactic| (k_dflt ((case kA => exact rfl); (case kF => exact rfl); (case kK => assumption); (case ho => k_is); (case hcd => k_is); (case hroom => ktr_room); (case hb => exact BindsTo.of_eq rfl); (case hl => exact locs rfl); (case c1 => exact rfl); (case c2 => exact rfl); (case c3 => exact rfl); (case c4 => decide); k_whole)))
local macro_rules | `(tactic| walk_at "MyOff") => `(tactic| repeat' (first | exact off0 | exact nmem0 | (refine off1 ?_ ?_) | (refine nmem1 (by k_ne) ?_)))
local macro_rules | `(tactic| walk_at "MyIdx") => `(tactic| first | omega | l_idx | (split <;> omega))
local macro_rules | `(tactic| walk_at "MyStrs") => `(tactic| first | assumption | exact StrsAre.cons _ _ StrsAre.nil | (repeat' (first | exact StrsAre.nil | refine StrsAre.cons _ _ ?_)))
local macro_rules | `(tactic| walk_at "call builtin:str.join") => `(tactic| (k_here; (with_reducible show wpAny _ _ (call (Value.builtin "str.join") [Value.str _ _, Value.ref _]) _ _ _); k_dflt (refine' join_listW ?l ?i ?s ?w ?_; (case l => kmk_list); (case i => walk_at "MyStrs"); (case s => decide); (case w => first | decide | exact fmSigns_weight _); k_whole); intro t9 k9))
local macro_rules | `(tactic| walk_at "call type:list") => `(tactic| (k_here; (with_reducible show wpAny _ _ (call (Value.type _) [Value.str _ _]) _ _ _); k_dflt (refine' list_strN ?hh ?F ?N ?_ ?z; (case hh => exact rfl); (case F => k_asm); (case N => k_asm); (case z => decide)); intro D' ys' n' h' tk' F' N' l1 hI'; (try k_lt l1); (try k_sweep)))
local macro_rules | `(tactic| walk_at "MySize") => `(tactic| ((simp only [sizeLine_eq, List.length_append, List.length_cons, List.length_nil, List.length_take, List.length_drop, List.length_set]); omega))
local macro_rules | `(tactic| walk_at "eval IfExp") => `(tactic| (k_here; (with_reducible show wpAny _ _ (eval (PySem.Expr.IfExp _ (PySem.Expr.Constant (PySem.Const.int _) _ _) (PySem.Expr.Constant (PySem.Const.int _) _ _) _) _) _ _ _); refine ifexp_ints ?_))
local macro_rules | `(tactic| walk_at "subscriptTail") => `(tactic| (k_here; (with_reducible show wpAny _ _ (subscriptTail _ _ (Value.ref _) (Value.int _ _)) _ _ _); k_dflt (refine' strs_item ?l ?ss ?a ?b ?c ?_ ?s; (case l => kmk_list); (case ss => assumption); (case a => walk_at "MyIdx"); (case b => walk_at "MyIdx"); (case c => walk_at "MyIdx"); (case s => with_unfolding_all rfl); k_whole); intro t9))
local macro_rules | `(tactic| walk_at "subscriptTail Name Slice ref ref") => `(tactic| (k_here; (with_reducible show wpAny _ _ (subscriptTail _ (PySem.Expr.Slice _ _ none _) (Value.ref _) (Value.ref _)) _ _ _); k_dflt (refine' slice_strs ?F ?N ?l ?p ?q ?m ?_ ?s ?t ?z; (case F => k_asm); (case N => k_asm); (case l => kmk_list); (case p => kmk_part); (case q => kmk_part); (case m => first | exact strs_upto (by assumption) (by walk_at "MyIdx") | exact strs_from (by assumption) (by walk_at "MyIdx") | exact strs_run (by assumption) (by walk_at "MyIdx") (by walk_at "MyIdx") (by walk_at "MyIdx")); (case s => with_unfolding_all rfl); (case t => kmk_pure); (case z => exact strs_fit (by assumption) (by assumption) (by decide))); intro D' ws' h' F' N' l1 hI'; (try k_lt l1); (try k_sweep)))
local macro_rules | `(tactic| walk_at "binaryOp Add ref ref") => `(tactic| (k_here; (with_reducible show wpAny _ _ (binaryOp _ (Value.ref _) (Value.ref _)) _ _ _); k_dflt (refine' cat_strs ?F ?N ?a ?b ?i ?j ?_ ?z; (case F => k_asm); (case N => k_asm); (case a => kmk_list); (case b => kmk_list); (case i => walk_at "MyStrs"); (case j => walk_at "MyStrs"); (case z => walk_at "MySize")); intro D' ws' h' F' N' l1 hI'; (try k_lt l1); (try k_sweep)))
theorem turned_contract {w : World} {p : Program} {loose : List Str} {mean : ExcName → Option Value} {mg mb : Str → Option Value} {th de : Int} {t1 t2 : Tok}
    {dp un : Nat} {gd : Option (List Code)} {cn : Str} {cs : Scope} {a : Addr} {ccd : Value} {cl : List (Str × Addr)} {outer : List Env} {A₀ : Around} {base h₀ : Heap} {L : Addr} {m : Str → Option Value} {s : Shared} {Q E : Value → Shared → Prop}
    (B : Below A₀ base outer h₀) (F : Fr h₀ L s.heap m) (X : (hd.heap_39 w.params).In h₀) (T : Top p loose mean mg mb h₀) (hcs : cs.kind = .function)
    (hdp : dp + 1 < recursionLimit) (hun : un + 10 < cLine) (h0 : 0 ≤ de) (h3 : de < 3) (hth0 : 0 ≤ th) (hth1 : th < 2)
    (hret : ∀ (h' : Heap) (tk' : Nat), (∀ b o, s.heap.get? b = some o → h'.get? b = some o) → ∀ t, 0 ≤ turnedF th de → turnedF th de < 2 → Q (.int (turnedF th de) t) { s with heap := h', toks := tk' }) :
    wpAny (model PySem.Challenge.rw_dn0160_02.row.prog w) (ktrTop dp un gd cn cs L a ccd cl outer) (call (.ref 68) [.int th t1, .int de t2]) Q E s := by
  w_top off
  revert X; k_fill; intro X
  refine' call_pure B F X T ?kA ?kF ?kK ?ho ?hcd ?hroom ?hb ?hl ?_ ?c1 ?c2 ?c3 ?c4
  walk_at "MyEnter"
  intro L' h₁ F' N' B' X' T'
  clear B F X T
  replace F' : Fr s.heap L' h₁ (fun y => List.lookup y [(Str.ofString "deed", Value.int de t2), (Str.ofString "there", Value.int th t1)]) := F'
  k_steps
  rename Fr _ _ _ _ => F1
  rw [turned_eq h0 h3]
  exact hret _ _ F1.keep _ (turned_range hth0 hth1).1 (turned_range hth0 hth1).2
theorem last_contract {w : World} {p : Program} {loose : List Str} {mean : ExcName → Option Value} {mg mb : Str → Option Value} {ru ab wh : Int} {t1 t2 t3 : Tok}
    {dp un : Nat} {gd : Option (List Code)} {cn : Str} {cs : Scope} {a : Addr} {ccd : Value} {cl : List (Str × Addr)} {outer : List Env} {A₀ : Around} {base h₀ : Heap} {L : Addr} {m : Str → Option Value} {s : Shared} {Q E : Value → Shared → Prop}
    (B : Below A₀ base outer h₀) (F : Fr h₀ L s.heap m) (X : (hd.heap_39 w.params).In h₀) (T : Top p loose mean mg mb h₀) (hcs : cs.kind = .function)
    (hdp : dp + 1 < recursionLimit) (hun : un + 10 < cLine) (h0 : 0 ≤ wh) (h3 : wh < 3) (hr0 : 0 ≤ ru) (hr1 : ru < 2)
    (hret : ∀ (h' : Heap) (tk' : Nat), (∀ b o, s.heap.get? b = some o → h'.get? b = some o) → ∀ t, Q (.str (lastF ru ab wh) t) { s with heap := h', toks := tk' }) :
    wpAny (model PySem.Challenge.rw_dn0160_02.row.prog w) (ktrTop dp un gd cn cs L a ccd cl outer) (call (.ref 75) [.int ru t1, .int ab t2, .int wh t3]) Q E s := by
  w_top off
  revert X; k_fill; intro X
  refine' call_pure B F X T ?kA ?kF ?kK ?ho ?hcd ?hroom ?hb ?hl ?_ ?c1 ?c2 ?c3 ?c4
  walk_at "MyEnter"
  intro L' h₁ F' N' B' X' T'
  clear B F X T
  replace F' : Fr s.heap L' h₁ (fun y => List.lookup y [(Str.ofString "who", Value.int wh t3), (Str.ofString "above", Value.int ab t2), (Str.ofString "runs", Value.int ru t1)]) := F'
  k_steps
  · rename Fr _ _ _ _ => F1
    have e : Txt.item (Str.ofString "SST") wh = lastF ru ab wh := by
      have h' : ru = 0 := by omega
      rcases (by omega : wh = 0 ∨ wh = 1 ∨ wh = 2) with rfl | rfl | rfl <;> (subst_vars; decide)
    rw [e]
    exact hret _ _ F1.keep _
  · rename Fr _ _ _ _ => F1
    have e : Txt.item (Str.ofString "sst") wh = lastF ru ab wh := by
      have h' : ru = 1 := by omega
      rcases (by omega : wh = 0 ∨ wh = 1 ∨ wh = 2) with rfl | rfl | rfl <;> (subst_vars; decide)
    rw [e]
    exact hret _ _ F1.keep _
  · rename Fr _ _ _ _ => F1
    have hab : ab ≠ 1 := by assumption
    have e : Txt.item (Str.ofString "-x") ru = lastF ru ab wh := by
      rcases (by omega : ru = 0 ∨ ru = 1) with rfl | rfl
      · rw [lastF, if_neg hab]; decide
      · rw [lastF, if_neg hab]; decide
    rw [e]
    exact hret _ _ F1.keep _
local macro_rules | `(tactic| walk_at "call ref cons nil") => `(tactic| (k_here; (with_reducible show wpAny _ _ (call (Value.ref 68) [Value.int _ _, Value.int _ _]) _ _ _); k_dflt (refine' turned_contract ?k1 ?k2 ?k3 ?k5 ?kK ?kd ?ku ?p1 ?p2 ?p3 ?p4 ?_; (case k1 => k_asm); (case k2 => k_asm); (case k3 => k_asm); (case k5 => k_asm); (case kK => first | exact rfl | assumption); (case kd => ktr_room); (case ku => ktr_units); (case p1 => omega); (case p2 => omega); (case p3 => omega); (case p4 => omega); skip); (rename Fr _ _ _ _ => kF9); (rename News _ _ _ _ => kN9); intro h9 tk9 hk9 t9 hr9 hs9; (have F9 := Fr.keeps kF9 hk9); (have N9 := News.grown kN9 hk9);  clear kF9 kN9 hk9; (try dsimp only)))
local macro_rules | `(tactic| walk_at "call ref cons nil") => `(tactic| (k_here; (with_reducible show wpAny _ _ (call (Value.ref 75) [Value.int _ _, Value.int _ _, Value.int _ _]) _ _ _); k_dflt (refine' last_contract ?k1 ?k2 ?k3 ?k5 ?kK ?kd ?ku ?p1 ?p2 ?p3 ?p4 ?_; (case k1 => k_asm); (case k2 => k_asm); (case k3 => k_asm); (case k5 => k_asm); (case kK => first | exact rfl | assumption); (case kd => ktr_room); (case ku => ktr_units); (case p1 => omega); (case p2 => omega); (case p3 => omega); (case p4 => omega); skip); (rename Fr _ _ _ _ => kF9); (rename News _ _ _ _ => kN9); intro h9 tk9 hk9 t9; (have F9 := Fr.keeps kF9 hk9); (have N9 := News.grown kN9 hk9);  clear kF9 kN9 hk9; (try dsimp only)))
theorem signs_contract {w : World} {p : Program} {loose : List Str} {mean : ExcName → Option Value} {mg mb : Str → Option Value} {de wh wt : Int} {t1 t2 t3 : Tok} {sa : Addr} {vs : List Value} {ss : List Str}
    {dp un : Nat} {gd : Option (List Code)} {cn : Str} {cs : Scope} {a : Addr} {ccd : Value} {cl : List (Str × Addr)} {outer : List Env} {A₀ : Around} {base h₀ : Heap} {L : Addr} {m : Str → Option Value} {s : Shared} {Q E : Value → Shared → Prop}
    (B : Below A₀ base outer h₀) (F : Fr h₀ L s.heap m) (X : (hd.heap_39 w.params).In h₀) (T : Top p loose mean mg mb h₀) (hcs : cs.kind = .function)
    (hdp : dp + 2 < recursionLimit) (hun : un + 20 < cLine) (hd0 : 0 ≤ de) (hd3 : de < 3) (h0 : 0 ≤ wh) (h3 : wh < 3) (hr0 : 0 ≤ wt) (hr1 : wt < 4) (hl : s.heap.IsList sa vs.toArray) (hss : StrsAre vs ss) (hlen : ss.length = 10)
    (hret : ∀ (h' : Heap) (tk' : Nat), (∀ b o, s.heap.get? b = some o → h'.get? b = some o) → ∀ D us, s.heap.get? D = none → h'.get? D = some (listOf (List.toArray us) 0) → StrsAre us (signsF ss de wh wt) → Q (.ref D) { s with heap := h', toks := tk' }) :
    wpAny (model PySem.Challenge.rw_dn0160_02.row.prog w) (ktrTop dp un gd cn cs L a ccd cl outer) (call (.ref 82) [.ref sa, .int de t1, .int wh t2, .int wt t3]) Q E s := by
  w_top off
  revert X; k_fill; intro X
  refine' call_pure B F X T ?kA ?kF ?kK ?ho ?hcd ?hroom ?hb ?hl ?_ ?c1 ?c2 ?c3 ?c4
  walk_at "MyEnter"
  intro L' h₁ F' N' B' X' T'
  clear B F X T
  replace F' : Fr s.heap L' h₁ (fun y => List.lookup y [(Str.ofString "what", Value.int wt t3), (Str.ofString "who", Value.int wh t2), (Str.ofString "deed", Value.int de t1), (Str.ofString "signs", Value.ref sa)]) := F'
  k_steps
  all_goals
    rename Fr _ _ _ _ => F1
    rename News _ _ _ _ => N1
    rename StrsAre _ _ => hI
    have hN := N1 _ (.head _)
    refine hret _ _ F1.keep _ _ hN.2.2 hN.1 ?_
  · have e : newF (signAt ss wh wt) de wh wt = Str.ofString "-" := by
      unfold newF; rw [if_pos (show wt < 2 by assumption), if_pos (show turnedF (thereF (signAt ss wh wt)) de = 0 by assumption)]
    unfold signsF; rw [e]; exact hI
  · have e : newF (signAt ss wh wt) de wh wt = Txt.item (Str.ofString "rw") wt := by
      have h1 : turnedF (thereF (signAt ss wh wt)) de = 1 := by assumption
      unfold newF; rw [if_pos (show wt < 2 by assumption), if_neg (by rw [h1]; decide)]
    unfold signsF; rw [e]; exact hI
  · have e : newF (signAt ss wh wt) de wh wt = lastF (turnedF (runsF (signAt ss wh wt)) de) (aboveF (signAt ss wh wt)) wh := by
      unfold newF; rw [if_neg (show ¬ wt < 2 by assumption), if_pos (show wt = 2 by assumption)]
    unfold signsF; rw [e]; exact hI
  · have e : newF (signAt ss wh wt) de wh wt = lastF (runsF (signAt ss wh wt)) (turnedF (aboveF (signAt ss wh wt)) de) wh := by
      unfold newF; rw [if_neg (show ¬ wt < 2 by assumption), if_neg (show ¬ wt = 2 by assumption)]
    unfold signsF; rw [e]; exact hI
theorem given_contract {w : World} {p : Program} {loose : List Str} {mean : ExcName → Option Value} {mg mb : Str → Option Value} {gi ta : Int} {t1 t2 : Tok} {sa : Addr} {vs : List Value} {ss : List Str}
    {dp un : Nat} {gd : Option (List Code)} {cn : Str} {cs : Scope} {a : Addr} {ccd : Value} {cl : List (Str × Addr)} {outer : List Env} {A₀ : Around} {base h₀ : Heap} {L : Addr} {m : Str → Option Value} {s : Shared} {Q E : Value → Shared → Prop}
    (B : Below A₀ base outer h₀) (F : Fr h₀ L s.heap m) (X : (hd.heap_39 w.params).In h₀) (T : Top p loose mean mg mb h₀) (hcs : cs.kind = .function)
    (hdp : dp + 2 < recursionLimit) (hun : un + 20 < cLine) (h0 : 0 ≤ gi) (h3 : gi < 3) (hr0 : 0 ≤ ta) (hr1 : ta < 3) (hl : s.heap.IsList sa vs.toArray) (hss : StrsAre vs ss) (hlen : ss.length = 10)
    (hret : ∀ (h' : Heap) (tk' : Nat), (∀ b o, s.heap.get? b = some o → h'.get? b = some o) → ∀ D us, s.heap.get? D = none → h'.get? D = some (listOf (List.toArray us) 0) → StrsAre us (givenF ss gi ta) → Q (.ref D) { s with heap := h', toks := tk' }) :
    wpAny (model PySem.Challenge.rw_dn0160_02.row.prog w) (ktrTop dp un gd cn cs L a ccd cl outer) (call (.ref 89) [.ref sa, .int gi t1, .int ta t2]) Q E s := by
  w_top off
  revert X; k_fill; intro X
  refine' call_pure B F X T ?kA ?kF ?kK ?ho ?hcd ?hroom ?hb ?hl ?_ ?c1 ?c2 ?c3 ?c4
  walk_at "MyEnter"
  intro L' h₁ F' N' B' X' T'
  clear B F X T
  replace F' : Fr s.heap L' h₁ (fun y => List.lookup y [(Str.ofString "taker", Value.int ta t2), (Str.ofString "giver", Value.int gi t1), (Str.ofString "signs", Value.ref sa)]) := F'
  k_steps
  all_goals
    rename Fr _ _ _ _ => F1
    rename News _ _ _ _ => N1
    rename StrsAre _ _ => hI
    have hN := N1 _ (.head _)
    exact hret _ _ F1.keep _ _ hN.2.2 hN.1 hI
local macro_rules | `(tactic| walk_at "MyEnter") => `(tactic| (k_dflt ((case kA => exact rfl); (case kF => exact rfl); (case kK => assumption); (case ho => k_is); (case hcd => k_is); (case hroom => ktr_room); (case hb => exact BindsTo.of_eq rfl); (case hl => exact locs rfl); (case c1 => exact rfl); (case c2 => exact rfl); (case c3 => exact rfl); (case c4 => decide); k_whole)))
local macro_rules | `(tactic| walk_at "MyOff") => `(tactic| repeat' (first | exact off0 | exact nmem0 | (refine off1 ?_ ?_) | (refine nmem1 (by k_ne) ?_)))
local macro_rules | `(tactic| walk_at "MyIdx") => `(tactic| first | omega | l_idx | (split <;> omega))
local macro_rules | `(tactic| walk_at "MyStrs") => `(tactic| first | assumption | exact StrsAre.cons _ _ StrsAre.nil | (repeat' (first | exact StrsAre.nil | refine StrsAre.cons _ _ ?_)))
local macro_rules | `(tactic| walk_at "call builtin:str.join") => `(tactic| (k_here; (with_reducible show wpAny _ _ (call (Value.builtin "str.join") [Value.str _ _, Value.ref _]) _ _ _); k_dflt (refine' join_listW ?l ?i ?s ?w ?_; (case l => kmk_list); (case i => walk_at "MyStrs"); (case s => decide); (case w => first | decide | exact fmSigns_weight _); k_whole); intro t9 k9))
local macro_rules | `(tactic| walk_at "call type:list") => `(tactic| (k_here; (with_reducible show wpAny _ _ (call (Value.type _) [Value.str _ _]) _ _ _); k_dflt (refine' list_strN ?hh ?F ?N ?_ ?z; (case hh => exact rfl); (case F => k_asm); (case N => k_asm); (case z => decide)); intro D' ys' n' h' tk' F' N' l1 hI'; (try k_lt l1); (try k_sweep)))
local macro_rules | `(tactic| walk_at "MySize") => `(tactic| ((simp only [sizeLine_eq, List.length_append, List.length_cons, List.length_nil, List.length_take, List.length_drop, List.length_set]); omega))
local macro_rules | `(tactic| walk_at "eval IfExp") => `(tactic| (k_here; (with_reducible show wpAny _ _ (eval (PySem.Expr.IfExp _ (PySem.Expr.Constant (PySem.Const.int _) _ _) (PySem.Expr.Constant (PySem.Const.int _) _ _) _) _) _ _ _); refine ifexp_ints ?_))
local macro_rules | `(tactic| walk_at "subscriptTail") => `(tactic| (k_here; (with_reducible show wpAny _ _ (subscriptTail _ _ (Value.ref _) (Value.int _ _)) _ _ _); k_dflt (refine' strs_item ?l ?ss ?a ?b ?c ?_ ?s; (case l => kmk_list); (case ss => assumption); (case a => walk_at "MyIdx"); (case b => walk_at "MyIdx"); (case c => walk_at "MyIdx"); (case s => with_unfolding_all rfl); k_whole); intro t9))
local macro_rules | `(tactic| walk_at "subscriptTail Name Slice ref ref") => `(tactic| (k_here; (with_reducible show wpAny _ _ (subscriptTail _ (PySem.Expr.Slice _ _ none _) (Value.ref _) (Value.ref _)) _ _ _); k_dflt (refine' slice_strs ?F ?N ?l ?p ?q ?m ?_ ?s ?t ?z; (case F => k_asm); (case N => k_asm); (case l => kmk_list); (case p => kmk_part); (case q => kmk_part); (case m => first | exact strs_upto (by assumption) (by walk_at "MyIdx") | exact strs_from (by assumption) (by walk_at "MyIdx") | exact strs_run (by assumption) (by walk_at "MyIdx") (by walk_at "MyIdx") (by walk_at "MyIdx")); (case s => with_unfolding_all rfl); (case t => kmk_pure); (case z => exact strs_fit (by assumption) (by assumption) (by decide))); intro D' ws' h' F' N' l1 hI'; (try k_lt l1); (try k_sweep)))
local macro_rules | `(tactic| walk_at "binaryOp Add ref ref") => `(tactic| (k_here; (with_reducible show wpAny _ _ (binaryOp _ (Value.ref _) (Value.ref _)) _ _ _); k_dflt (refine' cat_strs ?F ?N ?a ?b ?i ?j ?_ ?z; (case F => k_asm); (case N => k_asm); (case a => kmk_list); (case b => kmk_list); (case i => walk_at "MyStrs"); (case j => walk_at "MyStrs"); (case z => walk_at "MySize")); intro D' ws' h' F' N' l1 hI'; (try k_lt l1); (try k_sweep)))
local macro_rules | `(tactic| walk_at "call ref cons nil") => `(tactic| (k_here; (with_reducible show wpAny _ _ (call (Value.ref 68) [Value.int _ _, Value.int _ _]) _ _ _); k_dflt (refine' turned_contract ?k1 ?k2 ?k3 ?k5 ?kK ?kd ?ku ?p1 ?p2 ?p3 ?p4 ?_; (case k1 => k_asm); (case k2 => k_asm); (case k3 => k_asm); (case k5 => k_asm); (case kK => first | exact rfl | assumption); (case kd => ktr_room); (case ku => ktr_units); (case p1 => omega); (case p2 => omega); (case p3 => omega); (case p4 => omega); skip); (rename Fr _ _ _ _ => kF9); (rename News _ _ _ _ => kN9); intro h9 tk9 hk9 t9 hr9 hs9; (have F9 := Fr.keeps kF9 hk9); (have N9 := News.grown kN9 hk9);  clear kF9 kN9 hk9; (try dsimp only)))
local macro_rules | `(tactic| walk_at "call ref cons nil") => `(tactic| (k_here; (with_reducible show wpAny _ _ (call (Value.ref 82) [Value.ref _, Value.int _ _, Value.int _ _, Value.int _ _]) _ _ _); k_dflt (refine' signs_contract ?k1 ?k2 ?k3 ?k5 ?kK ?kd ?ku ?p1 ?p2 ?p3 ?p4 ?p5 ?p6 ?l7 ?l8 ?l9 ?_; (case k1 => k_asm); (case k2 => k_asm); (case k3 => k_asm); (case k5 => k_asm); (case kK => first | exact rfl | assumption); (case kd => ktr_room); (case ku => ktr_units); (case p1 => omega); (case p2 => omega); (case p3 => omega); (case p4 => omega); (case p5 => omega); (case p6 => omega); (case l7 => first | exact News.isList (by k_asm) (by k_mem) | exact Fr.lst (by k_asm) (by k_asm) | k_asm); (case l8 => assumption); (case l9 => assumption); skip); (rename Fr _ _ _ _ => kF9); (rename News _ _ _ _ => kN9); intro h9 tk9 hk9 D9 us9 hD9 hg9 hu9; (have F9 := Fr.keeps kF9 hk9); (have N9 := News.grown kN9 hk9); (have l9 := news_ne kN9 hD9); (replace N9 := news_more kF9 N9 hD9 hg9); clear kF9 kN9 hk9; (try dsimp only)))
local macro_rules | `(tactic| walk_at "call ref cons nil") => `(tactic| (k_here; (with_reducible show wpAny _ _ (call (Value.ref 89) [Value.ref _, Value.int _ _, Value.int _ _]) _ _ _); k_dflt (refine' given_contract ?k1 ?k2 ?k3 ?k5 ?kK ?kd ?ku ?p1 ?p2 ?p3 ?p4 ?l7 ?l8 ?l9 ?_; (case k1 => k_asm); (case k2 => k_asm); (case k3 => k_asm); (case k5 => k_asm); (case kK => first | exact rfl | assumption); (case kd => ktr_room); (case ku => ktr_units); (case p1 => omega); (case p2 => omega); (case p3 => omega); (case p4 => omega); (case l7 => first | exact News.isList (by k_asm) (by k_mem) | exact Fr.lst (by k_asm) (by k_asm) | k_asm); (case l8 => assumption); (case l9 => assumption); skip); (rename Fr _ _ _ _ => kF9); (rename News _ _ _ _ => kN9); intro h9 tk9 hk9 D9 us9 hD9 hg9 hu9; (have F9 := Fr.keeps kF9 hk9); (have N9 := News.grown kN9 hk9); (have l9 := news_ne kN9 hD9); (replace N9 := news_more kF9 N9 hD9 hg9); clear kF9 kN9 hk9; (try dsimp only)))
local macro_rules | `(tactic| walk_at "call ref cons nil") => `(tactic| (k_here; (with_reducible show wpAny _ _ (call (Value.ref 61) [Value.int _ _]) _ _ _); k_dflt (refine' fm_contract ?k1 ?k2 ?k3 ?k5 ?kK ?kd ?ku  ?_; (case k1 => k_asm); (case k2 => k_asm); (case k3 => k_asm); (case k5 => k_asm); (case kK => first | exact rfl | assumption); (case kd => ktr_room); (case ku => ktr_units);  skip); (rename Fr _ _ _ _ => kF9); (rename News _ _ _ _ => kN9); intro h9 tk9 hk9 t9; (have F9 := Fr.keeps kF9 hk9); (have N9 := News.grown kN9 hk9);  clear kF9 kN9 hk9; (try dsimp only)))
theorem strs_cast {vs : List Value} {a b : List Str} (h : StrsAre vs a) (e : a = b) : StrsAre vs b := e ▸ h
theorem fdv {x v : Int} (h : 0 ≤ v) : x.fdiv v = x / v := Int.fdiv_eq_ediv_of_nonneg _ h
theorem fmv {x v : Int} (h : 0 ≤ v) : x.fmod v = x % v := Int.fmod_eq_emod_of_nonneg _ h
theorem stepw_0_0 {M de v : Int} (hv : v = 256) (h0 : 0 ≤ de) (h3 : de < 3) : signsF (fmSigns M) de 0 0 = fmSigns (M + ([1, 0, 1 - (M.fdiv v).fmod 2].getD de.toNat 0 - (M.fdiv v).fmod 2) * v) := by
  subst hv
  rw [turned_eq h0 h3, fdv (show (0 : Int) ≤ 256 by decide), fmv (show (0 : Int) ≤ 2 by decide)]
  exact step_0_0 (by omega)
theorem stepw_0_1 {M de v : Int} (hv : v = 128) (h0 : 0 ≤ de) (h3 : de < 3) : signsF (fmSigns M) de 0 1 = fmSigns (M + ([1, 0, 1 - (M.fdiv v).fmod 2].getD de.toNat 0 - (M.fdiv v).fmod 2) * v) := by
  subst hv
  rw [turned_eq h0 h3, fdv (show (0 : Int) ≤ 128 by decide), fmv (show (0 : Int) ≤ 2 by decide)]
  exact step_0_1 (by omega)
theorem stepw_0_2 {M de v : Int} (hv : v = 64) (h0 : 0 ≤ de) (h3 : de < 3) : signsF (fmSigns M) de 0 2 = fmSigns (M + ([1, 0, 1 - (M.fdiv v).fmod 2].getD de.toNat 0 - (M.fdiv v).fmod 2) * v) := by
  subst hv
  rw [turned_eq h0 h3, fdv (show (0 : Int) ≤ 64 by decide), fmv (show (0 : Int) ≤ 2 by decide)]
  exact step_0_2 (by omega)
theorem stepw_0_3 {M de v : Int} (hv : v = 2048) (h0 : 0 ≤ de) (h3 : de < 3) : signsF (fmSigns M) de 0 3 = fmSigns (M + ([1, 0, 1 - (M.fdiv v).fmod 2].getD de.toNat 0 - (M.fdiv v).fmod 2) * v) := by
  subst hv
  rw [turned_eq h0 h3, fdv (show (0 : Int) ≤ 2048 by decide), fmv (show (0 : Int) ≤ 2 by decide)]
  exact step_0_3 (by omega)
theorem stepw_1_0 {M de v : Int} (hv : v = 32) (h0 : 0 ≤ de) (h3 : de < 3) : signsF (fmSigns M) de 1 0 = fmSigns (M + ([1, 0, 1 - (M.fdiv v).fmod 2].getD de.toNat 0 - (M.fdiv v).fmod 2) * v) := by
  subst hv
  rw [turned_eq h0 h3, fdv (show (0 : Int) ≤ 32 by decide), fmv (show (0 : Int) ≤ 2 by decide)]
  exact step_1_0 (by omega)
theorem stepw_1_1 {M de v : Int} (hv : v = 16) (h0 : 0 ≤ de) (h3 : de < 3) : signsF (fmSigns M) de 1 1 = fmSigns (M + ([1, 0, 1 - (M.fdiv v).fmod 2].getD de.toNat 0 - (M.fdiv v).fmod 2) * v) := by
  subst hv
  rw [turned_eq h0 h3, fdv (show (0 : Int) ≤ 16 by decide), fmv (show (0 : Int) ≤ 2 by decide)]
  exact step_1_1 (by omega)
theorem stepw_1_2 {M de v : Int} (hv : v = 8) (h0 : 0 ≤ de) (h3 : de < 3) : signsF (fmSigns M) de 1 2 = fmSigns (M + ([1, 0, 1 - (M.fdiv v).fmod 2].getD de.toNat 0 - (M.fdiv v).fmod 2) * v) := by
  subst hv
  rw [turned_eq h0 h3, fdv (show (0 : Int) ≤ 8 by decide), fmv (show (0 : Int) ≤ 2 by decide)]
  exact step_1_2 (by omega)
theorem stepw_1_3 {M de v : Int} (hv : v = 1024) (h0 : 0 ≤ de) (h3 : de < 3) : signsF (fmSigns M) de 1 3 = fmSigns (M + ([1, 0, 1 - (M.fdiv v).fmod 2].getD de.toNat 0 - (M.fdiv v).fmod 2) * v) := by
  subst hv
  rw [turned_eq h0 h3, fdv (show (0 : Int) ≤ 1024 by decide), fmv (show (0 : Int) ≤ 2 by decide)]
  exact step_1_3 (by omega)
theorem stepw_2_0 {M de v : Int} (hv : v = 4) (h0 : 0 ≤ de) (h3 : de < 3) : signsF (fmSigns M) de 2 0 = fmSigns (M + ([1, 0, 1 - (M.fdiv v).fmod 2].getD de.toNat 0 - (M.fdiv v).fmod 2) * v) := by
  subst hv
  rw [turned_eq h0 h3, fdv (show (0 : Int) ≤ 4 by decide), fmv (show (0 : Int) ≤ 2 by decide)]
  exact step_2_0 (by omega)
theorem stepw_2_1 {M de v : Int} (hv : v = 2) (h0 : 0 ≤ de) (h3 : de < 3) : signsF (fmSigns M) de 2 1 = fmSigns (M + ([1, 0, 1 - (M.fdiv v).fmod 2].getD de.toNat 0 - (M.fdiv v).fmod 2) * v) := by
  subst hv
  rw [turned_eq h0 h3, fdv (show (0 : Int) ≤ 2 by decide), fmv (show (0 : Int) ≤ 2 by decide)]
  exact step_2_1 (by omega)
theorem stepw_2_2 {M de v : Int} (hv : v = 1) (h0 : 0 ≤ de) (h3 : de < 3) : signsF (fmSigns M) de 2 2 = fmSigns (M + ([1, 0, 1 - (M.fdiv v).fmod 2].getD de.toNat 0 - (M.fdiv v).fmod 2) * v) := by
  subst hv
  rw [turned_eq h0 h3, fdv (show (0 : Int) ≤ 1 by decide), fmv (show (0 : Int) ≤ 2 by decide)]
  exact step_2_2 (by omega)
theorem stepw_2_3 {M de v : Int} (hv : v = 512) (h0 : 0 ≤ de) (h3 : de < 3) : signsF (fmSigns M) de 2 3 = fmSigns (M + ([1, 0, 1 - (M.fdiv v).fmod 2].getD de.toNat 0 - (M.fdiv v).fmod 2) * v) := by
  subst hv
  rw [turned_eq h0 h3, fdv (show (0 : Int) ≤ 512 by decide), fmv (show (0 : Int) ≤ 2 by decide)]
  exact step_2_3 (by omega)
theorem gstepw_0_1 {M a b t : Int} (ht : t = 1) (ha : a = 64) (hb : b = 8) : givenF (fmSigns M) 0 t = fmSigns (M + ((M.fdiv a).fmod 8 - (M.fdiv b).fmod 8) * b) := by
  subst ht ha hb
  rw [fdv (show (0 : Int) ≤ 64 by decide), fdv (show (0 : Int) ≤ 8 by decide), fmv (show (0 : Int) ≤ 8 by decide), fmv (show (0 : Int) ≤ 8 by decide)]
  exact gstep_0_1
theorem gstepw_0_2 {M a b t : Int} (ht : t = 2) (ha : a = 64) (hb : b = 1) : givenF (fmSigns M) 0 t = fmSigns (M + ((M.fdiv a).fmod 8 - (M.fdiv b).fmod 8) * b) := by
  subst ht ha hb
  rw [fdv (show (0 : Int) ≤ 64 by decide), fdv (show (0 : Int) ≤ 1 by decide), fmv (show (0 : Int) ≤ 8 by decide), fmv (show (0 : Int) ≤ 8 by decide)]
  exact gstep_0_2
theorem gstepw_1_0 {M a b t : Int} (ht : t = 0) (ha : a = 8) (hb : b = 64) : givenF (fmSigns M) 1 t = fmSigns (M + ((M.fdiv a).fmod 8 - (M.fdiv b).fmod 8) * b) := by
  subst ht ha hb
  rw [fdv (show (0 : Int) ≤ 8 by decide), fdv (show (0 : Int) ≤ 64 by decide), fmv (show (0 : Int) ≤ 8 by decide), fmv (show (0 : Int) ≤ 8 by decide)]
  exact gstep_1_0
theorem gstepw_1_2 {M a b t : Int} (ht : t = 2) (ha : a = 8) (hb : b = 1) : givenF (fmSigns M) 1 t = fmSigns (M + ((M.fdiv a).fmod 8 - (M.fdiv b).fmod 8) * b) := by
  subst ht ha hb
  rw [fdv (show (0 : Int) ≤ 8 by decide), fdv (show (0 : Int) ≤ 1 by decide), fmv (show (0 : Int) ≤ 8 by decide), fmv (show (0 : Int) ≤ 8 by decide)]
  exact gstep_1_2
theorem gstepw_2_0 {M a b t : Int} (ht : t = 0) (ha : a = 1) (hb : b = 64) : givenF (fmSigns M) 2 t = fmSigns (M + ((M.fdiv a).fmod 8 - (M.fdiv b).fmod 8) * b) := by
  subst ht ha hb
  rw [fdv (show (0 : Int) ≤ 1 by decide), fdv (show (0 : Int) ≤ 64 by decide), fmv (show (0 : Int) ≤ 8 by decide), fmv (show (0 : Int) ≤ 8 by decide)]
  exact gstep_2_0
theorem gstepw_2_1 {M a b t : Int} (ht : t = 1) (ha : a = 1) (hb : b = 8) : givenF (fmSigns M) 2 t = fmSigns (M + ((M.fdiv a).fmod 8 - (M.fdiv b).fmod 8) * b) := by
  subst ht ha hb
  rw [fdv (show (0 : Int) ≤ 1 by decide), fdv (show (0 : Int) ≤ 8 by decide), fmv (show (0 : Int) ≤ 8 by decide), fmv (show (0 : Int) ≤ 8 by decide)]
  exact gstep_2_1
theorem mod_is {prog : Program} {w : World} {A : Around} {E : Value → Shared → Prop} {s : Shared} {a b r : Int} {t u : Tok} {Q : Value → Shared → Prop} (h : a.fmod b = r) (hb : b ≠ 0) (k : Q (.int r s.toks) { s with toks := s.toks + 1 }) :
    wpAny (model prog w) A (binaryOp .Mod (.int a t) (.int b u)) Q E s := mod_int' hb (by rw [h]; exact k)
local macro_rules | `(tactic| walk_at "binaryOp Mod int int") => `(tactic| (k_here; (with_reducible refine mod_is (by with_reducible assumption) (by decide) ?_)))
theorem fmod_rng (x n : Int) (h : 0 < n) : 0 ≤ x.fmod n ∧ x.fmod n < n := by
  rw [Int.fmod_eq_emod_of_nonneg _ (Int.le_of_lt h)]
  exact ⟨Int.emod_nonneg _ (Int.ne_of_gt h), Int.emod_lt_of_pos _ h⟩
theorem start_eq : fmSigns 17897 = signs (Str.ofString "drwxr-s--x") := by decide +kernel
local macro_rules | `(tactic| walk_at "exec For Name Name cons nil") => `(tactic| (k_here; (with_reducible refine wpAny_For ?_ ?hs); (case hs => (intro _; rfl))))
theorem law_body {w : World} {p : Program} {loose : List Str} {mean : ExcName → Option Value} {mg mb : Str → Option Value} {base h₀ : Heap} {L fa sc : Addr} {cd : Value} {s : Shared} {vs0 : List Value} {ns : List Int}
    (B : Below callerA base [] h₀) (F : Fr h₀ L s.heap (fun y => List.lookup y [(Str.ofString "script", Value.ref sc)])) (N : News h₀ L s.heap []) (X : (hd.heap_39 w.params).In h₀) (T : Top p loose mean mg mb h₀)
    (hL : h₀.IsList sc vs0.toArray) (hI : IntsAre vs0 ns) (hlay : (PyData.list (ns.map PyData.int)).layable0 = true) :
    wpAny (model PySem.Challenge.rw_dn0160_02.row.prog w) (callerA.deeper (envOf (Str.ofString "law") (fnScope (hd.heap_39 w.params) 96) L fa cd)) (execs (fnBody (hd.heap_39 w.params) 96) (envOf (Str.ofString "law") (fnScope (hd.heap_39 w.params) 96) L fa cd))
      (fun fl s' => LawEnd h₀ L s fl s') (fun _ _ => False) s := by
  w_top off
  revert X; k_fill; intro X
  rw [show fnBody (hd.heap_39 w.params) 96 = _ from rfl, show fnScope (hd.heap_39 w.params) 96 = _ from rfl]
  k_steps
  rename Fr _ _ _ _ => F1
  rename News _ _ _ _ => N1
  rename StrsAre _ _ => hS
  refine iter_list (env := envOf (Str.ofString "law") (fnScope (hd.heap_39 w.params) 96) L fa cd) rfl hL F1 N1 (fun i m₁ news₁ => ∃ M t sa vs n, m₁ (Str.ofString "mode") = some (.int M t) ∧ m₁ (Str.ofString "signs") = some (.ref sa) ∧ news₁ = [(sa, listOf (List.toArray vs) n)] ∧ StrsAre vs (fmSigns M)) ?_ ?_ ?_ PassesOwn.never
  · rw [← start_eq] at hS
    exact ⟨17897, _, _, _, _, rfl, rfl, rfl, hS⟩
  · clear F1 N1 hS
    intro i v m₁ news₁ h₂ tk₁ I o hv hJ hoff F2 N2 hlt
    obtain ⟨M, tM, sa, vs, n, hm1, hm2, rfl, hvs⟩ := hJ
    obtain ⟨x, tx, hx, rfl⟩ : ∃ x t, x ∈ ns ∧ v = .int x t := ints_item hI (by simpa using hv)
    have hp2 := neN (hoff (sa, _) (.head _))
    dsimp only at hp2
    rw [chain2 hm1 hm2] at F2
    replace F2 : Fr h₀ L h₂ _ := F2
    replace N2 : News h₀ L h₂ _ := N2
    clear hoff hlt hm1 hm2 hv
    refine wpAny_assign_Name (stN F2 N2 (fun h₃ F3 N3 => ?_) rfl rfl)
    clear F2 N2
    refine execs_cut 4 (fun s' => ∃ h' tk m' t1 t2 t3 t4, s' = { s with heap := h', toks := tk } ∧ Fr h₀ L h' m' ∧ News h₀ L h' [(I, o), (sa, listOf (List.toArray vs) n)] ∧
      m' (Str.ofString "mode") = some (.int M tM) ∧ m' (Str.ofString "signs") = some (.ref sa) ∧ m' (Str.ofString "deed") = some (.int (x.fmod 6) t1) ∧ m' (Str.ofString "z") = some (.int (x.fdiv 6) t2) ∧ m' (Str.ofString "who") = some (.int ((x.fdiv 6).fmod 3) t3) ∧ m' (Str.ofString "what") = some (.int (((x.fdiv 6).fdiv 3).fmod 4) t4)) ?_ ?_
    · dsimp only [List.take]
      k_steps
      rename Fr _ _ _ _ => F9
      rename News _ _ _ _ => N9
      exact ⟨rfl, _, _, _, _, _, _, _, rfl, F9, N9, rfl, rfl, rfl, rfl, rfl, rfl⟩
    · clear F3 N3
      rintro s' ⟨h₄, tk₄, m₄, t1, t2, t3, t4, rfl, F4, N4, q1, q2, q3, q4, q5, q6⟩
      dsimp only [List.drop]
      have hlen := fmSigns_length M
      refine execs_cut 1 (fun s' => ∃ h' tk m' M' t sa' vs' n', s' = { s with heap := h', toks := tk } ∧ Fr h₀ L h' m' ∧ News h₀ L h' [(I, o), (sa', listOf (List.toArray vs') n')] ∧
        m' (Str.ofString "mode") = some (.int M' t) ∧ m' (Str.ofString "signs") = some (.ref sa') ∧ sa' ≠ I ∧ StrsAre vs' (fmSigns M')) ?_ ?_
      · dsimp only [List.take]
        rw [chainN (m := m₄) (l := [(Str.ofString "mode", .int M tM), (Str.ofString "signs", .ref sa), (Str.ofString "deed", .int (x.fmod 6) t1), (Str.ofString "z", .int (x.fdiv 6) t2), (Str.ofString "who", .int ((x.fdiv 6).fmod 3) t3), (Str.ofString "what", .int (((x.fdiv 6).fdiv 3).fmod 4) t4)]) (by simp [q1, q2, q3, q4, q5, q6])] at F4
        dsimp only [List.foldr] at F4
        clear q1 q2 q3 q4 q5 q6
        have r1 := fmod_rng x 6 (by decide)
        have r2 := fmod_rng (x.fdiv 6) 3 (by decide)
        have r3 := fmod_rng ((x.fdiv 6).fdiv 3) 4 (by decide)
        generalize hde : x.fmod 6 = de at F4 r1
        generalize hwh : (x.fdiv 6).fmod 3 = wh at F4 r2
        generalize hwt : ((x.fdiv 6).fdiv 3).fmod 4 = wt at F4 r3
        rcases (by omega : de < 3 ∨ de = 3 ∨ de = 4 ∨ de = 5) with c | c | c | c
        · rcases (by omega : wh = 0 ∨ wh = 1 ∨ wh = 2) with e | e | e
          · rcases (by omega : wt = 0 ∨ wt = 1 ∨ wt = 2 ∨ wt = 3) with e' | e' | e' | e'
            · subst e e'
              clear r2 r3 hwh hwt hde
              k_steps
              rename Fr _ _ _ _ => F9
              rename News _ _ _ _ => N9
              rename StrsAre _ _ => hI9
              rename (∀ p ∈ _, _ ≠ _) => hne9
              refine ⟨rfl, _, _, _, _, _, _, _, _, rfl, F9, news_pick2 N9 (by k_mem) (by k_mem), rfl, rfl, (hne9 (I, o) (by k_mem)).symm, ?_⟩
              exact strs_cast hI9 (stepw_0_0 (by decide) r1.1 c)
            · subst e e'
              clear r2 r3 hwh hwt hde
              k_steps
              rename Fr _ _ _ _ => F9
              rename News _ _ _ _ => N9
              rename StrsAre _ _ => hI9
              rename (∀ p ∈ _, _ ≠ _) => hne9
              refine ⟨rfl, _, _, _, _, _, _, _, _, rfl, F9, news_pick2 N9 (by k_mem) (by k_mem), rfl, rfl, (hne9 (I, o) (by k_mem)).symm, ?_⟩
              exact strs_cast hI9 (stepw_0_1 (by decide) r1.1 c)
            · subst e e'
              clear r2 r3 hwh hwt hde
              k_steps
              rename Fr _ _ _ _ => F9
              rename News _ _ _ _ => N9
              rename StrsAre _ _ => hI9
              rename (∀ p ∈ _, _ ≠ _) => hne9
              refine ⟨rfl, _, _, _, _, _, _, _, _, rfl, F9, news_pick2 N9 (by k_mem) (by k_mem), rfl, rfl, (hne9 (I, o) (by k_mem)).symm, ?_⟩
              exact strs_cast hI9 (stepw_0_2 (by decide) r1.1 c)
            · subst e e'
              clear r2 r3 hwh hwt hde
              k_steps
              rename Fr _ _ _ _ => F9
              rename News _ _ _ _ => N9
              rename StrsAre _ _ => hI9
              rename (∀ p ∈ _, _ ≠ _) => hne9
              refine ⟨rfl, _, _, _, _, _, _, _, _, rfl, F9, news_pick2 N9 (by k_mem) (by k_mem), rfl, rfl, (hne9 (I, o) (by k_mem)).symm, ?_⟩
              exact strs_cast hI9 (stepw_0_3 (by decide) r1.1 c)
          · rcases (by omega : wt = 0 ∨ wt = 1 ∨ wt = 2 ∨ wt = 3) with e' | e' | e' | e'
            · subst e e'
              clear r2 r3 hwh hwt hde
              k_steps
              rename Fr _ _ _ _ => F9
              rename News _ _ _ _ => N9
              rename StrsAre _ _ => hI9
              rename (∀ p ∈ _, _ ≠ _) => hne9
              refine ⟨rfl, _, _, _, _, _, _, _, _, rfl, F9, news_pick2 N9 (by k_mem) (by k_mem), rfl, rfl, (hne9 (I, o) (by k_mem)).symm, ?_⟩
              exact strs_cast hI9 (stepw_1_0 (by decide) r1.1 c)
            · subst e e'
              clear r2 r3 hwh hwt hde
              k_steps
              rename Fr _ _ _ _ => F9
              rename News _ _ _ _ => N9
              rename StrsAre _ _ => hI9
              rename (∀ p ∈ _, _ ≠ _) => hne9
              refine ⟨rfl, _, _, _, _, _, _, _, _, rfl, F9, news_pick2 N9 (by k_mem) (by k_mem), rfl, rfl, (hne9 (I, o) (by k_mem)).symm, ?_⟩
              exact strs_cast hI9 (stepw_1_1 (by decide) r1.1 c)
            · subst e e'
              clear r2 r3 hwh hwt hde
              k_steps
              rename Fr _ _ _ _ => F9
              rename News _ _ _ _ => N9
              rename StrsAre _ _ => hI9
              rename (∀ p ∈ _, _ ≠ _) => hne9
              refine ⟨rfl, _, _, _, _, _, _, _, _, rfl, F9, news_pick2 N9 (by k_mem) (by k_mem), rfl, rfl, (hne9 (I, o) (by k_mem)).symm, ?_⟩
              exact strs_cast hI9 (stepw_1_2 (by decide) r1.1 c)
            · subst e e'
              clear r2 r3 hwh hwt hde
              k_steps
              rename Fr _ _ _ _ => F9
              rename News _ _ _ _ => N9
              rename StrsAre _ _ => hI9
              rename (∀ p ∈ _, _ ≠ _) => hne9
              refine ⟨rfl, _, _, _, _, _, _, _, _, rfl, F9, news_pick2 N9 (by k_mem) (by k_mem), rfl, rfl, (hne9 (I, o) (by k_mem)).symm, ?_⟩
              exact strs_cast hI9 (stepw_1_3 (by decide) r1.1 c)
          · rcases (by omega : wt = 0 ∨ wt = 1 ∨ wt = 2 ∨ wt = 3) with e' | e' | e' | e'
            · subst e e'
              clear r2 r3 hwh hwt hde
              k_steps
              rename Fr _ _ _ _ => F9
              rename News _ _ _ _ => N9
              rename StrsAre _ _ => hI9
              rename (∀ p ∈ _, _ ≠ _) => hne9
              refine ⟨rfl, _, _, _, _, _, _, _, _, rfl, F9, news_pick2 N9 (by k_mem) (by k_mem), rfl, rfl, (hne9 (I, o) (by k_mem)).symm, ?_⟩
              exact strs_cast hI9 (stepw_2_0 (by decide) r1.1 c)
            · subst e e'
              clear r2 r3 hwh hwt hde
              k_steps
              rename Fr _ _ _ _ => F9
              rename News _ _ _ _ => N9
              rename StrsAre _ _ => hI9
              rename (∀ p ∈ _, _ ≠ _) => hne9
              refine ⟨rfl, _, _, _, _, _, _, _, _, rfl, F9, news_pick2 N9 (by k_mem) (by k_mem), rfl, rfl, (hne9 (I, o) (by k_mem)).symm, ?_⟩
              exact strs_cast hI9 (stepw_2_1 (by decide) r1.1 c)
            · subst e e'
              clear r2 r3 hwh hwt hde
              k_steps
              rename Fr _ _ _ _ => F9
              rename News _ _ _ _ => N9
              rename StrsAre _ _ => hI9
              rename (∀ p ∈ _, _ ≠ _) => hne9
              refine ⟨rfl, _, _, _, _, _, _, _, _, rfl, F9, news_pick2 N9 (by k_mem) (by k_mem), rfl, rfl, (hne9 (I, o) (by k_mem)).symm, ?_⟩
              exact strs_cast hI9 (stepw_2_2 (by decide) r1.1 c)
            · subst e e'
              clear r2 r3 hwh hwt hde
              k_steps
              rename Fr _ _ _ _ => F9
              rename News _ _ _ _ => N9
              rename StrsAre _ _ => hI9
              rename (∀ p ∈ _, _ ≠ _) => hne9
              refine ⟨rfl, _, _, _, _, _, _, _, _, rfl, F9, news_pick2 N9 (by k_mem) (by k_mem), rfl, rfl, (hne9 (I, o) (by k_mem)).symm, ?_⟩
              exact strs_cast hI9 (stepw_2_3 (by decide) r1.1 c)
        · have r4 := fmod_rng ((x.fdiv 6).fdiv 3) 2 (by decide)
          subst c
          clear r3 hwt hde
          generalize hz2 : ((x.fdiv 6).fdiv 3).fmod 2 = e2 at r4
          have hgen : ∀ (g t : Int), True := fun _ _ => trivial
          rcases (by omega : wh = 0 ∨ wh = 1 ∨ wh = 2) with e | e | e
          · rcases (by omega : e2 = 0 ∨ e2 = 1) with e' | e'
            · rw [e'] at hz2
              subst e
              clear r2 hwh hgen
              k_steps
              rename Fr _ _ _ _ => F9
              rename News _ _ _ _ => N9
              rename StrsAre _ _ => hI9
              rename (∀ p ∈ _, _ ≠ _) => hne9
              refine ⟨rfl, _, _, _, _, _, _, _, _, rfl, F9, news_pick2 N9 (by k_mem) (by k_mem), rfl, rfl, (hne9 (I, o) (by k_mem)).symm, ?_⟩
              exact strs_cast hI9 (gstepw_0_1 (by decide) (by decide) (by decide))
            · rw [e'] at hz2
              subst e
              clear r2 hwh hgen
              k_steps
              rename Fr _ _ _ _ => F9
              rename News _ _ _ _ => N9
              rename StrsAre _ _ => hI9
              rename (∀ p ∈ _, _ ≠ _) => hne9
              refine ⟨rfl, _, _, _, _, _, _, _, _, rfl, F9, news_pick2 N9 (by k_mem) (by k_mem), rfl, rfl, (hne9 (I, o) (by k_mem)).symm, ?_⟩
              exact strs_cast hI9 (gstepw_0_2 (by decide) (by decide) (by decide))
          · rcases (by omega : e2 = 0 ∨ e2 = 1) with e' | e'
            · rw [e'] at hz2
              subst e
              clear r2 hwh hgen
              k_steps
              rename Fr _ _ _ _ => F9
              rename News _ _ _ _ => N9
              rename StrsAre _ _ => hI9
              rename (∀ p ∈ _, _ ≠ _) => hne9
              refine ⟨rfl, _, _, _, _, _, _, _, _, rfl, F9, news_pick2 N9 (by k_mem) (by k_mem), rfl, rfl, (hne9 (I, o) (by k_mem)).symm, ?_⟩
              exact strs_cast hI9 (gstepw_1_2 (by decide) (by decide) (by decide))
            · rw [e'] at hz2
              subst e
              clear r2 hwh hgen
              k_steps
              rename Fr _ _ _ _ => F9
              rename News _ _ _ _ => N9
              rename StrsAre _ _ => hI9
              rename (∀ p ∈ _, _ ≠ _) => hne9
              refine ⟨rfl, _, _, _, _, _, _, _, _, rfl, F9, news_pick2 N9 (by k_mem) (by k_mem), rfl, rfl, (hne9 (I, o) (by k_mem)).symm, ?_⟩
              exact strs_cast hI9 (gstepw_1_0 (by decide) (by decide) (by decide))
          · rcases (by omega : e2 = 0 ∨ e2 = 1) with e' | e'
            · rw [e'] at hz2
              subst e
              clear r2 hwh hgen
              k_steps
              rename Fr _ _ _ _ => F9
              rename News _ _ _ _ => N9
              rename StrsAre _ _ => hI9
              rename (∀ p ∈ _, _ ≠ _) => hne9
              refine ⟨rfl, _, _, _, _, _, _, _, _, rfl, F9, news_pick2 N9 (by k_mem) (by k_mem), rfl, rfl, (hne9 (I, o) (by k_mem)).symm, ?_⟩
              exact strs_cast hI9 (gstepw_2_0 (by decide) (by decide) (by decide))
            · rw [e'] at hz2
              subst e
              clear r2 hwh hgen
              k_steps
              rename Fr _ _ _ _ => F9
              rename News _ _ _ _ => N9
              rename StrsAre _ _ => hI9
              rename (∀ p ∈ _, _ ≠ _) => hne9
              refine ⟨rfl, _, _, _, _, _, _, _, _, rfl, F9, news_pick2 N9 (by k_mem) (by k_mem), rfl, rfl, (hne9 (I, o) (by k_mem)).symm, ?_⟩
              exact strs_cast hI9 (gstepw_2_1 (by decide) (by decide) (by decide))
        · subst c
          clear r2 r3 hwh hwt hde
          k_steps
          rename Fr _ _ _ _ => F9
          rename News _ _ _ _ => N9
          rename StrsAre _ _ => hI9
          refine ⟨rfl, _, _, _, _, _, _, _, _, rfl, F9, news_pick2 N9 (by k_mem) (by k_mem), rfl, rfl, (by k_ne), ?_⟩
          refine strs_cast hI9 ?_
          rw [fdv (show (0 : Int) ≤ 4096 by decide), fmv (x := M / 4096) (show (0 : Int) ≤ 16 by decide)]
          exact type_step (fmod_rng _ 16 (by decide))
        · subst c
          clear r2 r3 hwh hwt hde
          k_steps
          rename Fr _ _ _ _ => F9
          rename News _ _ _ _ => N9
          exact ⟨rfl, _, _, _, _, _, _, _, _, rfl, F9, N9, rfl, rfl, hp2, strs_cast hvs high_step.symm⟩
      · clear F4 N4
        rintro s' ⟨h₅, tk₅, m₅, M', t', sa', vs', n', rfl, F5, N5, r1, r2, hne, hvs'⟩
        dsimp only [List.drop]
        rw [chain2 r1 r2] at F5
        clear r1 r2
        k_steps
        · exfalso
          rename _ = true => hbad
          simp [fmText] at hbad
        · refine step_next (its := [(I, o)]) (news₂ := [(sa', listOf (List.toArray vs') n')]) (by k_asm) (by k_asm) ?_ ?_
          · walk_at "MyOff"
          · exact ⟨_, _, _, _, _, rfl, rfl, rfl, hvs'⟩
  · clear F1 N1 hS
    intro h₃ tk₃ m₂ news₂ F3 N3 hJ
    replace F3 : Fr h₀ L h₃ _ := F3
    replace N3 : News h₀ L h₃ _ := N3
    k_steps
    exact ⟨rfl, _, _, _, rfl, F3⟩
end Mine
theorem PySem.Challenge.cw_dn0160_02_holds : PySem.Challenge.rw_dn0160_02.Holds := by
  refine Mine.hd ?_
  k_go0
  all_goals try k_fold
  rename Fr _ _ _ _ => F1
  rename IntsAre _ _ => hI1
  rename Heap.IsList _ _ _ => hL1
  rename Below _ _ _ _ => B1
  rename Top _ _ _ _ _ _ => T1
  rename Frag.In _ _ => X1
  rename PyData.layable0 (PyData.list _) = true => hlay1
  refine wpAny_mono (Mine.law_body B1 F1 News.nil X1 T1 hL1 hI1 hlay1) (fun fl s' hfl => ?_) (fun _ _ x => x.elim)
  obtain ⟨rfl, h', tk, m', rfl, F'⟩ := hfl
  clear F1
  k_steps

