import PyProof.Rows.All
import Wide.All
import OpenK.AllK
import Wide.FinOn
import PySem.Challenge.RW_dn0160_01
open PySem PySem.W PyProof.Rows PySem.Calls
set_option Elab.async false
set_option maxRecDepth 100000
set_option maxHeartbeats 8000000
namespace Mine
open Sem (wp)
open AutoSeq1 (wpAny_loadPart')
section
variable {prog : Program} {w : World} {A : Around} {E : Value → Shared → Prop} {s : Shared}

theorem nextOf_tuple_item {it l : Addr} {i : Nat} {items : Array Value} {x : Value} {Q : Value → Shared → Prop} (hit : s.heap.IsTupleIter it l i)
    (hl : s.heap.IsTuple l items) (hx : items[i]? = some x)
    (hQ : ∀ h', h'.IsTupleIter it l (i + 1) → Heap.SameBut it s.heap h' → Q x { s with heap := h' }) :
    wpAny (model prog w) A (Builtin.SmallTypes.nextOf (.ref it)) Q E s := by
  obtain ⟨o, ho, hc, hd⟩ := id hit
  obtain ⟨ol, hol, _, nl, hdl⟩ := hl
  unfold Builtin.SmallTypes.nextOf
  refine wpAny_bind (wpAny_callSpecial?_slot (name := Str.ofString "__next__") hit.typeIs F.slot_tuple_iterator_next
    (wpAny_call_entry F.slot_tuple_iterator_next hit.typeIs F.entry_tuple_iterator_next ?_ (F.args_tuple_iterator_next_1 _)))
  show wpAny _ _ (field (.ref it) 0 >>= _) _ _ s
  refine wpAny_bind (wpAny_field ho hd (x := .ref l) rfl ?_)
  show wpAny _ _ (if (Value.ref l == Value.none) = true then _ else _) _ _ s
  rw [if_neg (show ¬ ((Value.ref l == Value.none) = true) from Bool.false_ne_true)]
  show wpAny _ _ (field (.ref it) 1 >>= _) _ _ s
  refine wpAny_bind (wpAny_field ho hd (x := .int i 0) rfl ?_)
  show wpAny _ _ (seqItems? (.ref l) >>= _) _ _ s
  refine wpAny_bind (wpAny_seqItems hol hdl ?_)
  simp only [Int.toNat_natCast, hx]
  refine wpAny_bind (wpAny_setField ho hd (by simp) (wpAny_pure ⟨x, rfl, wpAny_pure (hQ _ ?_ (Heap.SameBut.update ..))⟩))
  exact ⟨_, Heap.get?_update_self _ ho (Obj.isFreed_of_fields (Obj.data_mapFields hd _)), (Obj.cls_mapFields ..).trans hc, by
    rw [Obj.data_mapFields hd]; simp [rawInt]⟩

theorem nextOf_tuple_end {it l : Addr} {i : Nat} {items : Array Value} {Q : Value → Shared → Prop} (hh : A.handled = none)
    (hit : s.heap.IsTupleIter it l i) (hl : s.heap.IsTuple l items) (hx : items[i]? = none)
    (hE : ∀ h' e, Heap.ExtBut it s.heap h' → (∃ o, h'.get? e = some o ∧ o.cls = .type "StopIteration") → E (.ref e) { s with heap := h' }) :
    wpAny (model prog w) A (Builtin.SmallTypes.nextOf (.ref it)) Q E s := by
  obtain ⟨o, ho, hc, hd⟩ := id hit
  obtain ⟨ol, hol, _, nl, hdl⟩ := hl
  unfold Builtin.SmallTypes.nextOf
  refine wpAny_bind (wpAny_callSpecial?_slot (name := Str.ofString "__next__") hit.typeIs F.slot_tuple_iterator_next
    (wpAny_call_entry F.slot_tuple_iterator_next hit.typeIs F.entry_tuple_iterator_next ?_ (F.args_tuple_iterator_next_1 _)))
  show wpAny _ _ (field (.ref it) 0 >>= _) _ _ s
  refine wpAny_bind (wpAny_field ho hd (x := .ref l) rfl ?_)
  show wpAny _ _ (if (Value.ref l == Value.none) = true then _ else _) _ _ s
  rw [if_neg (show ¬ ((Value.ref l == Value.none) = true) from Bool.false_ne_true)]
  show wpAny _ _ (field (.ref it) 1 >>= _) _ _ s
  refine wpAny_bind (wpAny_field ho hd (x := .int i 0) rfl ?_)
  show wpAny _ _ (seqItems? (.ref l) >>= _) _ _ s
  refine wpAny_bind (wpAny_seqItems hol hdl ?_)
  simp only [Int.toNat_natCast, hx]
  refine wpAny_bind (wpAny_rule (wpAny_bind (wpAny_setField ho hd (by simp) ?_)))
  show wpAny _ _ (newExc (.type "StopIteration") [] >>= _) _ _ _
  refine wpAny_bind ?_
  simp only [newExc, newTuple]
  refine wpAny_bind (wpAny_newObj_type ?_ (by size_fits))
  refine wpAny_bind (m := firstArgMember _ _) (wpAny_of_eq (a := Value.none) (by first | rfl | (simp only [firstArgMember]; rfl)) ?_)
  refine wpAny_newObj_type ?_ (by size_fits)
  simp only [raiseNew]
  refine wpAny_bind (wpAny_handled ?_)
  first | rw [show A.in1.handled = none from hh] | rw [hh]
  refine wpAny_bind (wpAny_pure (wpAny_throw ?_))
  exact hE _ _ (((Heap.SameBut.update ..).extBut.push _).push _) ⟨_, Heap.get?_push_size _ rfl, rfl⟩
end

theorem drawsTuple {prog : Program} {w : World} {A : Around} (hh : A.handled = none) (it l : Addr) (hne : l ≠ it) (items : Array Value) :
    Draws prog w A it [it, l] items.size (fun i v => items[i]? = some v) (fun i h => h.IsTupleIter it l i ∧ h.IsTuple l items) where
  live := fun _ _ st => let ⟨o, ho, _⟩ := st.1; ⟨o, ho⟩
  frame := fun _ _ _ st hk => ⟨st.1.at fun o e => hk it (by simp) o e, st.2.at fun o e => hk l (by simp) o e⟩
  item := fun i s Q E hi st hQ => by
    refine nextOf_tuple_item st.1 st.2 (x := items[i]) (by simp [hi]) fun h' hit' hs' => ?_
    exact hQ _ h' s.toks (by simp [hi]) ⟨hit', st.2.extBut hs'.extBut hne⟩ hs'
  done := fun s Q E st hE => nextOf_tuple_end hh st.1 st.2 (by simp) hE

theorem meets_enumerate_newT (l : Addr) (items : Array Value) (n : Nat) (dct : Option Addr) (sl : Array (Option Value)) :
    Meets (Builtin.«enumerate.__new__» ⟨[.type "enumerate", .ref l], []⟩) (fun _ R s => s.heap.get? l = some { cls := .type "tuple", dict := dct, data := .seq items n, slots := sl } ∧
      R (.ok (.ret (.ref (s.heap.push { cls := .type "tuple_iterator", data := .fields #[.ref l, .int 0 0] }).objs.size)))
        { s with heap := (s.heap.push { cls := .type "tuple_iterator", data := .fields #[.ref l, .int 0 0] }).push { cls := .type "enumerate", data := .fields #[.none, .bool false, .ref s.heap.objs.size, rawInt 0, .none, .none] } }) :=
  .of_wp fun prog w A R s h => by
    obtain ⟨hp, g, d, tk, os⟩ := s; obtain ⟨hl, h⟩ := h
    have hsub := sub_enumerate
    have hL : Heap.IsTuple (Shared.heap ⟨hp, g, d, tk, os⟩) l items := ⟨_, hl, rfl, n, rfl⟩
    wp_walk using wpAny_loadPart' hl
    refine wpAny_stack_any fun st => wpAny_pure ?_
    split
    · rename_i c _ _ _ _ _
      cases (c == Value.type "enumerate")
      · wp_walk using wpAny_loadPart' hl, wpAny_pyIter_tuple hL
        exact ⟨_, rfl, h⟩
      · wp_walk using wpAny_loadPart' hl, wpAny_pyIter_tuple hL
        exact ⟨_, rfl, h⟩
    · wp_walk using wpAny_loadPart' hl, wpAny_pyIter_tuple hL
      exact ⟨_, rfl, h⟩

section
variable {prog : Program} {w : World} {A : Around} {E : Value → Shared → Prop} {s : Shared}
theorem call_enumerate_tuple {l : Addr} {items : Array Value} {Q : Value → Shared → Prop} (hL : s.heap.IsTuple l items)
    (h : ∀ h', IsEnum h' (s.heap.objs.size + 1) s.heap.objs.size 0 .none → h'.IsTupleIter s.heap.objs.size l 0 → h'.objs.size = s.heap.objs.size + 2 →
      (∀ b o, s.heap.get? b = some o → h'.get? b = some o) → Q (.ref (s.heap.objs.size + 1)) { s with heap := h' }) :
    wpAny (model prog w) A (call (.type "enumerate") [.ref l]) Q E s := by
  obtain ⟨⟨c, dct, dt, sl⟩, hl, hc, n, hd⟩ := hL
  replace hc : c = .type "tuple" := hc
  replace hd : dt = .seq items n := hd
  subst hc hd
  refine callType_new F.called_enumerate (by decide) (F.typeCall_enumerate_1 _) (F.newCall_enumerate_1 _) (fun obj => F.args_object_init_2 obj _) F.entry_enumerate_new
    (meets_enumerate_newT l items n dct sl) ⟨hl, ?_⟩
  have hz : (s.heap.push { cls := .type "tuple_iterator", data := .fields #[.ref l, .int 0 0] }).objs.size = s.heap.objs.size + 1 := Heap.size_push ..
  show _ ∧ _
  rw [hz]
  have he : IsEnum ((s.heap.push { cls := .type "tuple_iterator", data := .fields #[.ref l, .int 0 0] }).push
      { cls := .type "enumerate", data := .fields #[.none, .bool false, .ref s.heap.objs.size, rawInt 0, .none, .none] }) (s.heap.objs.size + 1) s.heap.objs.size 0 .none := by
    have := Heap.get?_push_size (s.heap.push { cls := .type "tuple_iterator", data := .fields #[.ref l, .int 0 0] })
      (o := { cls := .type "enumerate", data := .fields #[.none, .bool false, .ref s.heap.objs.size, rawInt 0, .none, .none] }) rfl
    rw [hz] at this; exact this
  refine ⟨⟨_, he, rfl⟩, h _ he ⟨_, Heap.get?_push_of_some _ (Heap.get?_push_size _ rfl), rfl, rfl⟩ (by rw [Heap.size_push, hz]) fun b o x => Heap.get?_push_of_some _ (Heap.get?_push_of_some _ x)⟩
end

/-! A loop by an invariant over the frame's map and the ledger; the iterator's own objects apart; any else-block. -/

theorem objsAt {h : Heap} : ∀ {ws : List Addr}, (∀ b ∈ ws, ∃ o, h.get? b = some o) → ∃ its : List (Addr × Obj), its.map (·.1) = ws ∧ ∀ p ∈ its, h.get? p.1 = some p.2
  | [], _ => ⟨[], rfl, fun _ hp => nomatch hp⟩
  | b :: r, hb => by
    obtain ⟨o, ho⟩ := hb b (.head _)
    obtain ⟨its, e, hits⟩ := objsAt (ws := r) fun c hc => hb c (.tail _ hc)
    refine ⟨(b, o) :: its, by simp [e], fun p hp => ?_⟩
    rcases List.mem_cons.mp hp with rfl | hp
    · exact ho
    · exact hits p hp

theorem one_of {its : List (Addr × Obj)} {a : Addr} (h : its.map (·.1) = [a]) : ∃ o, its = [(a, o)] := by
  cases its with
  | nil => cases h
  | cons p r =>
    cases r with
    | nil => obtain ⟨b, o⟩ := p; simp at h; subst h; exact ⟨o, rfl⟩
    | cons q r => simp at h
theorem two_of {its : List (Addr × Obj)} {a b : Addr} (h : its.map (·.1) = [a, b]) : ∃ o o', its = [(a, o), (b, o')] := by
  cases its with
  | nil => cases h
  | cons p r =>
    obtain ⟨c, o⟩ := p
    simp at h
    obtain ⟨rfl, h⟩ := h
    obtain ⟨o', rfl⟩ := one_of (its := r) (a := b) (by simpa using h)
    exact ⟨o, o', rfl⟩

def StepEnd (h₀ : Heap) (L : Addr) (ws : List Addr) (its : List (Addr × Obj)) (s : Shared) (Jn : (Str → Option Value) → List (Addr × Obj) → Prop) (s₃ : Shared) : Prop :=
  ∃ h' tk m₂ news₂, s₃ = { s with heap := h', toks := tk } ∧ Fr h₀ L h' m₂ ∧ News h₀ L h' (its ++ news₂) ∧ (∀ p ∈ news₂, p.1 ∉ ws) ∧ Jn m₂ news₂

def StepPost (h₀ : Heap) (L : Addr) (ws : List Addr) (its : List (Addr × Obj)) (s : Shared) (Jn : (Str → Option Value) → List (Addr × Obj) → Prop) (Q : Flow → Shared → Prop) (f : Flow) (s₃ : Shared) : Prop :=
  match f with
  | .ret v => Q (.ret v) s₃
  | .brk => Q .next s₃
  | .cont => StepEnd h₀ L ws its s Jn s₃
  | .next => StepEnd h₀ L ws its s Jn s₃

theorem my_loop {prog : Program} {w : World} {A : Around} {E : Value → Shared → Prop} {s : Shared} {env : Env} {h₀ : Heap} {target : Expr} {body orelse : List Stmt} {Q : Flow → Shared → Prop}
    {I : Addr} {fp wr : List Addr} {ws : List Addr} {n : Nat} {P Md : Nat → Value → Heap → Prop} {St : Nat → Heap → Prop} {m : Str → Option Value} {news : List (Addr × Obj)}
    (W : KTurns prog w A target I fp wr n P Md St)
    (hfp : ∀ b ∈ fp, b ∈ ws ∨ ∃ o, h₀.get? b = some o) (hwr : ∀ b ∈ wr, b ∈ ws) (hws : ∀ b ∈ ws, h₀.get? b = none ∧ b ≠ env.locals)
    (hob : ∀ i h, St i h → ∀ b ∈ ws, ∃ o, h.get? b = some o)
    (hnw : ∀ p ∈ news, p.1 ∉ ws) (hst : St 0 s.heap) (F : Fr h₀ env.locals s.heap m) (N : News h₀ env.locals s.heap news)
    (J : Nat → (Str → Option Value) → List (Addr × Obj) → Prop) (h0 : J 0 m news)
    (step : ∀ i v m₁ news₁ h₁ tk₁ its, i < n → P i v h₁ → J i m₁ news₁ → (∀ p ∈ news₁, p.1 ∉ ws) → its.map (·.1) = ws → Fr h₀ env.locals h₁ m₁ → News h₀ env.locals h₁ (its ++ news₁) →
      wpAny (model prog w) A (assign target env v) (fun _ s₂ => wpAny (model prog w) A (execs body env)
        (StepPost h₀ env.locals ws its s (J (i + 1)) Q) E s₂) E { s with heap := h₁, toks := tk₁ })
    (done : ∀ h' tk m' news', Fr h₀ env.locals h' m' → News h₀ env.locals h' news' → (∀ p ∈ news', p.1 ∉ ws) → J n m' news' → wpAny (model prog w) A (execs orelse env) Q E { s with heap := h', toks := tk })
    (hE : PassesOwn (model prog w) A env E) :
    codeAny (model prog w) A (.forLoop target (.ref I) body orelse env) (fun r s' => match r with | .ok f => Q f s' | .error e => cameBackBy (model prog w) A env E e s') s := by
  have hLw : env.locals ∉ wr := fun h => (hws _ (hwr _ h)).2 rfl
  have old : ∀ b o, h₀.get? b = some o → b ∉ wr := fun b o e hb => by rw [(hws b (hwr b hb)).1] at e; cases e
  have nw : ∀ b, b ∉ ws → b ∉ wr := fun b hb h => hb (hwr b h)
  refine codeAny_forLoop_any
    (fun k s' => ∃ h' tk m' news' i, s' = { s with heap := h', toks := tk } ∧ St i h' ∧ Fr h₀ env.locals h' m' ∧ News h₀ env.locals h' news' ∧ (∀ p ∈ news', p.1 ∉ ws) ∧ J i m' news' ∧ i ≤ n ∧ k = n + 1 - i) ?_ (n + 1)
    ⟨s.heap, s.toks, m, news, 0, rfl, hst, F, N, hnw, h0, Nat.zero_le _, rfl⟩
  rintro k s' ⟨h', tk, m', news', i, rfl, hst', F', N', hnw', hJ, hi, rfl⟩
  have next : ∀ h₁ : Heap, (∀ b o, b ∉ wr → h'.get? b = some o → h₁.get? b = some o) → Fr h₀ env.locals h₁ m' ∧ News h₀ env.locals h₁ news' := fun h₁ hk₁ =>
    ⟨⟨F'.ns.at' fun o e => hk₁ _ o hLw e, fun b o e => hk₁ b o (old b o e) (F'.keep b o e), F'.above⟩, fun p hp => ⟨hk₁ _ _ (nw _ (hnw' p hp)) (N' p hp).1, (N' p hp).2⟩⟩
  by_cases hlt : i < n
  · refine W.item i _ _ _ hlt hst' fun v h₁ tk₁ hMd hk₁ => ?_
    refine W.go i v _ _ _ hMd fun h₂ hP hst₂ hk₂ => ?_
    obtain ⟨F₂, N₂⟩ := next h₂ fun b o hb x => hk₂ b o hb (hk₁ b o hb x)
    obtain ⟨its, hits, hat⟩ := objsAt (hob _ _ hst₂)
    have Nits : News h₀ env.locals h₂ (its ++ news') := fun p hp => by
      rcases List.mem_append.mp hp with hp | hp
      · have hb : p.1 ∈ ws := hits ▸ List.mem_map.mpr ⟨p, hp, rfl⟩
        exact ⟨hat p hp, (hws _ hb).2, (hws _ hb).1⟩
      · exact N₂ p hp
    have fin : ∀ s₃, StepEnd h₀ env.locals ws its s (J (i + 1)) s₃ → ∃ k', k' < n + 1 - i ∧ ∃ h' tk m' news' i, s₃ = { s with heap := h', toks := tk } ∧ St i h' ∧ Fr h₀ env.locals h' m' ∧ News h₀ env.locals h' news' ∧ (∀ p ∈ news', p.1 ∉ ws) ∧ J i m' news' ∧ i ≤ n ∧ k' = n + 1 - i := by
      rintro s₃ ⟨h₃, tk₃, m₃, news₃, rfl, F₃, N₃, ha₃, hJ₃⟩
      refine ⟨n + 1 - (i + 1), by omega, h₃, tk₃, m₃, news₃, i + 1, rfl, ?_, F₃, fun p hp => N₃ p (List.mem_append_right _ hp), ha₃, hJ₃, hlt, rfl⟩
      refine W.frame _ _ _ hst₂ fun b hb o e => ?_
      rcases hfp b hb with hb | ⟨o₀, ho₀⟩
      · obtain ⟨p, hp, rfl⟩ := List.mem_map.mp (hits ▸ hb)
        have q := hat p hp
        rw [e] at q
        cases q
        exact (N₃ p (List.mem_append_left _ hp)).1
      · have q := F₂.keep b o₀ ho₀
        rw [e] at q
        cases q
        exact F₃.keep b o ho₀
    refine wpAny_mono (step i v m' news' h₂ tk₁ its hlt hP hJ hnw' hits F₂ Nits) (fun _ s₂ h₂' => wpAny_mono h₂' (fun f s₃ h₃ => ?_) hE) hE
    cases f with
    | ret v => exact h₃
    | brk => exact h₃
    | cont => exact fin s₃ h₃
    | next => exact fin s₃ h₃
  · have hin : i = n := by omega
    subst hin
    refine W.done _ _ _ hst' fun h₁ tk₁ hk₁ => ?_
    obtain ⟨F₁, N₁⟩ := next h₁ hk₁
    exact wpAny_mono (done h₁ tk₁ m' news' F₁ N₁ hnw' hJ) (fun _ _ x => x) hE

/-- the answer of a loop's statement -/
abbrev LoopR (prog : Program) (w : World) (A : Around) (env : Env) (Q : Flow → Shared → Prop) (E : Value → Shared → Prop) : Result → Shared → Prop :=
  fun r s' => match r with | .ok f => Q f s' | .error e => cameBackBy (model prog w) A env E e s'

section
variable {prog : Program} {w : World} {A : Around} {E : Value → Shared → Prop} {s : Shared} {env : Env} {h₀ : Heap} {target : Expr} {body orelse : List Stmt} {Q : Flow → Shared → Prop} {m : Str → Option Value} {news : List (Addr × Obj)}

theorem base_new {L b : Addr} {h : Heap} (F : Fr h₀ L h m) (hb : h.objs.size ≤ b) : h₀.get? b = none := by
  cases e : h₀.get? b with
  | none => rfl
  | some o => exact absurd (Heap.lt_size (F.keep _ _ e)) (Nat.not_lt.mpr hb)

/-- over a tuple of the ground -/
theorem iter_tuple {T : Addr} {items : Array Value} (hh : A.handled = none) (hT : h₀.IsTuple T items) (F : Fr h₀ env.locals s.heap m) (N : News h₀ env.locals s.heap news)
    (J : Nat → (Str → Option Value) → List (Addr × Obj) → Prop) (h0 : J 0 m news)
    (step : ∀ i v m₁ news₁ h₁ tk₁ I o, items[i]? = some v → J i m₁ news₁ → (∀ p ∈ news₁, p.1 ≠ I) → Fr h₀ env.locals h₁ m₁ → News h₀ env.locals h₁ ((I, o) :: news₁) → (∀ p ∈ news, p.1 < I) →
      wpAny (model prog w) A (assign target env v) (fun _ s₂ => wpAny (model prog w) A (execs body env)
        (StepPost h₀ env.locals [I] [(I, o)] s (J (i + 1)) Q) E s₂) E { s with heap := h₁, toks := tk₁ })
    (done : ∀ h' tk m' news', Fr h₀ env.locals h' m' → News h₀ env.locals h' news' → J items.size m' news' → wpAny (model prog w) A (execs orelse env) Q E { s with heap := h', toks := tk })
    (hE : PassesOwn (model prog w) A env E) :
    wpAny (model prog w) A (pyIter (.ref T)) (fun it s₂ => codeAny (model prog w) A (.forLoop target it body orelse env) (LoopR prog w A env Q E) s₂) E s := by
  obtain ⟨oT, hoT, hcT, nT, hdT⟩ := id hT
  have hTs : s.heap.IsTuple T items := ⟨oT, F.keep _ _ hoT, hcT, nT, hdT⟩
  have hlt : T < s.heap.objs.size := Heap.lt_size (F.keep _ _ hoT)
  have hne : T ≠ s.heap.objs.size := Nat.ne_of_lt hlt
  have hLs : env.locals < s.heap.objs.size := F.ns.lt
  refine wpAny_pyIter_tuple hTs ?_
  refine my_loop (s := { s with heap := s.heap.push _ }) (ws := [s.heap.objs.size]) (KTurns.ofWalks (Walks.tuple hh s.heap.objs.size T hne items) fun i v s Q E st q => letGo_tupleiter st.1 q) ?_ ?_ ?_ ?_ ?_ ?_ (F.push _) (fun p hp => ⟨Heap.get?_push_of_some _ (N p hp).1, (N p hp).2⟩) J h0 ?_ ?_ hE
  · intro b hb
    have hb' : b = s.heap.objs.size ∨ b = T := by simpa using hb
    rcases hb' with rfl | rfl
    · exact .inl (by simp)
    · exact .inr ⟨oT, hoT⟩
  · intro b hb; simpa using hb
  · intro b hb
    have hb' : b = s.heap.objs.size := by simpa using hb
    subst hb'
    exact ⟨base_new F (Nat.le_refl _), Nat.ne_of_gt hLs⟩
  · rintro i h ⟨⟨o, ho, _⟩, _⟩ b hb
    have hb' : b = s.heap.objs.size := by simpa using hb
    subst hb'
    exact ⟨o, ho⟩
  · intro p hp hI
    have hb' : p.1 = s.heap.objs.size := by simpa using hI
    exact absurd (Heap.lt_size (N p hp).1) (hb' ▸ Nat.lt_irrefl _)
  · exact ⟨⟨_, Heap.get?_push_size _ rfl, rfl, rfl⟩, hTs.push _⟩
  · intro i v m₁ news₁ h₁ tk₁ its hi hP hJ hoff hits F₁ N₁
    obtain ⟨o, rfl⟩ := one_of hits
    exact step i v m₁ news₁ h₁ tk₁ _ o hP hJ (fun p hp e => hoff p hp (by simp [e])) F₁ N₁ fun p hp => Heap.lt_size (N p hp).1
  · intro h' tk m' news' F' N' _ hJ
    exact done h' tk m' news' F' N' hJ

/-- over enumerate of a tuple of the ground -/
theorem iter_enumTuple {elts : List Expr} {k : Nat} {pos : Pos} {T : Addr} {items : Array Value} (hh : A.handled = none) (hT : h₀.IsTuple T items) (F : Fr h₀ env.locals s.heap m) (N : News h₀ env.locals s.heap news)
    (J : Nat → (Str → Option Value) → List (Addr × Obj) → Prop) (h0 : J 0 m news)
    (step : ∀ i v t U m₁ news₁ h₁ tk₁ e oe I o, items[i]? = some v → J i m₁ news₁ → (∀ p ∈ news₁, p.1 ≠ e ∧ p.1 ≠ I) → IsTup h₁ U #[.int (i : Int) t, v] → Fr h₀ env.locals h₁ m₁ → News h₀ env.locals h₁ ((e, oe) :: (I, o) :: news₁) → (∀ p ∈ news, p.1 < I) → I < e →
      wpAny (model prog w) A (assign (.Tuple elts k pos) env (.ref U)) (fun _ s₂ => wpAny (model prog w) A (execs body env)
        (StepPost h₀ env.locals [e, I] [(e, oe), (I, o)] s (J (i + 1)) Q) E s₂) E { s with heap := h₁, toks := tk₁ })
    (done : ∀ h' tk m' news', Fr h₀ env.locals h' m' → News h₀ env.locals h' news' → J items.size m' news' → wpAny (model prog w) A (execs orelse env) Q E { s with heap := h', toks := tk })
    (hE : PassesOwn (model prog w) A env E) :
    wpAny (model prog w) A (call (.type "enumerate") [.ref T]) (fun xv s₁ => wpAny (model prog w) A (pyIter xv) (fun it s₂ => codeAny (model prog w) A (.forLoop (.Tuple elts k pos) it body orelse env) (LoopR prog w A env Q E) s₂) E s₁) E s := by
  obtain ⟨oT, hoT, hcT, nT, hdT⟩ := id hT
  have hTs : s.heap.IsTuple T items := ⟨oT, F.keep _ _ hoT, hcT, nT, hdT⟩
  have hlt : T < s.heap.objs.size := Heap.lt_size (F.keep _ _ hoT)
  have hLs : env.locals < s.heap.objs.size := F.ns.lt
  refine call_enumerate_tuple hTs fun h' hE' hI hsz hk => ?_
  refine wpAny_pyIter_enum hE' ?_
  have hne1 : T ≠ s.heap.objs.size := Nat.ne_of_lt hlt
  have hne2 : s.heap.objs.size + 1 ≠ T := Nat.ne_of_gt (Nat.lt_succ_of_lt hlt)
  refine my_loop (s := { s with heap := h' }) (ws := [s.heap.objs.size + 1, s.heap.objs.size])
    (KTurns.ofWalksU (WalksT.enumerateD (A := A) (drawsTuple (A := A.in1) hh s.heap.objs.size T hne1 items) (s.heap.objs.size + 1) (Nat.succ_ne_self _) (by simp [hne2]) (by simp)).toU)
    ?_ ?_ ?_ ?_ ?_ ?_ (F.keeps hk) (N.grown hk) J h0 ?_ ?_ hE
  · intro b hb
    have hb' : b = s.heap.objs.size + 1 ∨ b = s.heap.objs.size ∨ b = T := by simpa using hb
    rcases hb' with rfl | rfl | rfl
    · exact .inl (by simp)
    · exact .inl (by simp)
    · exact .inr ⟨oT, hoT⟩
  · intro b hb; simpa using hb
  · intro b hb
    have hb' : b = s.heap.objs.size + 1 ∨ b = s.heap.objs.size := by simpa using hb
    rcases hb' with rfl | rfl
    · exact ⟨base_new F (Nat.le_succ _), Nat.ne_of_gt (Nat.lt_succ_of_lt hLs)⟩
    · exact ⟨base_new F (Nat.le_refl _), Nat.ne_of_gt hLs⟩
  · rintro i h ⟨⟨old, he⟩, ⟨o, ho, _⟩, _⟩ b hb
    have hb' : b = s.heap.objs.size + 1 ∨ b = s.heap.objs.size := by simpa using hb
    rcases hb' with rfl | rfl
    · exact ⟨_, he⟩
    · exact ⟨o, ho⟩
  · intro p hp hI
    have hb' : p.1 = s.heap.objs.size + 1 ∨ p.1 = s.heap.objs.size := by simpa using hI
    have := Heap.lt_size (N p hp).1
    rcases hb' with e | e
    · exact absurd (e ▸ this : s.heap.objs.size + 1 < s.heap.objs.size) (Nat.not_lt.mpr (Nat.le_succ _))
    · exact absurd (e ▸ this : s.heap.objs.size < s.heap.objs.size) (Nat.lt_irrefl _)
  · exact ⟨⟨.none, hE'⟩, hI, hTs.at fun o e => hk T o e⟩
  · intro i v m₁ news₁ h₁ tk₁ its hi hP hJ hoff hits F₁ N₁
    obtain ⟨U, vals, rfl, ⟨t, x, hx, rfl⟩, hU⟩ := hP
    obtain ⟨oe, o, rfl⟩ := two_of hits
    exact step i x t U m₁ news₁ h₁ tk₁ _ oe _ o hx hJ (fun p hp => ⟨fun e => hoff p hp (by simp [e]), fun e => hoff p hp (by simp [e])⟩) hU F₁ N₁ (fun p hp => Heap.lt_size (N p hp).1) (Nat.lt_succ_self _)
  · intro h' tk m' news' F' N' _ hJ
    exact done h' tk m' news' F' N' hJ
end

/-- a call of a def of the text, its ground the whole heap: what the caller has made stands, by the heap's growing alone -/
theorem call_pure {prog : Program} {w : World} {A A₀ : Around} {E : Value → Shared → Prop} {s : Shared} {K : Frag} {L : Addr} {h₀ base : Heap} {m mg mb : Str → Option Value} {p : Program} {loose : List Str} {mean : ExcName → Option Value} {Q : Value → Shared → Prop}
    {env : Env} {outer : List Env} {name qual : Str} {params : Arguments} {body : List Stmt} {scope : Scope} {dV kV doc pm cdv ct oc : Value} {an od : Option Addr} {osl : Array (Option Value)} {f : Addr} {vals : List Value} {binds : List (Str × Value)}
    (B : Below A₀ base outer h₀) (F : Fr h₀ L s.heap m) (X₀ : K.In h₀) (T : Top p loose mean mg mb h₀) (hA : A.frames = some (env :: outer)) (hf : env.frame = some L) (hke : env.scope.kind = .function)
    (ho : K.lookup f = some ⟨oc, od, .func (fnOf name qual params body scope dV kV doc pm an cdv ct), osl⟩) (hcd : codeIn K cdv qual = true) (hroom : A.depth < recursionLimit)
    (hbind : BindsTo s (fnOf name qual params body scope dV kV doc pm an cdv ct) ⟨vals, []⟩ binds) (hloc : ∀ y ∈ binds, scope.names.lookup y.1 = some .local)
    (h : ∀ L' h₁, Fr s.heap L' h₁ (fun y => binds.reverse.lookup y) → News s.heap L' h₁ [] → Below A base (env :: outer) s.heap → K.In s.heap → Top p loose mean mg mb s.heap →
      wpAny (model prog w) (A.deeper (envOf qual scope L' f cdv)) (execs body (envOf qual scope L' f cdv))
        (fun fl s' => Q (match fl with | .ret v => v | _ => .none) s') (fun _ _ => False) { s with heap := h₁, toks := s.toks + binds.length })
    (hco : scope.isCoroutine = false) (hgen : scope.isGenerator = false) (hk : scope.kind = .function)
    (hcell : ∀ x ∈ scope.names, x.2 ≠ .cell) : wpAny (model prog w) A (call (.ref f) vals) Q E s := by
  refine wpAny_call ?_
  obtain ⟨FG, BG, st, lv⟩ := groundX (R := fun _ _ => True) B F (News.nil (h₀ := h₀) (L := L)) hA hf hke
  have st' : h₀.StaysIn s.heap := st
  refine codeAny_call_def (fd := fnOf name qual params body scope dV kV doc pm an cdv ct) (body := body) (binds := binds) hroom ((X₀.keeps F.keep) _ _ ho) rfl (T.nolimit.keeps F.keep) (codeRec_of (X₀.keeps F.keep) hcd) rfl hbind hcell hloc (fun h₁ hns hk₁ => ?_) hco hgen hk
  exact wpAny_mono (h s.heap.objs.size h₁ ⟨hns, hk₁, Nat.le_refl _⟩ News.nil BG (X₀.keeps F.keep) (T.keeps st')) (fun fl s' hl => hl) fun _ _ x => x.elim
/-- the first sign whose test holds -/
def pick (test : Int → Bool) (dflt : Str) : List (Int × Str) → Str
  | [] => dflt
  | (b, c) :: r => if test b then c else pick test dflt r
def pickTest (x : Int) (i : Nat) (b : Int) : Bool := if i = 0 then decide (Builtin.bitAnd x 61440 = b) else decide (Builtin.bitAnd x b = b)
def pickDflt (i : Nat) : Str := if i = 0 then Str.ofString "?" else Str.ofString "-"
def fmTab : List (List (Int × Str)) :=
  [[(40960, Str.ofString "l"), (49152, Str.ofString "s"), (32768, Str.ofString "-"), (24576, Str.ofString "b"), (16384, Str.ofString "d"), (8192, Str.ofString "c"), (4096, Str.ofString "p")],
   [(256, Str.ofString "r")], [(128, Str.ofString "w")], [(2112, Str.ofString "s"), (2048, Str.ofString "S"), (64, Str.ofString "x")],
   [(32, Str.ofString "r")], [(16, Str.ofString "w")], [(1032, Str.ofString "s"), (1024, Str.ofString "S"), (8, Str.ofString "x")],
   [(4, Str.ofString "r")], [(2, Str.ofString "w")], [(513, Str.ofString "t"), (512, Str.ofString "T"), (1, Str.ofString "x")]]
def fmSign (x : Int) (i : Nat) : Str := pick (pickTest x i) (pickDflt i) (fmTab.getD i [])
def fmSigns (x : Int) : List Str := (List.range 10).map (fmSign x)
def fmText (x : Int) : Str := Txt.join (Str.ofString "") (fmSigns x)

theorem fmSigns_take (x : Int) (i : Nat) (hi : i < 10) : (fmSigns x).take (i + 1) = (fmSigns x).take i ++ [fmSign x i] := by
  have : (fmSigns x)[i]? = some (fmSign x i) := by simp [fmSigns, hi]
  rw [List.take_add_one, this]; rfl
theorem fmSigns_length (x : Int) : (fmSigns x).length = 10 := by simp [fmSigns]

/-- a tuple that the written part holds -/
def tupIn (K : Frag) (a : Addr) : Option (List Value) := match K.lookup a with
  | some ⟨.type "tuple", _, .seq xs _, _⟩ => some xs.toList
  | _ => none
theorem tupIn_is {K : Frag} {h : Heap} (X : K.In h) {a : Addr} {vs : List Value} (e : tupIn K a = some vs) : h.IsTuple a vs.toArray := by
  unfold tupIn at e
  split at e
  · rename_i d xs n sl q
    cases e
    exact ⟨_, X _ _ q, rfl, n, by simp⟩
  · cases e

/-- a row of the table: its pairs' places and what they hold -/
def RowIs (h : Heap) (T : Addr) (ps : List (Addr × Int × Str)) : Prop :=
  h.IsTuple T (ps.map fun q => Value.ref q.1).toArray ∧ ∀ q ∈ ps, ∃ t u, h.IsTuple q.1 #[.int q.2.1 t, .str q.2.2 u]
def TabIs (h : Heap) (T : Addr) (rows : List (Addr × List (Addr × Int × Str))) : Prop :=
  h.IsTuple T (rows.map fun r => Value.ref r.1).toArray ∧ (∀ r ∈ rows, RowIs h r.1 r.2) ∧ rows.map (fun r => r.2.map (·.2)) = fmTab
def rowIn (K : Frag) (T : Addr) (ps : List (Addr × Int × Str)) : Prop :=
  tupIn K T = some (ps.map fun q => Value.ref q.1) ∧ ∀ q ∈ ps, ∃ t u, tupIn K q.1 = some [.int q.2.1 t, .str q.2.2 u]
theorem RowIs.of {K : Frag} {h : Heap} (X : K.In h) {T : Addr} {ps : List (Addr × Int × Str)} (e : rowIn K T ps) : RowIs h T ps := by
  refine ⟨tupIn_is X e.1, fun q hq => ?_⟩
  obtain ⟨t, u, e⟩ := e.2 q hq
  exact ⟨t, u, tupIn_is X e⟩
theorem TabIs.of {K : Frag} {h : Heap} (X : K.In h) {T : Addr} {rows : List (Addr × List (Addr × Int × Str))} (e : tupIn K T = some (rows.map fun r => Value.ref r.1)) (e' : ∀ r ∈ rows, rowIn K r.1 r.2) (e'' : rows.map (fun r => r.2.map (·.2)) = fmTab) : TabIs h T rows :=
  ⟨tupIn_is X e, fun r hr => .of X (e' r hr), e''⟩
theorem TabIs.keeps {h h' : Heap} {T : Addr} {rows : List (Addr × List (Addr × Int × Str))} (x : TabIs h T rows) (k : ∀ b o, h.get? b = some o → h'.get? b = some o) : TabIs h' T rows := by
  have up : ∀ {a vs}, h.IsTuple a vs → h'.IsTuple a vs := fun ⟨o, ho, r⟩ => ⟨o, k _ _ ho, r⟩
  refine ⟨up x.1, fun r hr => ⟨up (x.2.1 r hr).1, fun q hq => ?_⟩, x.2.2⟩
  obtain ⟨t, u, e⟩ := (x.2.1 r hr).2 q hq
  exact ⟨t, u, up e⟩
theorem TabIs.item {h : Heap} {T : Addr} {rows : List (Addr × List (Addr × Int × Str))} (x : TabIs h T rows) {i : Nat} {v : Value} (e : (rows.map fun r => Value.ref r.1).toArray[i]? = some v) :
    ∃ S ps, v = .ref S ∧ RowIs h S ps ∧ fmTab.getD i [] = ps.map (·.2) ∧ i < 10 := by
  have e' : rows[i]?.map (fun r => Value.ref r.1) = some v := by simpa using e
  obtain ⟨r, hr, rfl⟩ := Option.map_eq_some_iff.mp e'
  have h10 : rows.length = 10 := by have := congrArg List.length x.2.2; simpa [fmTab] using this
  refine ⟨r.1, r.2, rfl, x.2.1 r (List.mem_of_getElem? hr), ?_, ?_⟩
  · rw [← x.2.2]; simp [List.getD, hr]
  · have := (List.getElem?_eq_some_iff.mp hr).1; omega

theorem chain2 {m : Str → Option Value} {a b : Str} {u v : Value} (h1 : m a = some u) (h2 : m b = some v) : m = fun y => if y = a then some u else if y = b then some v else m y := by
  funext y; split
  · subst_vars; exact h1
  · split
    · subst_vars; exact h2
    · rfl
theorem chain3 {m : Str → Option Value} {a b c : Str} {u v w : Value} (h1 : m a = some u) (h2 : m b = some v) (h3 : m c = some w) : m = fun y => if y = a then some u else if y = b then some v else if y = c then some w else m y := by
  funext y; split
  · subst_vars; exact h1
  · split
    · subst_vars; exact h2
    · split
      · subst_vars; exact h3
      · rfl
theorem pick_skip {test : Int → Bool} {d : Str} {l : List (Int × Str)} : ∀ {i : Nat}, (∀ j q, j < i → l[j]? = some q → test q.1 = false) → pick test d l = pick test d (l.drop i) := by
  induction l with
  | nil => intro i _; simp
  | cons p r ih =>
    intro i h
    cases i with
    | zero => rfl
    | succ i =>
      obtain ⟨b, c⟩ := p
      have h0 := h 0 (b, c) (Nat.succ_pos _) rfl
      rw [List.drop_succ_cons, ← ih (i := i) fun j q hj hq => h (j + 1) q (Nat.succ_lt_succ hj) (by simpa using hq)]
      simp [pick, h0]

theorem step_next {h₀ : Heap} {L : Addr} {ws : List Addr} {its : List (Addr × Obj)} {s : Shared} {Jn : (Str → Option Value) → List (Addr × Obj) → Prop} {Q : Flow → Shared → Prop} {h' : Heap} {tk : Nat} {m₂ : Str → Option Value} {news₂ : List (Addr × Obj)}
    (F : Fr h₀ L h' m₂) (N : News h₀ L h' (its ++ news₂)) (hoff : ∀ p ∈ news₂, p.1 ∉ ws) (hJ : Jn m₂ news₂) : StepPost h₀ L ws its s Jn Q .next { s with heap := h', toks := tk } :=
  ⟨h', tk, m₂, news₂, rfl, F, N, hoff, hJ⟩
theorem news_tail {h₀ h : Heap} {L : Addr} {p : Addr × Obj} {l : List (Addr × Obj)} (N : News h₀ L h (p :: l)) : News h₀ L h l := fun q hq => N q (.tail _ hq)
theorem pick_at {test : Int → Bool} {d : Str} {l : List (Int × Str)} {i : Nat} {b : Int} {c : Str} (h : ∀ j q, j < i → l[j]? = some q → test q.1 = false) (hi : l[i]? = some (b, c)) (ht : test b = true) : pick test d l = c := by
  rw [pick_skip h]
  have : l.drop i = (b, c) :: l.drop (i + 1) := by
    obtain ⟨hlt, e⟩ := List.getElem?_eq_some_iff.mp hi
    rw [List.drop_eq_getElem_cons hlt, e]
  rw [this]
  simp [pick, ht]
theorem pick_none {test : Int → Bool} {d : Str} {l : List (Int × Str)} (h : ∀ j q, j < l.length → l[j]? = some q → test q.1 = false) : pick test d l = d := by
  rw [pick_skip h]; simp [pick]
/-- one more sign -/
theorem sign_more {x : Int} {i : Nat} {vs : List Value} {ps : List (Addr × Int × Str)} {c : Str} {t : Tok} (hvs : StrsAre vs ((fmSigns x).take i)) (hi : i < 10) (htab : fmTab.getD i [] = ps.map (·.2)) (hc : pick (pickTest x i) (pickDflt i) (ps.map (·.2)) = c) :
    StrsAre (vs ++ [.str c t]) ((fmSigns x).take (i + 1)) := by
  rw [fmSigns_take x i hi]
  refine hvs.append' ?_
  have : fmSign x i = c := by unfold fmSign; rw [htab, hc]
  rw [this]
  exact .cons c t .nil
theorem map_at {ps : List (Addr × Int × Str)} {j : Nat} {q : Int × Str} (h : (ps.map (·.2))[j]? = some q) : ∃ a, ps[j]? = some (a, q) := by
  have : ps[j]?.map (·.2) = some q := by simpa using h
  obtain ⟨r, hr, rfl⟩ := Option.map_eq_some_iff.mp this
  exact ⟨r.1, hr⟩
theorem sign_hit {x : Int} {i j : Nat} {ps : List (Addr × Int × Str)} {a : Addr} {b : Int} {c : Str} (hno : ∀ k q, k < j → ps[k]? = some q → pickTest x i q.2.1 = false) (hq : ps[j]? = some (a, b, c)) (ht : pickTest x i b = true) :
    pick (pickTest x i) (pickDflt i) (ps.map (·.2)) = c := by
  refine pick_at (i := j) (b := b) (fun k q hk hkq => ?_) (by simp [hq]) ht
  obtain ⟨a', h'⟩ := map_at hkq
  exact hno k _ hk h'
theorem sign_miss {x : Int} {i n : Nat} {ps : List (Addr × Int × Str)} (hn : ps.length ≤ n) (hno : ∀ k q, k < n → ps[k]? = some q → pickTest x i q.2.1 = false) :
    pick (pickTest x i) (pickDflt i) (ps.map (·.2)) = pickDflt i := by
  refine pick_none fun k q hk hkq => ?_
  obtain ⟨a', h'⟩ := map_at hkq
  exact hno k _ (by simp at hk; omega) h'
theorem no_more {x : Int} {i j : Nat} {ps : List (Addr × Int × Str)} {a : Addr} {b : Int} {c : Str} (hno : ∀ k q, k < j → ps[k]? = some q → pickTest x i q.2.1 = false) (hq : ps[j]? = some (a, b, c)) (ht : pickTest x i b = false) :
    ∀ k q, k < j + 1 → ps[k]? = some q → pickTest x i q.2.1 = false := by
  intro k q hk hkq
  rcases Nat.lt_succ_iff_lt_or_eq.mp hk with hk | rfl
  · exact hno k q hk hkq
  · rw [hq] at hkq; cases hkq; exact ht
theorem signs_fit {x : Int} {i : Nat} {vs : List Value} (hvs : StrsAre vs ((fmSigns x).take i)) : vs.toArray.size ≤ sizeLine := by
  have h1 := hvs.length
  have h2 : ((fmSigns x).take i).length ≤ 10 := by rw [List.length_take, fmSigns_length]; omega
  rw [List.size_toArray, h1]
  exact Nat.le_trans h2 (by decide)

theorem off1 {q : Addr × Obj} {l : List (Addr × Obj)} {ws : List Addr} (h : q.1 ∉ ws) (r : ∀ p ∈ l, p.1 ∉ ws) : ∀ p ∈ q :: l, p.1 ∉ ws := by
  intro p hp
  rcases List.mem_cons.mp hp with rfl | hp
  · exact h
  · exact r p hp
theorem off0 {ws : List Addr} : ∀ p ∈ ([] : List (Addr × Obj)), p.1 ∉ ws := fun _ hp => nomatch hp
theorem nmem1 {a b : Nat} {l : List Nat} (h : a ≠ b) (r : a ∉ l) : a ∉ b :: l := by simp [h, r]
theorem nmem0 {a : Nat} : a ∉ ([] : List Nat) := by simp
theorem pick_len {test : Int → Bool} {d : Str} (hd : d.length = 1) : ∀ {l : List (Int × Str)}, (∀ q ∈ l, q.2.length = 1) → (pick test d l).length = 1
  | [], _ => hd
  | (b, c) :: r, h => by
    unfold pick
    split
    · exact h (b, c) (.head _)
    · exact pick_len hd fun q hq => h q (.tail _ hq)
theorem fmTab_len : ∀ i, ∀ q ∈ fmTab.getD i [], q.2.length = 1 := by
  intro i q hq
  have : ∀ r ∈ fmTab, ∀ q ∈ r, q.2.length = 1 := by decide
  rw [List.getD_eq_getElem?_getD] at hq
  cases h : fmTab[i]? with
  | none => rw [h] at hq; simp at hq
  | some r => rw [h] at hq; exact this r (List.mem_of_getElem? h) q (by simpa using hq)
theorem fmSign_len (x : Int) (i : Nat) : (fmSign x i).length = 1 := by
  unfold fmSign
  refine pick_len ?_ (fmTab_len i)
  unfold pickDflt; split <;> decide
theorem fmSigns_weight (x : Int) : ((fmSigns x).map (·.length)).sum + (fmSigns x).length ≤ 1048576 := by
  have : (fmSigns x).map (·.length) = List.replicate 10 1 := by
    simp only [fmSigns, List.map_map]
    rw [List.eq_replicate_iff]
    refine ⟨by simp, ?_⟩
    intro b hb
    simp only [List.mem_map, Function.comp] at hb
    obtain ⟨i, _, rfl⟩ := hb
    exact fmSign_len x i
  rw [this, fmSigns_length]; decide
section
variable {prog : Program} {w : World} {A : Around} {E : Value → Shared → Prop} {s : Shared} {h₀ : Heap} {L l : Addr} {m : Str → Option Value} {news : List (Addr × Obj)} {value slice : PySem.Expr} {vs ws : List Value} {ss ms : List Str} {vl vu : Value} {lo hi : Option Int} {x y : Int} {Q : Value → Shared → Prop}
theorem strs_item {k : Int} {u : Tok} (hl : s.heap.IsList l vs.toArray) (hss : StrsAre vs ss) (h0 : 0 ≤ k) (h1 : k < (ss.length : Int)) (hhi : k < 2 ^ 63) (h : ∀ t, Q (.str (ss.getD k.toNat (Str.ofString "")) t) s)
    (hs : subscripted slice false (.ref l) (.int k u) = operate [.ref l, .int k u] (getItem (.ref l) (.int k u))) :
    wpAny (model prog w) A (subscriptTail value slice (.ref l) (.int k u)) Q E s := by
  have hk : k.toNat < ss.length := by omega
  have hx : ss[k.toNat]? = some (ss.getD k.toNat (Str.ofString "")) := by simp [List.getD, hk]
  obtain ⟨t, ht⟩ := hss.get _ _ hx
  exact tail_any hl.typeIs slot_list_getitem.lookup (wpAny_getItem_list hl h0 hhi (by simpa using ht) (h t)) hs
theorem slice_strs (F : Fr h₀ L s.heap m) (N : News h₀ L s.heap news) (hl : s.heap.IsList l vs.toArray) (pl : IsPart vl lo) (pu : IsPart vu hi) (hm : StrsAre (slicePick vs.toArray lo hi none).toList ms)
    (h : ∀ D ws h', Fr h₀ L h' m → News h₀ L h' ((D, listOf (List.toArray ws) 0) :: news) → (∀ p ∈ news, p.1 < D) → StrsAre ws ms → Q (.ref D) { s with heap := h' })
    (hs : subscripted slice false (.ref l) (.ref s.heap.objs.size) = operate [.ref s.heap.objs.size, .ref l] (getItem (.ref l) (.ref s.heap.objs.size))) (ht : ∀ r, letTemporaryGo value (.ref l) r = pure ()) (hz : vs.toArray.size ≤ sizeLine) :
    wpAny (model prog w) A (subscriptTail value slice (.ref l) (.ref s.heap.objs.size)) Q E { s with heap := s.heap.push { cls := .type "slice", data := .fields #[vl, vu, .none] } } := by
  refine kmk_slice F N hl pl pu (fun D h' F' N' l1 => h D (slicePick vs.toArray lo hi none).toList h' F' ?_ l1 hm) hs ht hz
  rw [Array.toArray_toList]
  exact N'
theorem strs_upto (hi' : StrsAre vs ss) (h : 0 ≤ y) : StrsAre (slicePick vs.toArray none (some y) none).toList (ss.take y.toNat) := by
  have e : sliceBounds none (some y) none vs.toArray.size = (((0 : Nat) : Int), ((min y.toNat vs.toArray.size : Nat) : Int), 1) := by
    simp only [sliceBounds, Option.getD_none, show (1 : Int) > 0 by decide, if_true, if_neg (show ¬ (y < 0) by omega)]
    congr 1
    congr 1
    omega
  rw [kmk_pick_nat _ e]
  show StrsAre ((vs.drop 0).take (min y.toNat vs.toArray.size - 0)) _
  rw [List.drop_zero, Nat.sub_zero, List.size_toArray, kmk_take_min]
  exact hi'.take' _
theorem strs_from (hi' : StrsAre vs ss) (h : 0 ≤ x) : StrsAre (slicePick vs.toArray (some x) none none).toList (ss.drop x.toNat) := by
  have e : sliceBounds (some x) none none vs.toArray.size = (((min x.toNat vs.toArray.size : Nat) : Int), ((vs.toArray.size : Nat) : Int), 1) := by
    simp only [sliceBounds, Option.getD_none, show (1 : Int) > 0 by decide, if_true, if_neg (show ¬ (x < 0) by omega)]
    congr 1
    omega
  rw [kmk_pick_nat _ e]
  show StrsAre ((vs.drop (min x.toNat vs.toArray.size)).take (vs.toArray.size - min x.toNat vs.toArray.size)) _
  rw [List.size_toArray, kmk_drop_min, List.take_of_length_le (by rw [List.length_drop]; omega)]
  exact hi'.drop' _
theorem strs_run (hi' : StrsAre vs ss) (h : 0 ≤ x) (h2 : 0 ≤ y) (h3 : y ≤ (ss.length : Int)) : StrsAre (slicePick vs.toArray (some x) (some y) none).toList ((ss.drop x.toNat).take (y.toNat - x.toNat)) := by
  have hl := hi'.length
  have e : sliceBounds (some x) (some y) none vs.toArray.size = (((min x.toNat vs.toArray.size : Nat) : Int), ((y.toNat : Nat) : Int), 1) := by
    have : vs.toArray.size = ss.length := by rw [List.size_toArray, hl]
    simp only [sliceBounds, Option.getD_none, show (1 : Int) > 0 by decide, if_true, if_neg (show ¬ (x < 0) by omega), if_neg (show ¬ (y < 0) by omega)]
    congr 1
    · omega
    · congr 1
      omega
  rw [kmk_pick_nat _ e]
  show StrsAre ((vs.drop (min x.toNat vs.toArray.size)).take (y.toNat - min x.toNat vs.toArray.size)) _
  rw [List.size_toArray, kmk_drop_min]
  by_cases hx : x.toNat ≤ vs.length
  · rw [Nat.min_eq_left hx]
    exact (hi'.drop' _).take' _
  · rw [List.drop_of_length_le (by omega), List.drop_of_length_le (by omega)]
    simpa using StrsAre.nil
theorem cat_strs {a b : Addr} (F : Fr h₀ L s.heap m) (N : News h₀ L s.heap news) (ha : s.heap.IsList a vs.toArray) (hb : s.heap.IsList b ws.toArray) (hi : StrsAre vs ss) (hj : StrsAre ws ms)
    (h : ∀ D us h', Fr h₀ L h' m → News h₀ L h' ((D, listOf (List.toArray us) 0) :: news) → (∀ p ∈ news, p.1 < D) → StrsAre us (ss ++ ms) → Q (.ref D) { s with heap := h' })
    (hz : ss.length + ms.length ≤ sizeLine) : wpAny (model prog w) A (binaryOp .Add (.ref a) (.ref b)) Q E s := by
  refine add_lists F N ha hb (fun h' F' N' => ?_) (by rw [hi.length, hj.length]; exact hz)
  exact h _ _ h' F' N' (fun p hp => Heap.lt_size (N p hp).1) (hi.append' hj)
theorem strs_fit {n : Nat} (h : StrsAre vs ss) (hl : ss.length = n) (hn : n ≤ 100) : vs.toArray.size ≤ sizeLine := by
  rw [List.size_toArray, h.length, hl]; exact Nat.le_trans hn (by decide)
/-- list of a text's signs -/
theorem list_strN {x0 : Str} {t : Tok} (hh : A.handled = none) (F : Fr h₀ L s.heap m) (N : News h₀ L s.heap news)
    (h : ∀ D ys n h' tk, Fr h₀ L h' m → News h₀ L h' ((D, listOf (List.toArray ys) n) :: news) → (∀ p ∈ news, p.1 < D) → StrsAre ys (signs x0) → Q (.ref D) { s with heap := h', toks := tk }) (hsz : x0.length ≤ sizeLine) :
    wpAny (model prog w) A (call (.type "list") [.str x0 t]) Q E s := by
  refine list_strD (hsz := hsz) hh F N fun h' tk ys F' N' hk hn _ hp hc => ?_
  obtain ⟨⟨n, hD⟩, _⟩ := hp
  refine h _ ys n h' tk F' (fun p hp => ?_) (fun p hp => Heap.lt_size (N p hp).1) (StrsAre.of_carried hc)
  rcases List.mem_cons.mp hp with rfl | hp
  · exact ⟨hD, Nat.ne_of_gt F.ns.lt, hn⟩
  · exact N' p hp
theorem news_more {h h' : Heap} {D : Addr} {o : Obj} (F : Fr h₀ L h m) (N : News h₀ L h' news) (hD : h.get? D = none) (hg : h'.get? D = some o) : News h₀ L h' ((D, o) :: news) := by
  intro p hp
  rcases List.mem_cons.mp hp with rfl | hp
  · refine ⟨hg, fun e => ?_, ?_⟩
    · obtain ⟨o', _, _, ho', _⟩ := F.ns
      have e' : D = L := e
      rw [e', ho'] at hD; cases hD
    · cases e : h₀.get? D with
      | none => rfl
      | some o' => rw [F.keep _ _ e] at hD; cases hD
  · exact N p hp
theorem news_ne {h : Heap} {D : Addr} (N : News h₀ L h news) (hD : h.get? D = none) : ∀ p ∈ news, p.1 ≠ D := by
  intro p hp e
  have := (N p hp).1
  rw [e, hD] at this; cases this
/-- a conditional expression of two written ints, not split -/
theorem ifexp_ints {M : Model} {env : Env} {test : Expr} {a c : Int} {k1 k2 : Nat} {p1 p2 pos : Pos} (h : wpAny M A (isTrue test env (eval test env)) (fun b s₁ => Q (.int (if b = true then a else c) s₁.toks) { s₁ with toks := s₁.toks + 1 }) E s) :
    wpAny M A (eval (.IfExp test (.Constant (.int a) k1 p1) (.Constant (.int c) k2 p2) pos) env) Q E s := by
  refine IfExp_ (wpAny_mono h (fun b s₁ h₁ => ?_) fun _ _ e => e)
  cases b with
  | true => exact wpAny_Constant_int h₁
  | false => exact wpAny_Constant_int h₁
end

section
variable {prog : Program} {w : World} {A : Around} {E : Value → Shared → Prop} {s : Shared} {env : Env} {h₀ : Heap} {target : Expr} {body orelse : List Stmt} {Q : Flow → Shared → Prop} {m : Str → Option Value} {news : List (Addr × Obj)}
/-- over a list of the ground -/
theorem iter_list {T : Addr} {items : Array Value} (hh : A.handled = none) (hT : h₀.IsList T items) (F : Fr h₀ env.locals s.heap m) (N : News h₀ env.locals s.heap news)
    (J : Nat → (Str → Option Value) → List (Addr × Obj) → Prop) (h0 : J 0 m news)
    (step : ∀ i v m₁ news₁ h₁ tk₁ I o, items[i]? = some v → J i m₁ news₁ → (∀ p ∈ news₁, p.1 ≠ I) → Fr h₀ env.locals h₁ m₁ → News h₀ env.locals h₁ ((I, o) :: news₁) → (∀ p ∈ news, p.1 < I) →
      wpAny (model prog w) A (assign target env v) (fun _ s₂ => wpAny (model prog w) A (execs body env)
        (StepPost h₀ env.locals [I] [(I, o)] s (J (i + 1)) Q) E s₂) E { s with heap := h₁, toks := tk₁ })
    (done : ∀ h' tk m' news', Fr h₀ env.locals h' m' → News h₀ env.locals h' news' → J items.size m' news' → wpAny (model prog w) A (execs orelse env) Q E { s with heap := h', toks := tk })
    (hE : PassesOwn (model prog w) A env E) :
    wpAny (model prog w) A (pyIter (.ref T)) (fun it s₂ => codeAny (model prog w) A (.forLoop target it body orelse env) (LoopR prog w A env Q E) s₂) E s := by
  obtain ⟨oT, hoT, hcT, nT, hdT⟩ := id hT
  have hTs : s.heap.IsList T items := ⟨oT, F.keep _ _ hoT, hcT, nT, hdT⟩
  have hlt : T < s.heap.objs.size := Heap.lt_size (F.keep _ _ hoT)
  have hne : T ≠ s.heap.objs.size := Nat.ne_of_lt hlt
  have hLs : env.locals < s.heap.objs.size := F.ns.lt
  refine wpAny_pyIter_list hTs ?_
  refine my_loop (s := { s with heap := s.heap.push _ }) (ws := [s.heap.objs.size]) (KTurns.ofWalks (Walks.list hh s.heap.objs.size T hne items) fun i v s Q E st q => letGo_listiter st.1 q) ?_ ?_ ?_ ?_ ?_ ?_ (F.push _) (fun p hp => ⟨Heap.get?_push_of_some _ (N p hp).1, (N p hp).2⟩) J h0 ?_ ?_ hE
  · intro b hb
    have hb' : b = s.heap.objs.size ∨ b = T := by simpa using hb
    rcases hb' with rfl | rfl
    · exact .inl (by simp)
    · exact .inr ⟨oT, hoT⟩
  · intro b hb; simpa using hb
  · intro b hb
    have hb' : b = s.heap.objs.size := by simpa using hb
    subst hb'
    exact ⟨base_new F (Nat.le_refl _), Nat.ne_of_gt hLs⟩
  · rintro i h ⟨⟨o, ho, _⟩, _⟩ b hb
    have hb' : b = s.heap.objs.size := by simpa using hb
    subst hb'
    exact ⟨o, ho⟩
  · intro p hp hI
    have hb' : p.1 = s.heap.objs.size := by simpa using hI
    exact absurd (Heap.lt_size (N p hp).1) (hb' ▸ Nat.lt_irrefl _)
  · exact ⟨⟨_, Heap.get?_push_size _ rfl, rfl, rfl⟩, hTs.at fun o e => Heap.get?_push_of_some _ e⟩
  · intro i v m₁ news₁ h₁ tk₁ its hi hP hJ hoff hits F₁ N₁
    obtain ⟨o, rfl⟩ := one_of hits
    exact step i v m₁ news₁ h₁ tk₁ _ o hP hJ (fun p hp e => hoff p hp (by simp [e])) F₁ N₁ fun p hp => Heap.lt_size (N p hp).1
  · intro h' tk m' news' F' N' _ hJ
    exact done h' tk m' news' F' N' hJ
end
/-- the body and the scope of a def that the written part holds -/
def fnBody (K : Frag) (a : Addr) : List Stmt := match K.lookup a with
  | some ⟨_, _, .func fd, _⟩ => (match fd.body with | .stmts b => b | _ => [])
  | _ => []
def fnScope (K : Frag) (a : Addr) : Scope := match K.lookup a with
  | some ⟨_, _, .func fd, _⟩ => fd.scope
  | _ => { kind := .function, names := [], isGenerator := false, isCoroutine := false }
/-- the law's end: True, the frame as it is kept -/
def LawEnd (h₀ : Heap) (L : Addr) (s : Shared) (fl : Flow) (s' : Shared) : Prop :=
  fl = .ret (.bool true) ∧ ∃ h' tk m', s' = { s with heap := h', toks := tk } ∧ Fr h₀ L h' m'
def Hold (p : Prop) : Prop := p
theorem execs_cut_at {M : Model} {Γ : Ctx} {E : Value → Pos → Shared → Prop} {env : Env} (P : Shared → Prop) {Q : Flow → Pos → Shared → Prop} : ∀ (n : Nat) {l : List Stmt} {p : Pos} {s : Shared},
    Sem.wp M Γ (execs (l.take n) env) (fun f _ s' => f = .next ∧ P s') E p s → (∀ p' s', P s' → Sem.wp M Γ (execs (l.drop n) env) Q E p' s') → Sem.wp M Γ (execs l env) Q E p s
  | 0, _, p, s, h, k => k p s (show Flow.next = Flow.next ∧ P s from h).2
  | _ + 1, [], p, s, h, k => k p s (show Flow.next = Flow.next ∧ P s from h).2
  | n + 1, a :: r, p, s, h, k => by
    rw [List.take_succ_cons, execs_cons, Sem.wp_bind'] at h
    rw [execs_cons, Sem.wp_bind']
    refine Sem.wp_mono M Γ _ (fun f p' s' h' => ?_) (fun _ _ _ h' => h') _ _ h
    cases f with
    | next => exact execs_cut_at P n h' k
    | ret v => exact absurd (show Flow.ret v = Flow.next ∧ P s' from h').1 (by intro e; cases e)
    | brk => exact absurd (show Flow.brk = Flow.next ∧ P s' from h').1 (by intro e; cases e)
    | cont => exact absurd (show Flow.cont = Flow.next ∧ P s' from h').1 (by intro e; cases e)
/-- the first n statements end in P; the rest goes on from any state of P -/
theorem execs_cut {M : Model} {A : Around} {E : Value → Shared → Prop} {env : Env} {l : List Stmt} {s : Shared} {Q : Flow → Shared → Prop} (n : Nat) (P : Shared → Prop)
    (h : wpAny M A (execs (l.take n) env) (fun f s' => Hold (f = .next ∧ P s')) E s) (k : ∀ s', P s' → wpAny M A (execs (l.drop n) env) Q E s') : wpAny M A (execs l env) Q E s :=
  fun Γ p hΓ => execs_cut_at P n (h Γ p hΓ) fun p' s' hP => k s' hP Γ p' hΓ
theorem chainN {m : Str → Option Value} : ∀ {l : List (Str × Value)}, (∀ q ∈ l, m q.1 = some q.2) → m = fun y => l.foldr (fun q r => if y = q.1 then some q.2 else r) (m y)
  | [], _ => rfl
  | q :: l, h => by
    have ih := chainN (m := m) (l := l) fun r hr => h r (.tail _ hr)
    funext y
    by_cases e : y = q.1
    · simp [List.foldr, e, h q (.head _)]
    · simp only [List.foldr, if_neg e]; exact congrFun ih y
theorem news_pick2 {h₀ h : Heap} {L : Addr} {l : List (Addr × Obj)} {a b : Addr × Obj} (N : News h₀ L h l) (h1 : a ∈ l) (h2 : b ∈ l) : News h₀ L h [a, b] := by
  intro p hp
  rcases List.mem_cons.mp hp with rfl | hp
  · exact N _ h1
  · rw [List.mem_singleton.mp hp]; exact N _ h2
theorem ints_item {vs : List Value} {ns : List Int} (h : IntsAre vs ns) {i : Nat} {v : Value} (hv : vs[i]? = some v) : ∃ x t, x ∈ ns ∧ v = .int x t := by
  have hi : i < ns.length := by rw [← h.length]; exact (List.getElem?_eq_some_iff.mp hv).1
  obtain ⟨t, ht⟩ := h.get i (ns[i]'hi) (List.getElem?_eq_getElem hi)
  rw [hv] at ht
  exact ⟨_, t, List.getElem_mem hi, Option.some.inj ht⟩
theorem nat_and_pow (n k : Nat) : n &&& 2 ^ k = 2 ^ k * (n / 2 ^ k % 2) := by
  have h1 : (n &&& 2 ^ k) / 2 ^ k = n / 2 ^ k % 2 := by
    rw [Nat.and_div_two_pow, Nat.div_self (Nat.two_pow_pos k), Nat.and_one_is_mod]
  have h2 : (n &&& 2 ^ k) % 2 ^ k = 0 := by
    rw [Nat.and_mod_two_pow, Nat.mod_self, Nat.and_zero]
  have h3 := Nat.div_add_mod (n &&& 2 ^ k) (2 ^ k)
  rw [h1, h2] at h3
  omega
theorem nat_and_type (n : Nat) : n &&& 61440 = 4096 * (n / 4096 % 16) := by
  have h1 : (n &&& 61440) / 2 ^ 12 = n / 4096 % 16 := by
    rw [Nat.and_div_two_pow]
    exact Nat.and_two_pow_sub_one_eq_mod (n / 2 ^ 12) 4
  have h2 : (n &&& 61440) % 2 ^ 12 = 0 := by
    rw [Nat.and_mod_two_pow]
    exact Nat.and_zero _
  have h3 := Nat.div_add_mod (n &&& 61440) (2 ^ 12)
  rw [h1, h2] at h3
  omega
theorem bitAnd_type (x : Int) : Builtin.bitAnd x 61440 = 4096 * (x / 4096 % 16) := by
  by_cases hx : 0 ≤ x
  · rw [bitAnd_pp hx (by decide), show (61440 : Int).toNat = 61440 from rfl, nat_and_type]; omega
  · rw [bitAnd_np hx (by decide), show (61440 : Int).toNat = 61440 from rfl, Nat.and_comm, nat_and_type]
    unfold Builtin.bitNot; omega
theorem bitAnd_pow (x : Int) (k : Nat) : Builtin.bitAnd x ((2 ^ k : Nat) : Int) = ((2 ^ k : Nat) : Int) * (x / ((2 ^ k : Nat) : Int) % 2) := by
  have hv : 0 < 2 ^ k := Nat.two_pow_pos k
  generalize hV : 2 ^ k = v at *
  have h : ∀ n : Nat, n &&& v = v * (n / v % 2) := by subst hV; exact fun n => nat_and_pow n k
  by_cases hx : 0 ≤ x
  · obtain ⟨n, rfl⟩ := Int.eq_ofNat_of_zero_le hx
    rw [bitAnd_pp hx (Int.natCast_nonneg _), Int.toNat_natCast, Int.toNat_natCast, h]
    push_cast; rfl
  · rw [bitAnd_np hx (Int.natCast_nonneg _), Int.toNat_natCast, Nat.and_comm, h]
    obtain ⟨n, rfl⟩ : ∃ n : Nat, x = -((n : Int) + 1) := ⟨(-x - 1).toNat, by omega⟩
    have e1 : (Builtin.bitNot (-((n : Int) + 1))).toNat = n := by unfold Builtin.bitNot; omega
    have e2 : (-((n : Int) + 1)) / (v : Int) = -((n : Int) / (v : Int) + 1) := Int.negSucc_ediv n (by omega)
    rw [e1, e2]
    push_cast
    generalize (n : Int) / (v : Int) = q
    have e3 : (-(q + 1)) % 2 = 1 - q % 2 := by omega
    rw [e3, Int.mul_sub, Int.mul_one]
theorem bitAnd_p0 (x : Int) : Builtin.bitAnd x 1 = 1 * (x / 1 % 2) := bitAnd_pow x 0
theorem bitAnd_p1 (x : Int) : Builtin.bitAnd x 2 = 2 * (x / 2 % 2) := bitAnd_pow x 1
theorem bitAnd_p2 (x : Int) : Builtin.bitAnd x 4 = 4 * (x / 4 % 2) := bitAnd_pow x 2
theorem bitAnd_p3 (x : Int) : Builtin.bitAnd x 8 = 8 * (x / 8 % 2) := bitAnd_pow x 3
theorem bitAnd_p4 (x : Int) : Builtin.bitAnd x 16 = 16 * (x / 16 % 2) := bitAnd_pow x 4
theorem bitAnd_p5 (x : Int) : Builtin.bitAnd x 32 = 32 * (x / 32 % 2) := bitAnd_pow x 5
theorem bitAnd_p6 (x : Int) : Builtin.bitAnd x 64 = 64 * (x / 64 % 2) := bitAnd_pow x 6
theorem bitAnd_p7 (x : Int) : Builtin.bitAnd x 128 = 128 * (x / 128 % 2) := bitAnd_pow x 7
theorem bitAnd_p8 (x : Int) : Builtin.bitAnd x 256 = 256 * (x / 256 % 2) := bitAnd_pow x 8
theorem bitAnd_p9 (x : Int) : Builtin.bitAnd x 512 = 512 * (x / 512 % 2) := bitAnd_pow x 9
theorem bitAnd_p10 (x : Int) : Builtin.bitAnd x 1024 = 1024 * (x / 1024 % 2) := bitAnd_pow x 10
theorem bitAnd_p11 (x : Int) : Builtin.bitAnd x 2048 = 2048 * (x / 2048 % 2) := bitAnd_pow x 11
theorem nat_and_2112 (n : Nat) : n &&& 2112 = 2048 * (n / 2048 % 2) + 64 * (n / 64 % 2) := by
  have e : n &&& 2112 = (n &&& 2048) ||| (n &&& 64) := by rw [← Nat.and_or_distrib_left]; rfl
  have h1 := nat_and_pow n 11
  have h2 := nat_and_pow n 6
  simp only [Nat.reducePow] at h1 h2
  rw [e, h1, h2]
  rcases Nat.mod_two_eq_zero_or_one (n / 2048) with q | q <;> rcases Nat.mod_two_eq_zero_or_one (n / 64) with r | r <;> rw [q, r] <;> rfl
theorem bitAnd_2112 (x : Int) : Builtin.bitAnd x 2112 = 2048 * (x / 2048 % 2) + 64 * (x / 64 % 2) := by
  by_cases hx : 0 ≤ x
  · rw [bitAnd_pp hx (by decide), show (2112 : Int).toNat = 2112 from rfl, nat_and_2112]; omega
  · rw [bitAnd_np hx (by decide), show (2112 : Int).toNat = 2112 from rfl, Nat.and_comm, nat_and_2112]
    unfold Builtin.bitNot; omega
theorem nat_and_1032 (n : Nat) : n &&& 1032 = 1024 * (n / 1024 % 2) + 8 * (n / 8 % 2) := by
  have e : n &&& 1032 = (n &&& 1024) ||| (n &&& 8) := by rw [← Nat.and_or_distrib_left]; rfl
  have h1 := nat_and_pow n 10
  have h2 := nat_and_pow n 3
  simp only [Nat.reducePow] at h1 h2
  rw [e, h1, h2]
  rcases Nat.mod_two_eq_zero_or_one (n / 1024) with q | q <;> rcases Nat.mod_two_eq_zero_or_one (n / 8) with r | r <;> rw [q, r] <;> rfl
theorem bitAnd_1032 (x : Int) : Builtin.bitAnd x 1032 = 1024 * (x / 1024 % 2) + 8 * (x / 8 % 2) := by
  by_cases hx : 0 ≤ x
  · rw [bitAnd_pp hx (by decide), show (1032 : Int).toNat = 1032 from rfl, nat_and_1032]; omega
  · rw [bitAnd_np hx (by decide), show (1032 : Int).toNat = 1032 from rfl, Nat.and_comm, nat_and_1032]
    unfold Builtin.bitNot; omega
theorem nat_and_513 (n : Nat) : n &&& 513 = 512 * (n / 512 % 2) + 1 * (n / 1 % 2) := by
  have e : n &&& 513 = (n &&& 512) ||| (n &&& 1) := by rw [← Nat.and_or_distrib_left]; rfl
  have h1 := nat_and_pow n 9
  have h2 := nat_and_pow n 0
  simp only [Nat.reducePow] at h1 h2
  rw [e, h1, h2]
  rcases Nat.mod_two_eq_zero_or_one (n / 512) with q | q <;> rcases Nat.mod_two_eq_zero_or_one (n / 1) with r | r <;> rw [q, r] <;> rfl
theorem bitAnd_513 (x : Int) : Builtin.bitAnd x 513 = 512 * (x / 512 % 2) + 1 * (x / 1 % 2) := by
  by_cases hx : 0 ≤ x
  · rw [bitAnd_pp hx (by decide), show (513 : Int).toNat = 513 from rfl, nat_and_513]; omega
  · rw [bitAnd_np hx (by decide), show (513 : Int).toNat = 513 from rfl, Nat.and_comm, nat_and_513]
    unfold Builtin.bitNot; omega

/-- the signs, out of the type's number and the twelve bits -/
def typeSign (k : Int) : Str :=
  if k = 10 then Str.ofString "l" else if k = 12 then Str.ofString "s" else if k = 8 then Str.ofString "-" else if k = 6 then Str.ofString "b" else if k = 4 then Str.ofString "d" else if k = 2 then Str.ofString "c" else if k = 1 then Str.ofString "p" else Str.ofString "?"
def oneSign (b : Int) (c : Str) : Str := if b = 1 then c else Str.ofString "-"
def endSign (runs above : Int) (both alone : Str) : Str := if above = 1 then (if runs = 1 then both else alone) else if runs = 1 then Str.ofString "x" else Str.ofString "-"
def sigOf (ty b0 b1 b2 b3 b4 b5 b6 b7 b8 b9 b10 b11 : Int) : List Str :=
  [typeSign ty, oneSign b8 (Str.ofString "r"), oneSign b7 (Str.ofString "w"), endSign b6 b11 (Str.ofString "s") (Str.ofString "S"),
   oneSign b5 (Str.ofString "r"), oneSign b4 (Str.ofString "w"), endSign b3 b10 (Str.ofString "s") (Str.ofString "S"),
   oneSign b2 (Str.ofString "r"), oneSign b1 (Str.ofString "w"), endSign b0 b9 (Str.ofString "t") (Str.ofString "T")]
theorem ifd {c d : Prop} [Decidable c] [Decidable d] {α : Type} {a b : α} (h : c ↔ d) : (if decide c = true then a else b) = if d then a else b := by
  by_cases hd : d
  · rw [if_pos hd, if_pos (decide_eq_true (h.mpr hd))]
  · rw [if_neg hd, if_neg (by simpa using fun hc => hd (h.mp hc))]
theorem sign0 (x : Int) : fmSign x 0 = typeSign (x / 4096 % 16) := by
  show pick (pickTest x 0) (pickDflt 0) [(40960, Str.ofString "l"), (49152, Str.ofString "s"), (32768, Str.ofString "-"), (24576, Str.ofString "b"), (16384, Str.ofString "d"), (8192, Str.ofString "c"), (4096, Str.ofString "p")] = _
  simp only [pick, pickTest, pickDflt, if_true, bitAnd_type, typeSign]
  rw [ifd (show 4096 * (x / 4096 % 16) = 40960 ↔ x / 4096 % 16 = 10 by omega), ifd (show 4096 * (x / 4096 % 16) = 49152 ↔ x / 4096 % 16 = 12 by omega), ifd (show 4096 * (x / 4096 % 16) = 32768 ↔ x / 4096 % 16 = 8 by omega), ifd (show 4096 * (x / 4096 % 16) = 24576 ↔ x / 4096 % 16 = 6 by omega), ifd (show 4096 * (x / 4096 % 16) = 16384 ↔ x / 4096 % 16 = 4 by omega), ifd (show 4096 * (x / 4096 % 16) = 8192 ↔ x / 4096 % 16 = 2 by omega), ifd (show 4096 * (x / 4096 % 16) = 4096 ↔ x / 4096 % 16 = 1 by omega)]
theorem sign1 (x : Int) : fmSign x 1 = oneSign (x / 256 % 2) (Str.ofString "r") := by
  show pick (pickTest x 1) (pickDflt 1) [(256, Str.ofString "r")] = _
  simp only [pick, pickTest, pickDflt, show (1 : Nat) = 0 ↔ False from by decide, if_false, bitAnd_p8, oneSign]
  rw [ifd (show 256 * (x / 256 % 2) = 256 ↔ x / 256 % 2 = 1 by omega)]
theorem sign2 (x : Int) : fmSign x 2 = oneSign (x / 128 % 2) (Str.ofString "w") := by
  show pick (pickTest x 2) (pickDflt 2) [(128, Str.ofString "w")] = _
  simp only [pick, pickTest, pickDflt, show (2 : Nat) = 0 ↔ False from by decide, if_false, bitAnd_p7, oneSign]
  rw [ifd (show 128 * (x / 128 % 2) = 128 ↔ x / 128 % 2 = 1 by omega)]
theorem sign4 (x : Int) : fmSign x 4 = oneSign (x / 32 % 2) (Str.ofString "r") := by
  show pick (pickTest x 4) (pickDflt 4) [(32, Str.ofString "r")] = _
  simp only [pick, pickTest, pickDflt, show (4 : Nat) = 0 ↔ False from by decide, if_false, bitAnd_p5, oneSign]
  rw [ifd (show 32 * (x / 32 % 2) = 32 ↔ x / 32 % 2 = 1 by omega)]
theorem sign5 (x : Int) : fmSign x 5 = oneSign (x / 16 % 2) (Str.ofString "w") := by
  show pick (pickTest x 5) (pickDflt 5) [(16, Str.ofString "w")] = _
  simp only [pick, pickTest, pickDflt, show (5 : Nat) = 0 ↔ False from by decide, if_false, bitAnd_p4, oneSign]
  rw [ifd (show 16 * (x / 16 % 2) = 16 ↔ x / 16 % 2 = 1 by omega)]
theorem sign7 (x : Int) : fmSign x 7 = oneSign (x / 4 % 2) (Str.ofString "r") := by
  show pick (pickTest x 7) (pickDflt 7) [(4, Str.ofString "r")] = _
  simp only [pick, pickTest, pickDflt, show (7 : Nat) = 0 ↔ False from by decide, if_false, bitAnd_p2, oneSign]
  rw [ifd (show 4 * (x / 4 % 2) = 4 ↔ x / 4 % 2 = 1 by omega)]
theorem sign8 (x : Int) : fmSign x 8 = oneSign (x / 2 % 2) (Str.ofString "w") := by
  show pick (pickTest x 8) (pickDflt 8) [(2, Str.ofString "w")] = _
  simp only [pick, pickTest, pickDflt, show (8 : Nat) = 0 ↔ False from by decide, if_false, bitAnd_p1, oneSign]
  rw [ifd (show 2 * (x / 2 % 2) = 2 ↔ x / 2 % 2 = 1 by omega)]
theorem sign3 (x : Int) : fmSign x 3 = endSign (x / 64 % 2) (x / 2048 % 2) (Str.ofString "s") (Str.ofString "S") := by
  show pick (pickTest x 3) (pickDflt 3) [(2112, Str.ofString "s"), (2048, Str.ofString "S"), (64, Str.ofString "x")] = _
  simp only [pick, pickTest, pickDflt, show (3 : Nat) = 0 ↔ False from by decide, if_false, bitAnd_p6, bitAnd_p11, bitAnd_2112, endSign]
  rw [ifd (show 2048 * (x / 2048 % 2) + 64 * (x / 64 % 2) = 2112 ↔ (x / 2048 % 2 = 1 ∧ x / 64 % 2 = 1) by omega), ifd (show 2048 * (x / 2048 % 2) = 2048 ↔ x / 2048 % 2 = 1 by omega), ifd (show 64 * (x / 64 % 2) = 64 ↔ x / 64 % 2 = 1 by omega)]
  by_cases h1 : x / 2048 % 2 = 1 <;> by_cases h2 : x / 64 % 2 = 1 <;> simp [h1, h2]
theorem sign6 (x : Int) : fmSign x 6 = endSign (x / 8 % 2) (x / 1024 % 2) (Str.ofString "s") (Str.ofString "S") := by
  show pick (pickTest x 6) (pickDflt 6) [(1032, Str.ofString "s"), (1024, Str.ofString "S"), (8, Str.ofString "x")] = _
  simp only [pick, pickTest, pickDflt, show (6 : Nat) = 0 ↔ False from by decide, if_false, bitAnd_p3, bitAnd_p10, bitAnd_1032, endSign]
  rw [ifd (show 1024 * (x / 1024 % 2) + 8 * (x / 8 % 2) = 1032 ↔ (x / 1024 % 2 = 1 ∧ x / 8 % 2 = 1) by omega), ifd (show 1024 * (x / 1024 % 2) = 1024 ↔ x / 1024 % 2 = 1 by omega), ifd (show 8 * (x / 8 % 2) = 8 ↔ x / 8 % 2 = 1 by omega)]
  by_cases h1 : x / 1024 % 2 = 1 <;> by_cases h2 : x / 8 % 2 = 1 <;> simp [h1, h2]
theorem sign9 (x : Int) : fmSign x 9 = endSign (x / 1 % 2) (x / 512 % 2) (Str.ofString "t") (Str.ofString "T") := by
  show pick (pickTest x 9) (pickDflt 9) [(513, Str.ofString "t"), (512, Str.ofString "T"), (1, Str.ofString "x")] = _
  simp only [pick, pickTest, pickDflt, show (9 : Nat) = 0 ↔ False from by decide, if_false, bitAnd_p0, bitAnd_p9, bitAnd_513, endSign]
  rw [ifd (show 512 * (x / 512 % 2) + 1 * (x / 1 % 2) = 513 ↔ (x / 512 % 2 = 1 ∧ x / 1 % 2 = 1) by omega), ifd (show 512 * (x / 512 % 2) = 512 ↔ x / 512 % 2 = 1 by omega), ifd (show 1 * (x / 1 % 2) = 1 ↔ x / 1 % 2 = 1 by omega)]
  by_cases h1 : x / 512 % 2 = 1 <;> by_cases h2 : x / 1 % 2 = 1 <;> simp [h1, h2]
theorem fmSigns_eq (x : Int) : fmSigns x = sigOf (x / 4096 % 16) (x / 1 % 2) (x / 2 % 2) (x / 4 % 2) (x / 8 % 2) (x / 16 % 2) (x / 32 % 2) (x / 64 % 2) (x / 128 % 2) (x / 256 % 2) (x / 512 % 2) (x / 1024 % 2) (x / 2048 % 2) := by
  have : fmSigns x = [fmSign x 0, fmSign x 1, fmSign x 2, fmSign x 3, fmSign x 4, fmSign x 5, fmSign x 6, fmSign x 7, fmSign x 8, fmSign x 9] := rfl
  rw [this, sign0, sign1, sign2, sign3, sign4, sign5, sign6, sign7, sign8, sign9]
  rfl
theorem half {M v A c B : Int} (h : M / v = A) (e : A = 2 * B + c) (hc : 0 ≤ c ∧ c ≤ 1) (hv : 0 ≤ v) : M / (v * 2) = B ∧ M / v % 2 = c := by
  constructor
  · rw [← Int.ediv_ediv_of_nonneg hv, h]; omega
  · rw [h]; omega
theorem bit_is {v c V L M : Int} (hv : 0 < v) (hL : 0 ≤ L) (hL' : L < v) (hc : 0 ≤ c ∧ c ≤ 1) (e : M = v * (c + 2 * V) + L) : M / v % 2 = c := by
  have : M / v = c + 2 * V := by
    rw [e, Int.add_comm, Int.add_mul_ediv_left _ _ (Int.ne_of_gt hv), Int.ediv_eq_zero_of_lt hL hL', Int.zero_add]
  rw [this]; omega
set_option maxHeartbeats 4000000 in
theorem bits_of {T c0 c1 c2 c3 c4 c5 c6 c7 c8 c9 c10 c11 M : Int} (h0 : 0 ≤ c0 ∧ c0 ≤ 1) (h1 : 0 ≤ c1 ∧ c1 ≤ 1) (h2 : 0 ≤ c2 ∧ c2 ≤ 1) (h3 : 0 ≤ c3 ∧ c3 ≤ 1) (h4 : 0 ≤ c4 ∧ c4 ≤ 1) (h5 : 0 ≤ c5 ∧ c5 ≤ 1) (h6 : 0 ≤ c6 ∧ c6 ≤ 1) (h7 : 0 ≤ c7 ∧ c7 ≤ 1) (h8 : 0 ≤ c8 ∧ c8 ≤ 1) (h9 : 0 ≤ c9 ∧ c9 ≤ 1) (h10 : 0 ≤ c10 ∧ c10 ≤ 1) (h11 : 0 ≤ c11 ∧ c11 ≤ 1) (e : M = 4096 * T + (c0 + 2 * c1 + 4 * c2 + 8 * c3 + 16 * c4 + 32 * c5 + 64 * c6 + 128 * c7 + 256 * c8 + 512 * c9 + 1024 * c10 + 2048 * c11)) :
    M / 4096 = T ∧ M / 1 % 2 = c0 ∧ M / 2 % 2 = c1 ∧ M / 4 % 2 = c2 ∧ M / 8 % 2 = c3 ∧ M / 16 % 2 = c4 ∧ M / 32 % 2 = c5 ∧ M / 64 % 2 = c6 ∧ M / 128 % 2 = c7 ∧ M / 256 % 2 = c8 ∧ M / 512 % 2 = c9 ∧ M / 1024 % 2 = c10 ∧ M / 2048 % 2 = c11 := by
  have a0 : M / 1 = M := Int.ediv_one M
  obtain ⟨a1, r0⟩ := half (B := 2048 * T + 1 * c1 + 2 * c2 + 4 * c3 + 8 * c4 + 16 * c5 + 32 * c6 + 64 * c7 + 128 * c8 + 256 * c9 + 512 * c10 + 1024 * c11) a0 (by omega) h0 (by decide)
  obtain ⟨a2, r1⟩ := half (B := 1024 * T + 1 * c2 + 2 * c3 + 4 * c4 + 8 * c5 + 16 * c6 + 32 * c7 + 64 * c8 + 128 * c9 + 256 * c10 + 512 * c11) a1 (by omega) h1 (by decide)
  obtain ⟨a3, r2⟩ := half (B := 512 * T + 1 * c3 + 2 * c4 + 4 * c5 + 8 * c6 + 16 * c7 + 32 * c8 + 64 * c9 + 128 * c10 + 256 * c11) a2 (by omega) h2 (by decide)
  obtain ⟨a4, r3⟩ := half (B := 256 * T + 1 * c4 + 2 * c5 + 4 * c6 + 8 * c7 + 16 * c8 + 32 * c9 + 64 * c10 + 128 * c11) a3 (by omega) h3 (by decide)
  obtain ⟨a5, r4⟩ := half (B := 128 * T + 1 * c5 + 2 * c6 + 4 * c7 + 8 * c8 + 16 * c9 + 32 * c10 + 64 * c11) a4 (by omega) h4 (by decide)
  obtain ⟨a6, r5⟩ := half (B := 64 * T + 1 * c6 + 2 * c7 + 4 * c8 + 8 * c9 + 16 * c10 + 32 * c11) a5 (by omega) h5 (by decide)
  obtain ⟨a7, r6⟩ := half (B := 32 * T + 1 * c7 + 2 * c8 + 4 * c9 + 8 * c10 + 16 * c11) a6 (by omega) h6 (by decide)
  obtain ⟨a8, r7⟩ := half (B := 16 * T + 1 * c8 + 2 * c9 + 4 * c10 + 8 * c11) a7 (by omega) h7 (by decide)
  obtain ⟨a9, r8⟩ := half (B := 8 * T + 1 * c9 + 2 * c10 + 4 * c11) a8 (by omega) h8 (by decide)
  obtain ⟨a10, r9⟩ := half (B := 4 * T + 1 * c10 + 2 * c11) a9 (by omega) h9 (by decide)
  obtain ⟨a11, r10⟩ := half (B := 2 * T + 1 * c11) a10 (by omega) h10 (by decide)
  obtain ⟨a12, r11⟩ := half (B := 1 * T) a11 (by omega) h11 (by decide)
  exact ⟨a12.trans (by omega), r0, r1, r2, r3, r4, r5, r6, r7, r8, r9, r10, r11⟩
theorem bitR (x v : Int) : 0 ≤ x / v % 2 ∧ x / v % 2 ≤ 1 := by omega
theorem bits_dec (M : Int) : M = 4096 * (M / 4096) + ((M / 1 % 2) + 2 * (M / 2 % 2) + 4 * (M / 4 % 2) + 8 * (M / 8 % 2) + 16 * (M / 16 % 2) + 32 * (M / 32 % 2) + 64 * (M / 64 % 2) + 128 * (M / 128 % 2) + 256 * (M / 256 % 2) + 512 * (M / 512 % 2) + 1024 * (M / 1024 % 2) + 2048 * (M / 2048 % 2)) := by
  have d0 : M / 1 = 2 * (M / 2) + M / 1 % 2 := by omega
  have d1 : M / 2 = 2 * (M / 4) + M / 2 % 2 := by omega
  have d2 : M / 4 = 2 * (M / 8) + M / 4 % 2 := by omega
  have d3 : M / 8 = 2 * (M / 16) + M / 8 % 2 := by omega
  have d4 : M / 16 = 2 * (M / 32) + M / 16 % 2 := by omega
  have d5 : M / 32 = 2 * (M / 64) + M / 32 % 2 := by omega
  have d6 : M / 64 = 2 * (M / 128) + M / 64 % 2 := by omega
  have d7 : M / 128 = 2 * (M / 256) + M / 128 % 2 := by omega
  have d8 : M / 256 = 2 * (M / 512) + M / 256 % 2 := by omega
  have d9 : M / 512 = 2 * (M / 1024) + M / 512 % 2 := by omega
  have d10 : M / 1024 = 2 * (M / 2048) + M / 1024 % 2 := by omega
  have d11 : M / 2048 = 2 * (M / 4096) + M / 2048 % 2 := by omega
  rw [Int.ediv_one] at d0
  generalize M / 2 % 2 = b1 at *
  generalize M / 4 % 2 = b2 at *
  generalize M / 8 % 2 = b3 at *
  generalize M / 16 % 2 = b4 at *
  generalize M / 32 % 2 = b5 at *
  generalize M / 64 % 2 = b6 at *
  generalize M / 128 % 2 = b7 at *
  generalize M / 256 % 2 = b8 at *
  generalize M / 512 % 2 = b9 at *
  generalize M / 1024 % 2 = b10 at *
  generalize M / 2048 % 2 = b11 at *
  rw [Int.ediv_one]
  generalize M % 2 = b0 at *
  generalize M / 2 = a1 at *
  generalize M / 4 = a2 at *
  generalize M / 8 = a3 at *
  generalize M / 16 = a4 at *
  generalize M / 32 = a5 at *
  generalize M / 64 = a6 at *
  generalize M / 128 = a7 at *
  generalize M / 256 = a8 at *
  generalize M / 512 = a9 at *
  generalize M / 1024 = a10 at *
  generalize M / 2048 = a11 at *
  generalize M / 4096 = a12 at *
  omega
section
variable {prog : Program} {w : World} {A : Around} {E : Value → Shared → Prop} {s : Shared} {env : Env} {h₀ : Heap} {target : Expr} {body orelse : List Stmt} {Q : Flow → Shared → Prop} {m : Str → Option Value} {news : List (Addr × Obj)}
/-- over a range by ones -/
theorem iter_range {x : Str} {px : Pos} {r : Addr} {a b : Int} {t u v : Tok} {n : Nat} (hh : A.handled = none) (hr : IsRange s.heap r a b 1 t u v) (hsmall : Builtin.Range.small a b 1 = true) (hsz : Builtin.Range.rangeSize a b 1 = (n : Int))
    (F : Fr h₀ env.locals s.heap m) (N : News h₀ env.locals s.heap news)
    (J : Nat → (Str → Option Value) → List (Addr × Obj) → Prop) (h0 : J 0 m news)
    (step : ∀ i k t₁ m₁ news₁ h₁ tk₁ I o, i < n → k = a + (i : Int) → J i m₁ news₁ → (∀ p ∈ news₁, p.1 ≠ I) → Fr h₀ env.locals h₁ m₁ → News h₀ env.locals h₁ ((I, o) :: news₁) → (∀ p ∈ news, p.1 < I) →
      wpAny (model prog w) A (assign (.Name x px) env (.int k t₁)) (fun _ s₂ => wpAny (model prog w) A (execs body env)
        (StepPost h₀ env.locals [I] [(I, o)] s (J (i + 1)) Q) E s₂) E { s with heap := h₁, toks := tk₁ })
    (done : ∀ h' tk m' news', Fr h₀ env.locals h' m' → News h₀ env.locals h' news' → J n m' news' → wpAny (model prog w) A (execs orelse env) Q E { s with heap := h', toks := tk })
    (hE : PassesOwn (model prog w) A env E) :
    wpAny (model prog w) A (pyIter (.ref r)) (fun it s₂ => codeAny (model prog w) A (.forLoop (.Name x px) it body orelse env) (LoopR prog w A env Q E) s₂) E s := by
  have hLs : env.locals < s.heap.objs.size := F.ns.lt
  refine wpAny_pyIter_range hr hsmall ?_
  refine my_loop (s := { s with heap := s.heap.push _ }) (ws := [s.heap.objs.size]) (KTurns.ofWalks (Walks.range hh s.heap.objs.size a 1 n) fun i v s Q E st q => wpAny_pure q) ?_ ?_ ?_ ?_ ?_ ?_ (F.push _) (fun p hp => ⟨Heap.get?_push_of_some _ (N p hp).1, (N p hp).2⟩) J h0 ?_ ?_ hE
  · intro b hb
    exact .inl hb
  · intro b hb; exact hb
  · intro b hb
    have hb' : b = s.heap.objs.size := by simpa using hb
    subst hb'
    exact ⟨base_new F (Nat.le_refl _), Nat.ne_of_gt hLs⟩
  · intro i h hst b hb
    have hb' : b = s.heap.objs.size := by simpa using hb
    subst hb'
    exact ⟨_, hst⟩
  · intro p hp hI
    have hb' : p.1 = s.heap.objs.size := by simpa using hI
    exact absurd (Heap.lt_size (N p hp).1) (hb' ▸ Nat.lt_irrefl _)
  · rw [hsz]
    show IsRangeIter _ _ (a + ((0 : Nat) : Int) * 1) ((n : Int) - ((0 : Nat) : Int)) 1
    have e1 : a + ((0 : Nat) : Int) * 1 = a := by omega
    have e2 : (n : Int) - ((0 : Nat) : Int) = n := by omega
    rw [e1, e2]
    exact Heap.get?_push_size _ rfl
  · intro i v m₁ news₁ h₁ tk₁ its hi hP hJ hoff hits F₁ N₁
    obtain ⟨o, rfl⟩ := one_of hits
    obtain ⟨t₁, rfl⟩ := hP
    exact step i _ t₁ m₁ news₁ h₁ tk₁ _ o hi (by omega) hJ (fun p hp e => hoff p hp (by simp [e])) F₁ N₁ fun p hp => Heap.lt_size (N p hp).1
  · intro h' tk m' news' F' N' _ hJ
    exact done h' tk m' news' F' N' hJ
/-- over a list that the call has made -/
theorem iter_ledger {T : Addr} {items : Array Value} (hh : A.handled = none) (hT : s.heap.IsList T items) (hT0 : h₀.get? T = none) (hTL : T ≠ env.locals) (F : Fr h₀ env.locals s.heap m) (N : News h₀ env.locals s.heap news) (hTn : ∀ p ∈ news, p.1 ≠ T)
    (J : Nat → (Str → Option Value) → List (Addr × Obj) → Prop) (h0 : J 0 m news)
    (step : ∀ i v m₁ news₁ h₁ tk₁ I o oT, items[i]? = some v → J i m₁ news₁ → (∀ p ∈ news₁, p.1 ≠ I ∧ p.1 ≠ T) → Fr h₀ env.locals h₁ m₁ → News h₀ env.locals h₁ ((I, o) :: (T, oT) :: news₁) → (∀ p ∈ news, p.1 < I) → T < I →
      wpAny (model prog w) A (assign target env v) (fun _ s₂ => wpAny (model prog w) A (execs body env)
        (StepPost h₀ env.locals [I, T] [(I, o), (T, oT)] s (J (i + 1)) Q) E s₂) E { s with heap := h₁, toks := tk₁ })
    (done : ∀ h' tk m' news', Fr h₀ env.locals h' m' → News h₀ env.locals h' news' → J items.size m' news' → wpAny (model prog w) A (execs orelse env) Q E { s with heap := h', toks := tk })
    (hE : PassesOwn (model prog w) A env E) :
    wpAny (model prog w) A (pyIter (.ref T)) (fun it s₂ => codeAny (model prog w) A (.forLoop target it body orelse env) (LoopR prog w A env Q E) s₂) E s := by
  obtain ⟨oT, hoT, hcT, nT, hdT⟩ := id hT
  have hlt : T < s.heap.objs.size := Heap.lt_size hoT
  have hne : T ≠ s.heap.objs.size := Nat.ne_of_lt hlt
  have hLs : env.locals < s.heap.objs.size := F.ns.lt
  refine wpAny_pyIter_list hT ?_
  refine my_loop (s := { s with heap := s.heap.push _ }) (ws := [s.heap.objs.size, T]) (KTurns.ofWalks (Walks.list hh s.heap.objs.size T hne items) fun i v s Q E st q => letGo_listiter st.1 q) ?_ ?_ ?_ ?_ ?_ ?_ (F.push _) (fun p hp => ⟨Heap.get?_push_of_some _ (N p hp).1, (N p hp).2⟩) J h0 ?_ ?_ hE
  · intro b hb
    exact .inl hb
  · intro b hb
    have hb' : b = s.heap.objs.size := by simpa using hb
    simp [hb']
  · intro b hb
    have hb' : b = s.heap.objs.size ∨ b = T := by simpa using hb
    rcases hb' with rfl | rfl
    · exact ⟨base_new F (Nat.le_refl _), Nat.ne_of_gt hLs⟩
    · exact ⟨hT0, hTL⟩
  · rintro i h ⟨⟨o, ho, _⟩, ⟨o', ho', _⟩⟩ b hb
    have hb' : b = s.heap.objs.size ∨ b = T := by simpa using hb
    rcases hb' with rfl | rfl
    · exact ⟨o, ho⟩
    · exact ⟨o', ho'⟩
  · intro p hp hI
    have hb' : p.1 = s.heap.objs.size ∨ p.1 = T := by simpa using hI
    rcases hb' with e | e
    · exact absurd (Heap.lt_size (N p hp).1) (e ▸ Nat.lt_irrefl _)
    · exact hTn p hp e
  · exact ⟨⟨_, Heap.get?_push_size _ rfl, rfl, rfl⟩, hT.at fun o e => Heap.get?_push_of_some _ e⟩
  · intro i v m₁ news₁ h₁ tk₁ its hi hP hJ hoff hits F₁ N₁
    obtain ⟨o, oT', rfl⟩ := two_of hits
    exact step i v m₁ news₁ h₁ tk₁ _ o oT' hP hJ (fun p hp => ⟨fun e => hoff p hp (by simp [e]), fun e => hoff p hp (by simp [e])⟩) F₁ N₁ (fun p hp => Heap.lt_size (N p hp).1) hlt
  · intro h' tk m' news' F' N' _ hJ
    exact done h' tk m' news' F' N' hJ
end
def sc (x : Int) (i : Nat) : Nat := (fmSign x i).cps.getD 0 0
theorem one_sign {x : Str} (h : x.length = 1) : x = ⟨#[x.cps.getD 0 0]⟩ := by
  obtain ⟨⟨l⟩⟩ := x
  match l, h with
  | [c], _ => rfl
theorem fmSign_sc (x : Int) (i : Nat) : fmSign x i = ⟨#[sc x i]⟩ := one_sign (fmSign_len x i)
theorem join10 (c0 c1 c2 c3 c4 c5 c6 c7 c8 c9 : Nat) : Txt.join (Str.ofString "") [⟨#[c0]⟩, ⟨#[c1]⟩, ⟨#[c2]⟩, ⟨#[c3]⟩, ⟨#[c4]⟩, ⟨#[c5]⟩, ⟨#[c6]⟩, ⟨#[c7]⟩, ⟨#[c8]⟩, ⟨#[c9]⟩] = ⟨#[c0, c1, c2, c3, c4, c5, c6, c7, c8, c9]⟩ := rfl
theorem fmText_eq (x : Int) : fmText x = ⟨#[sc x 0, sc x 1, sc x 2, sc x 3, sc x 4, sc x 5, sc x 6, sc x 7, sc x 8, sc x 9]⟩ := by
  have e : fmSigns x = [⟨#[sc x 0]⟩, ⟨#[sc x 1]⟩, ⟨#[sc x 2]⟩, ⟨#[sc x 3]⟩, ⟨#[sc x 4]⟩, ⟨#[sc x 5]⟩, ⟨#[sc x 6]⟩, ⟨#[sc x 7]⟩, ⟨#[sc x 8]⟩, ⟨#[sc x 9]⟩] := by
    have : fmSigns x = [fmSign x 0, fmSign x 1, fmSign x 2, fmSign x 3, fmSign x 4, fmSign x 5, fmSign x 6, fmSign x 7, fmSign x 8, fmSign x 9] := rfl
    rw [this]; simp only [fmSign_sc]
  rw [fmText, e]; exact join10 _ _ _ _ _ _ _ _ _ _
theorem fmText_len (x : Int) : (fmText x).length = 10 := by rw [fmText_eq]; rfl
theorem fmText_item0 (x : Int) : Txt.item (fmText x) 0 = fmSign x 0 := by rw [fmText_eq, fmSign_sc]; rfl
theorem fmText_item1 (x : Int) : Txt.item (fmText x) 1 = fmSign x 1 := by rw [fmText_eq, fmSign_sc]; rfl
theorem fmText_item2 (x : Int) : Txt.item (fmText x) 2 = fmSign x 2 := by rw [fmText_eq, fmSign_sc]; rfl
theorem fmText_item3 (x : Int) : Txt.item (fmText x) 3 = fmSign x 3 := by rw [fmText_eq, fmSign_sc]; rfl
theorem fmText_item4 (x : Int) : Txt.item (fmText x) 4 = fmSign x 4 := by rw [fmText_eq, fmSign_sc]; rfl
theorem fmText_item5 (x : Int) : Txt.item (fmText x) 5 = fmSign x 5 := by rw [fmText_eq, fmSign_sc]; rfl
theorem fmText_item6 (x : Int) : Txt.item (fmText x) 6 = fmSign x 6 := by rw [fmText_eq, fmSign_sc]; rfl
theorem fmText_item7 (x : Int) : Txt.item (fmText x) 7 = fmSign x 7 := by rw [fmText_eq, fmSign_sc]; rfl
theorem fmText_item8 (x : Int) : Txt.item (fmText x) 8 = fmSign x 8 := by rw [fmText_eq, fmSign_sc]; rfl
theorem fmText_item9 (x : Int) : Txt.item (fmText x) 9 = fmSign x 9 := by rw [fmText_eq, fmSign_sc]; rfl
section
variable {prog : Program} {w : World} {A : Around} {E : Value → Shared → Prop} {s : Shared} {h₀ : Heap} {L d : Addr} {news : List (Addr × Obj)} {o : Obj} {kvs : List (Str × Value)} {x : Str} {t : Tok}
theorem notin_at {Q : Value → Shared → Prop} (N : News h₀ L s.heap news) (hp : (d, o) ∈ news) (hd : o.IsDictOf (PySem.strKind prog w) kvs) (lo : (d == sysModules) = false) (hv : (valueAt kvs x).isSome = true) (h : Q (.bool false) { s with toks := s.toks + 1 }) :
    wpAny (model prog w) A (compareOp .NotIn (.str x t) (.ref d)) Q E s := by
  refine wpAny_notIn_of (strKind_is _ _ _ _) lo (kda_dict N hp hd).mapOf ?_
  show Q (.bool (!(valueAt kvs x).isSome)) _
  rw [hv]; exact h
theorem item_at {value slice : PySem.Expr} {v : Int} {Q : Value → Shared → Prop} (N : News h₀ L s.heap news) (hp : (d, o) ∈ news) (hd : o.IsDictOf (PySem.strKind prog w) kvs) (hv : ∃ t', valueAt kvs x = some (.int v t')) (h : ∀ t', Q (.int v t') { s with toks := s.toks + 1 })
    (hs : subscripted slice false (.ref d) (.str x t) = operate [.ref d, .str x t] (getItem (.ref d) (.str x t))) (hg : ∀ r, letTemporaryGo value (.ref d) r = pure ()) :
    wpAny (model prog w) A (subscriptTail value slice (.ref d) (.str x t)) Q E s := by
  obtain ⟨t', hv⟩ := hv
  exact kda_item N hp hd (strKind_is _ _ _ _) hv (h t') hs hg
theorem item_get {v : Int} {Q : Value → Shared → Prop} (N : News h₀ L s.heap news) (hp : (d, o) ∈ news) (hd : o.IsDictOf (PySem.strKind prog w) kvs) (hv : ∃ t', valueAt kvs x = some (.int v t')) (h : ∀ t', Q (.int v t') { s with toks := s.toks + 1 }) :
    wpAny (model prog w) A (getItem (.ref d) (.str x t)) Q E s := by
  obtain ⟨t', hv⟩ := hv
  exact wpAny_getItem_of (strKind_is _ _ _ _) (kda_dict N hp hd).mapOf hv (h t')
theorem fm_len {M : Int} {Q : Value → Shared → Prop} (h : ∀ t' k', Q (.int 10 t') { s with toks := k' }) : wpAny (model prog w) A (call (.builtin "len") [.str (fmText M) t]) Q E s := by
  have hl := fmText_len M
  refine PyProof.Rows.len_str (by rw [hl]; decide) ?_
  rw [hl]; exact h _ _
theorem ne_str_is {a b : Str} {u : Tok} {Q : Value → Shared → Prop} (e : a = b) (h : Q (.bool false) s) : wpAny (model prog w) A (compareOp .NotEq (.str a t) (.str b u)) Q E s := by
  subst e
  refine PyProof.Rows.ne_str ?_
  rw [show (a != a) = false by simp]
  exact h
theorem ne_int_is {a b : Int} {u : Tok} {Q : Value → Shared → Prop} (e : a = b) (h : Q (.bool false) s) : wpAny (model prog w) A (compareOp .NotEq (.int a t) (.int b u)) Q E s := by
  subst e
  refine ne_int ?_
  rw [show (a != a) = false by simp]
  exact h
theorem fm_item {value slice : PySem.Expr} {M i : Int} {u : Tok} {Q : Value → Shared → Prop} (h0 : 0 ≤ i) (h1 : i < 10) (h : ∀ t', Q (.str (fmSign M i.toNat) t') { s with toks := s.toks + 1 })
    (hs : subscripted slice false (.str (fmText M) t) (.int i u) = operate [.str (fmText M) t, .int i u] (getItem (.str (fmText M) t) (.int i u)))
    (hg : ∀ r, letTemporaryGo value (.str (fmText M) t) r = pure ()) :
    wpAny (model prog w) A (subscriptTail value slice (.str (fmText M) t) (.int i u)) Q E s := by
  have hl := fmText_len M
  refine KXi.item hl (by omega) h1 (by decide) (fun _ => ?_) hs hg
  have e : Txt.item (fmText M) i = fmSign M i.toNat := by
    rcases (by omega : i = 0 ∨ i = 1 ∨ i = 2 ∨ i = 3 ∨ i = 4 ∨ i = 5 ∨ i = 6 ∨ i = 7 ∨ i = 8 ∨ i = 9) with rfl | rfl | rfl | rfl | rfl | rfl | rfl | rfl | rfl | rfl
    · exact fmText_item0 M
    · exact fmText_item1 M
    · exact fmText_item2 M
    · exact fmText_item3 M
    · exact fmText_item4 M
    · exact fmText_item5 M
    · exact fmText_item6 M
    · exact fmText_item7 M
    · exact fmText_item8 M
    · exact fmText_item9 M
  rw [e]; exact h _
def HasV (kvs : List (Str × Value)) (x : Str) (v : Int) : Prop := ∃ t, valueAt kvs x = some (.int v t)
theorem fdv0 {x v : Int} (h : 0 ≤ v) : x.fdiv v = x / v := Int.fdiv_eq_ediv_of_nonneg _ h
theorem fmv0 {x v : Int} (h : 0 ≤ v) : x.fmod v = x % v := Int.fmod_eq_emod_of_nonneg _ h
theorem type_item (M : Int) : fmSign M 0 = Txt.item (Str.ofString "?pc?d?b?-?l?s???") ((M.fdiv 4096).fmod 16) := by
  rw [sign0, fdv0 (by decide), fmv0 (by decide)]
  have h1 : 0 ≤ M / 4096 % 16 := by omega
  have h2 : M / 4096 % 16 < 16 := by omega
  generalize M / 4096 % 16 = k at *
  have : ∀ n : Fin 16, typeSign ((n : Nat) : Int) = Txt.item (Str.ofString "?pc?d?b?-?l?s???") ((n : Nat) : Int) := by decide +kernel
  have h := this ⟨k.toNat, by omega⟩
  have e : ((k.toNat : Nat) : Int) = k := by omega
  simpa [e] using h
theorem mod_is' (M : Int) : M % 4096 = M.fmod 4096 := (fmv0 (by decide)).symm
theorem hasV_some {v : Int} (h : HasV kvs x v) : (valueAt kvs x).isSome = true := by
  obtain ⟨t, e⟩ := h; rw [e]; rfl
theorem hasV_at {M v : Int} {i c : Nat} (h : ∀ n, n = c → HasV kvs (fmSign M n) v) (e : i = c) : HasV kvs (fmSign M i) v := h _ e
theorem hasV_one {c : Str} {a : Int} {e1 e2 : Tok} (hc : Str.ofString "-" ≠ c) (b : Int) : HasV [(Str.ofString "-", .int 0 e1), (c, .int a e2)] (oneSign b c) (if b = 1 then a else 0) := by
  unfold oneSign HasV valueAt
  by_cases h : b = 1
  · simp [h, List.find?, hc]
  · simp [h, List.find?]
theorem hasV_end {c1 c2 : Str} {u ab : Int} {e1 e2 e3 e4 : Tok} (h1 : c1 ≠ Str.ofString "-" ∧ c1 ≠ Str.ofString "x") (h2 : c2 ≠ Str.ofString "-" ∧ c2 ≠ Str.ofString "x") (h3 : c1 ≠ c2) (b a : Int) :
    HasV [(Str.ofString "-", .int 0 e1), (Str.ofString "x", .int u e2), (c1, .int (u + ab) e3), (c2, .int ab e4)] (endSign b a c1 c2) (if a = 1 then (if b = 1 then u + ab else ab) else if b = 1 then u else 0) := by
  have hx : Str.ofString "-" ≠ Str.ofString "x" := by decide
  unfold endSign HasV valueAt
  by_cases ha : a = 1 <;> by_cases hb : b = 1 <;> simp [ha, hb, List.find?, h1.1, h1.2, h1.1.symm, h1.2.symm, h2.1, h2.2, h2.1.symm, h2.2.symm, h3, h3.symm, hx, hx.symm]
end
open_top hd for PySem.Challenge.rw_dn0160_01
def tabRows : List (Addr × List (Addr × Int × Str)) :=
  [(29, [(22, 40960, Str.ofString "l"), (23, 49152, Str.ofString "s"), (24, 32768, Str.ofString "-"), (25, 24576, Str.ofString "b"), (26, 16384, Str.ofString "d"), (27, 8192, Str.ofString "c"), (28, 4096, Str.ofString "p")]),
   (31, [(30, 256, Str.ofString "r")]), (33, [(32, 128, Str.ofString "w")]), (37, [(34, 2112, Str.ofString "s"), (35, 2048, Str.ofString "S"), (36, 64, Str.ofString "x")]),
   (39, [(38, 32, Str.ofString "r")]), (41, [(40, 16, Str.ofString "w")]), (45, [(42, 1032, Str.ofString "s"), (43, 1024, Str.ofString "S"), (44, 8, Str.ofString "x")]),
   (47, [(46, 4, Str.ofString "r")]), (49, [(48, 2, Str.ofString "w")]), (53, [(50, 513, Str.ofString "t"), (51, 512, Str.ofString "T"), (52, 1, Str.ofString "x")])]
theorem tab_is (w : World) {h : Heap} (X : (hd.heap_39 w.params).In h) : TabIs h 54 tabRows := by
  refine TabIs.of X rfl ?_ rfl
  intro r hr
  simp only [tabRows, List.mem_cons, List.not_mem_nil, or_false] at hr
  rcases hr with rfl | rfl | rfl | rfl | rfl | rfl | rfl | rfl | rfl | rfl
  all_goals
    refine ⟨rfl, ?_⟩
    intro q hq
    simp only [List.mem_cons, List.not_mem_nil, or_false] at hq
    repeat' (first | (rcases hq with rfl | hq) | (subst hq))
    all_goals exact ⟨_, _, rfl⟩
local macro_rules | `(tactic| walk_at "MyEnter") => `(tactic| (k_dflt ((case kA => exact rfl); (case kF => exact rfl); (case kK => assumption); (case ho => k_is); (case hcd => k_is); (case hroom => ktr_room); (case hb => exact BindsTo.of_eq rfl); (case hl => exact locs rfl); (case c1 => exact rfl); (case c2 => exact rfl); (case c3 => exact rfl); (case c4 => decide); k_whole)))
local macro_rules | `(tactic| walk_at "MyOff") => `(tactic| repeat' (first | exact off0 | exact nmem0 | (refine off1 ?_ ?_) | (refine nmem1 (by k_ne) ?_)))
local macro_rules | `(tactic| walk_at "exec For Tuple Call cons nil") => `(tactic| (k_here; (with_reducible refine wpAny_For ?_ ?hs); (case hs => (intro _; rfl))))
local macro_rules | `(tactic| walk_at "exec For Tuple Name cons cons") => `(tactic| (k_here; (with_reducible refine wpAny_For ?_ ?hs); (case hs => (intro _; rfl))))
theorem ifmt_contract {w : World} {p : Program} {loose : List Str} {mean : ExcName → Option Value} {mg mb : Str → Option Value} {x : Int} {tx : Tok}
   {dp un : Nat} {gd : Option (List Code)} {cn : Str} {cs : Scope} {a : Addr} {ccd : Value} {cl : List (Str × Addr)} {outer : List Env} {A₀ : Around} {base h₀ : Heap} {L : Addr} {m : Str → Option Value} {s : Shared} {Q E : Value → Shared → Prop}
    (B : Below A₀ base outer h₀) (F : Fr h₀ L s.heap m) (X : (hd.heap_39 w.params).In h₀) (T : Top p loose mean mg mb h₀) (hcs : cs.kind = .function)
    (hdp : dp + 1 < recursionLimit) (hun : un + 10 < cLine)
    (hret : ∀ (t : Tok) (h' : Heap) (tk' : Nat), (∀ b o, s.heap.get? b = some o → h'.get? b = some o) → Q (.int (Builtin.bitAnd x 61440) t) { s with heap := h', toks := tk' }) :
    wpAny (model PySem.Challenge.rw_dn0160_01.row.prog w) (ktrTop dp un gd cn cs L a ccd cl outer) (call (.ref 21) [.int x tx]) Q E s := by
  w_top off
  revert X; k_fill; intro X
  refine' call_pure B F X T ?kA ?kF ?kK ?ho ?hcd ?hroom ?hb ?hl ?_ ?c1 ?c2 ?c3 ?c4
  walk_at "MyEnter"
  intro L' h₁ F' N' B' X' T'
  clear B F X T
  replace F' : Fr s.heap L' h₁ (fun y => List.lookup y [(Str.ofString "mode", Value.int x tx)]) := F'
  k_steps
  rename Fr _ _ _ _ => F1
  exact hret _ _ _ F1.keep
local macro_rules | `(tactic| walk_at "call ref") => `(tactic| (k_here; (with_reducible show wpAny _ _ (call (Value.ref 21) [Value.int _ _]) _ _ _); k_dflt (refine' ifmt_contract ?k1 ?k2 ?k3 ?k5 ?kK ?kd ?ku ?_; (case k1 => k_asm); (case k2 => k_asm); (case k3 => k_asm); (case k5 => k_asm); (case kK => first | exact rfl | assumption); (case kd => ktr_room); (case ku => ktr_units)); (rename Fr _ _ _ _ => kF9); (rename News _ _ _ _ => kN9); intro t9 h9 tk9 hk9; (have F9 := Fr.keeps kF9 hk9); (have N9 := News.grown kN9 hk9); clear kF9 kN9 hk9; (try dsimp only)))
theorem fm_contract {w : World} {p : Program} {loose : List Str} {mean : ExcName → Option Value} {mg mb : Str → Option Value} {x : Int} {tx : Tok} 
   {dp un : Nat} {gd : Option (List Code)} {cn : Str} {cs : Scope} {a : Addr} {ccd : Value} {cl : List (Str × Addr)} {outer : List Env} {A₀ : Around} {base h₀ : Heap} {L : Addr} {m : Str → Option Value} {s : Shared} {Q E : Value → Shared → Prop}
    (B : Below A₀ base outer h₀) (F : Fr h₀ L s.heap m) (X : (hd.heap_39 w.params).In h₀) (T : Top p loose mean mg mb h₀) (hcs : cs.kind = .function)
    (hdp : dp + 3 < recursionLimit) (hun : un + 40 < cLine)
    (hret : ∀ (h' : Heap) (tk' : Nat), (∀ b o, s.heap.get? b = some o → h'.get? b = some o) → ∀ (t : Tok), Q (.str (fmText x) t) { s with heap := h', toks := tk' }) :
    wpAny (model PySem.Challenge.rw_dn0160_01.row.prog w) (ktrTop dp un gd cn cs L a ccd cl outer) (call (.ref 61) [.int x tx]) Q E s := by
  w_top off
  revert X; k_fill; intro X
  refine' call_pure B F X T ?kA ?kF ?kK ?ho ?hcd ?hroom ?hb ?hl ?_ ?c1 ?c2 ?c3 ?c4
  walk_at "MyEnter"
  intro L' h₁ F' N' B' X' T'
  have TB := tab_is w X'
  clear B F X T
  replace F' : Fr s.heap L' h₁ (fun y => List.lookup y [(Str.ofString "mode", Value.int x tx)]) := F'
  k_steps
  rename Fr _ _ _ _ => F1
  rename News _ _ _ _ => N1
  rename_i pa _ _ _
  refine iter_enumTuple (items := (tabRows.map fun r => Value.ref r.1).toArray) rfl TB.1 F1 N1
    (fun i m₁ news₁ => m₁ (Str.ofString "mode") = some (.int x tx) ∧ m₁ (Str.ofString "perm") = some (.ref pa) ∧ ∃ vs n, news₁ = [(pa, listOf vs.toArray n)] ∧ StrsAre vs ((fmSigns x).take i)) ?_ ?_ ?_ PassesOwn.never
  · exact ⟨rfl, rfl, [], 0, rfl, by simpa using StrsAre.nil⟩
  · clear F1 N1
    intro i v t U m₁ news₁ h₂ tk₁ e oe I o hv hJ hoff hU F2 N2 hlt hIe
    obtain ⟨hm1, hm2, vs, n, rfl, hvs⟩ := hJ
    obtain ⟨S, ps, rfl, hR, htab, hi⟩ := TB.item hv
    rw [chain2 hm1 hm2] at F2
    have hp1 := hlt (pa, _) (.head _)
    have hp2 := ltN hp1
    have hp3 := ltN hIe
    clear hp1 hlt hoff hm1 hm2
    dsimp only at hp2
    k_steps
    clear hU
    rename Fr _ _ _ _ => F3
    rename News _ _ _ _ => N3
    refine iter_tuple (items := (ps.map fun q => Value.ref q.1).toArray) rfl hR.1 F3 N3
      (fun j m₂ news₂ => m₂ (Str.ofString "mode") = some (.int x tx) ∧ m₂ (Str.ofString "perm") = some (.ref pa) ∧ m₂ (Str.ofString "index") = some (.int (i : Int) t) ∧ news₂ = [(e, oe), (I, o), (pa, listOf vs.toArray n)] ∧ ∀ k q, k < j → ps[k]? = some q → pickTest x i q.2.1 = false) ?_ ?_ ?_ PassesOwn.never
    · exact ⟨rfl, rfl, rfl, rfl, fun k q hk => absurd hk (Nat.not_lt_zero _)⟩
    · clear F3 N3
      intro j v m₂ news₂ h₃ tk₃ I₂ o₂ hv₂ hJ hoff F3 N3 hlt₂
      obtain ⟨hm1, hm2, hm3, rfl, hno⟩ := hJ
      obtain ⟨q, hq, rfl⟩ : ∃ q, ps[j]? = some q ∧ Value.ref q.1 = v := by
        have h' : ps[j]?.map (fun q => Value.ref q.1) = some v := by simpa using hv₂
        exact Option.map_eq_some_iff.mp h'
      obtain ⟨tb, tc, hpair⟩ := hR.2 q (List.mem_of_getElem? hq)
      obtain ⟨pr, b, c⟩ := q
      have hpr : IsTup h₃ pr #[.int b tb, .str c tc] := by
        obtain ⟨o', ho', r⟩ := hpair
        exact ⟨o', F3.keep _ _ ho', r⟩
      rw [chain3 hm1 hm2 hm3] at F3
      have l1 := ltN (hlt₂ (e, oe) (.head _))
      have l2 := ltN (hlt₂ (I, o) (.tail _ (.head _)))
      have l3 := ltN (hlt₂ (pa, _) (.tail _ (.tail _ (.head _))))
      dsimp only at l1 l2 l3
      have hfit := signs_fit hvs
      replace F3 : Fr s.heap L' h₃ _ := F3
      replace N3 : News s.heap L' h₃ _ := N3
      clear hlt₂ hoff hm1 hm2 hm3 hv₂
      rcases Nat.eq_zero_or_pos i with hi0 | hi0
      · subst hi0
        k_steps
        · (change wpAny _ _ (execs [] _) _ _ _); k_steps
          rename News _ _ _ _ => N4
          refine step_next (its := [(e, oe), (I, o)]) (news₂ := [(pa, listOf (vs ++ [Value.str c tc]).toArray (n + 1))]) (by k_asm) (by rw [← List.push_toArray]; exact news_tail N4) ?_ ?_
          · walk_at "MyOff"
          · refine ⟨rfl, rfl, _, _, rfl, sign_more hvs hi htab (sign_hit hno hq ?_)⟩
            simp [pickTest]; assumption
        · refine step_next (its := [(I₂, o₂)]) (news₂ := [(e, oe), (I, o), (pa, listOf vs.toArray n)]) (by k_asm) (by k_asm) ?_ ?_
          · walk_at "MyOff"
          · refine ⟨rfl, rfl, rfl, rfl, no_more hno hq ?_⟩
            simp [pickTest]; assumption
      · k_steps
        · exfalso; omega
        · (change wpAny _ _ (execs [] _) _ _ _); k_steps
          rename News _ _ _ _ => N4
          refine step_next (its := [(e, oe), (I, o)]) (news₂ := [(pa, listOf (vs ++ [Value.str c tc]).toArray (n + 1))]) (by k_asm) (by rw [← List.push_toArray]; exact news_tail N4) ?_ ?_
          · walk_at "MyOff"
          · refine ⟨rfl, rfl, _, _, rfl, sign_more hvs hi htab (sign_hit hno hq ?_)⟩
            simp [pickTest, Nat.ne_of_gt hi0]; assumption
        · refine step_next (its := [(I₂, o₂)]) (news₂ := [(e, oe), (I, o), (pa, listOf vs.toArray n)]) (by k_asm) (by k_asm) ?_ ?_
          · walk_at "MyOff"
          · refine ⟨rfl, rfl, rfl, rfl, no_more hno hq ?_⟩
            simp [pickTest, Nat.ne_of_gt hi0]; assumption
    · clear F3 N3
      intro h₃ tk₃ m₂ news₂ F3 N3 hJ
      obtain ⟨hm1, hm2, hm3, rfl, hno⟩ := hJ
      rw [chain3 hm1 hm2 hm3] at F3
      replace F3 : Fr s.heap L' h₃ _ := F3
      replace N3 : News s.heap L' h₃ _ := N3
      have hfit := signs_fit hvs
      have hmiss := sign_miss (by simp) hno
      rcases Nat.eq_zero_or_pos i with hi0 | hi0
      · subst hi0
        k_steps
        rename News _ _ _ _ => N4
        refine step_next (its := [(e, oe), (I, o)]) (news₂ := [(pa, listOf (vs ++ [Value.str (Str.ofString "?") _]).toArray (n + 1))]) (by k_asm) (by rw [← List.push_toArray]; exact N4) ?_ ?_
        · walk_at "MyOff"
        · exact ⟨rfl, rfl, _, _, rfl, sign_more hvs hi htab hmiss⟩
      · k_steps
        · exfalso; omega
        · rename News _ _ _ _ => N4
          refine step_next (its := [(e, oe), (I, o)]) (news₂ := [(pa, listOf (vs ++ [Value.str (Str.ofString "-") _]).toArray (n + 1))]) (by k_asm) (by rw [← List.push_toArray]; exact N4) ?_ ?_
          · walk_at "MyOff"
          · exact ⟨rfl, rfl, _, _, rfl, sign_more hvs hi htab (hmiss.trans (by simp [pickDflt, Nat.ne_of_gt hi0]))⟩
  · clear F1 N1
    intro h₃ tk₃ m₂ news₂ F3 N3 hJ
    obtain ⟨hm1, hm2, vs, n, rfl, hvs⟩ := hJ
    rw [chain2 hm1 hm2] at F3
    replace F3 : Fr s.heap L' h₃ _ := F3
    replace N3 : News s.heap L' h₃ _ := N3
    k_steps
    have hvs' : StrsAre vs.toArray.toList (fmSigns x) := by
      have e : (tabRows.map fun r => Value.ref r.1).toArray.size = 10 := rfl
      rw [e, List.take_of_length_le (by rw [fmSigns_length]; exact Nat.le_refl _)] at hvs
      simpa using hvs
    refine join_listW (News.isList N3 (.head _)) hvs' (by decide) (fmSigns_weight x) ?_
    intro t' k'
    exact hret _ _ F3.keep _
local macro_rules | `(tactic| walk_at "execs nil") => `(tactic| (k_here; (dsimp only); k_gentoks))
local macro_rules | `(tactic| walk_at "execs cons") => `(tactic| (k_here; (dsimp only); k_gentoks))
local macro_rules | `(tactic| walk_at "MyEnter") => `(tactic| (k_dflt ((case kA => exact rfl); (case kF => exact rfl); (case kK => assumption); (case ho => k_is); (case hcd => k_is); (case hroom => ktr_room); (case hb => exact BindsTo.of_eq rfl); (case hl => exact locs rfl); (case c1 => exact rfl); (case c2 => exact rfl); (case c3 => exact rfl); (case c4 => decide); k_whole)))
local macro_rules | `(tactic| walk_at "MyOff") => `(tactic| repeat' (first | exact off0 | exact nmem0 | (refine off1 ?_ ?_) | (refine nmem1 (by k_ne) ?_)))
local macro_rules | `(tactic| walk_at "MyIdx") => `(tactic| first | omega | l_idx | (split <;> omega))
local macro_rules | `(tactic| walk_at "MyStrs") => `(tactic| first | assumption | exact StrsAre.cons _ _ StrsAre.nil | (repeat' (first | exact StrsAre.nil | refine StrsAre.cons _ _ ?_)))
local macro_rules | `(tactic| walk_at "call builtin:str.join") => `(tactic| (k_here; (with_reducible show wpAny _ _ (call (Value.builtin "str.join") [Value.str _ _, Value.ref _]) _ _ _); k_dflt (refine' join_listW ?l ?i ?s ?w ?_; (case l => kmk_list); (case i => walk_at "MyStrs"); (case s => decide); (case w => first | decide | exact fmSigns_weight _); k_whole); intro t9 k9))
local macro_rules | `(tactic| walk_at "call type:list") => `(tactic| (k_here; (with_reducible show wpAny _ _ (call (Value.type _) [Value.str _ _]) _ _ _); k_dflt (refine' list_strN ?hh ?F ?N ?_ ?z; (case hh => exact rfl); (case F => k_asm); (case N => k_asm); (case z => decide)); intro D' ys' n' h' tk' F' N' l1 hI'; (try k_lt l1); (try k_sweep)))
local macro_rules | `(tactic| walk_at "MySize") => `(tactic| ((simp only [sizeLine_eq, List.length_append, List.length_cons, List.length_nil, List.length_take, List.length_drop, List.length_set]); omega))
local macro_rules | `(tactic| walk_at "eval IfExp") => `(tactic| (k_here; (with_reducible show wpAny _ _ (eval (PySem.Expr.IfExp _ (PySem.Expr.Constant (PySem.Const.int _) _ _) (PySem.Expr.Constant (PySem.Const.int _) _ _) _) _) _ _ _); refine ifexp_ints ?_))
local macro_rules | `(tactic| walk_at "subscriptTail") => `(tactic| (k_here; (with_reducible show wpAny _ _ (subscriptTail _ _ (Value.ref _) (Value.int _ _)) _ _ _); k_dflt (refine' strs_item ?l ?ss ?a ?b ?c ?_ ?s; (case l => kmk_list); (case ss => assumption); (case a => walk_at "MyIdx"); (case b => walk_at "MyIdx"); (case c => walk_at "MyIdx"); (case s => with_unfolding_all rfl); k_whole); intro t9))
local macro_rules | `(tactic| walk_at "subscriptTail Name Slice ref ref") => `(tactic| (k_here; (with_reducible show wpAny _ _ (subscriptTail _ (PySem.Expr.Slice _ _ none _) (Value.ref _) (Value.ref _)) _ _ _); k_dflt (refine' slice_strs ?F ?N ?l ?p ?q ?m ?_ ?s ?t ?z; (case F => k_asm); (case N => k_asm); (case l => kmk_list); (case p => kmk_part); (case q => kmk_part); (case m => first | exact strs_upto (by assumption) (by walk_at "MyIdx") | exact strs_from (by assumption) (by walk_at "MyIdx") | exact strs_run (by assumption) (by walk_at "MyIdx") (by walk_at "MyIdx") (by walk_at "MyIdx")); (case s => with_unfolding_all rfl); (case t => kmk_pure); (case z => exact strs_fit (by assumption) (by assumption) (by decide))); intro D' ws' h' F' N' l1 hI'; (try k_lt l1); (try k_sweep)))
local macro_rules | `(tactic| walk_at "binaryOp Add ref ref") => `(tactic| (k_here; (with_reducible show wpAny _ _ (binaryOp _ (Value.ref _) (Value.ref _)) _ _ _); k_dflt (refine' cat_strs ?F ?N ?a ?b ?i ?j ?_ ?z; (case F => k_asm); (case N => k_asm); (case a => kmk_list); (case b => kmk_list); (case i => walk_at "MyStrs"); (case j => walk_at "MyStrs"); (case z => walk_at "MySize")); intro D' ws' h' F' N' l1 hI'; (try k_lt l1); (try k_sweep)))
local macro_rules | `(tactic| walk_at "exec For Name Call cons nil") => `(tactic| (k_here; k_dflt (refine wpAny_For ?_ ?hs; (case hs => (intro _; rfl)))))
local macro_rules | `(tactic| walk_at "execs nil") => `(tactic| (k_here; (dsimp only); k_gentoks))
local macro_rules | `(tactic| walk_at "execs cons") => `(tactic| (k_here; (dsimp only); k_gentoks))
local macro_rules | `(tactic| walk_at "KdnMade") => `(tactic| (k_here; k_dflt (refine' kdn_made_str ?F ?N ?U ?d ?k ?n ?_; (case F => k_asm); (case N => k_asm); (case U => k_updF); (case d => k_asm); (case k => kernel_rfl!); (case n => exact of_decide_eq_true (by kernel_rfl!))); intro h' o' F' N' hd'; (try dsimp only at N')))
local macro_rules | `(tactic| walk_at "eval Dict") => `(tactic| (k_here; k_dflt (refine' kdn_eval (knd := PySem.strKind _ _) ?F ?N ?b ?a ?l ?e ?n ?_; (case F => k_asm); (case N => first | k_asm | exact News.nil); (case b => exact Top.nolimit (by k_asm)); (case a => rfl); (case l => rfl); (case e => exact List.cons_ne_nil _ _); (case n => exact Nat.le_of_ble_eq_true rfl)); intro d' h' o' F' N' l1 lo' hd'; (try k_lt l1)))
def ClassIs (i : Nat) (u ab : Int) (c1 c2 : Str) : Prop :=
  (i = 0 ∧ u = 64 ∧ ab = 2048 ∧ c1 = Str.ofString "s" ∧ c2 = Str.ofString "S") ∨ (i = 1 ∧ u = 8 ∧ ab = 1024 ∧ c1 = Str.ofString "s" ∧ c2 = Str.ofString "S") ∨ (i = 2 ∧ u = 1 ∧ ab = 512 ∧ c1 = Str.ofString "t" ∧ c2 = Str.ofString "T")
def partF (M : Int) (i : Nat) : Int :=
  (if 0 < i then 256 * (M / 256 % 2) + 128 * (M / 128 % 2) + 64 * (M / 64 % 2) + 2048 * (M / 2048 % 2) else 0) +
  (if 1 < i then 32 * (M / 32 % 2) + 16 * (M / 16 % 2) + 8 * (M / 8 % 2) + 1024 * (M / 1024 % 2) else 0) +
  (if 2 < i then 4 * (M / 4 % 2) + 2 * (M / 2 % 2) + (M / 1 % 2) + 512 * (M / 512 % 2) else 0)
local macro_rules | `(tactic| walk_at "subscriptTail") => `(tactic| (k_here; (with_reducible show wpAny _ _ (subscriptTail _ _ (Value.str (fmText _) _) (Value.int _ _)) _ _ _); k_dflt (refine' fm_item ?a ?b ?_ ?s ?t; (case a => walk_at "MyIdx"); (case b => walk_at "MyIdx"); (case s => with_unfolding_all rfl); (case t => intro _; with_unfolding_all rfl); k_whole); intro t9))
local macro_rules | `(tactic| walk_at "MyVal") => `(tactic| (refine' hasV_at ?a ?b; (case a => assumption); (case b => omega)))
local macro_rules | `(tactic| walk_at "compareOp NotIn str ref") => `(tactic| (k_here; k_dflt (refine' notin_at ?N ?p ?d ?l ?v ?_; (case N => k_asm); (case p => k_mem); (case d => assumption); (case l => assumption); (case v => (refine' hasV_some ?q; (case q => walk_at "MyVal"))); k_whole)))
local macro_rules | `(tactic| walk_at "subscriptTail") => `(tactic| (k_here; (with_reducible show wpAny _ _ (subscriptTail _ _ (Value.ref _) (Value.str _ _)) _ _ _); k_dflt (refine' item_at ?N ?p ?d ?v ?_ ?s ?g; (case N => k_asm); (case p => k_mem); (case d => assumption); (case v => walk_at "MyVal"); (case s => with_unfolding_all rfl); (case g => intro _; with_unfolding_all rfl); k_whole); intro t9))
local macro_rules | `(tactic| walk_at "getItem ref str") => `(tactic| (k_here; k_dflt (refine' item_get ?N ?p ?d ?v ?_; (case N => k_asm); (case p => k_mem); (case d => assumption); (case v => walk_at "MyVal"); k_whole); intro t9))
theorem class_vals {i : Nat} {u ab : Int} {c1 c2 : Str} {M : Int} {e1 e2 e3 e4 e5 e6 e7 e8 : Tok} (h : ClassIs i u ab c1 c2) :
    ∃ v1 v2 v3, (∀ n, n = 1 + 3 * i → HasV [(Str.ofString "-", .int 0 e1), (Str.ofString "r", .int (4 * u) e2)] (fmSign M n) v1) ∧ (∀ n, n = 2 + 3 * i → HasV [(Str.ofString "-", .int 0 e3), (Str.ofString "w", .int (2 * u) e4)] (fmSign M n) v2) ∧
      (∀ n, n = 3 + 3 * i → HasV [(Str.ofString "-", .int 0 e5), (Str.ofString "x", .int u e6), (c1, .int (u + ab) e7), (c2, .int ab e8)] (fmSign M n) v3) ∧ partF M i + v1 + v2 + v3 = partF M (i + 1) := by
  rcases h with ⟨rfl, rfl, rfl, rfl, rfl⟩ | ⟨rfl, rfl, rfl, rfl, rfl⟩ | ⟨rfl, rfl, rfl, rfl, rfl⟩
  · refine ⟨if M / 256 % 2 = 1 then 4 * 64 else 0, if M / 128 % 2 = 1 then 2 * 64 else 0, if M / 2048 % 2 = 1 then (if M / 64 % 2 = 1 then 64 + 2048 else 2048) else if M / 64 % 2 = 1 then 64 else 0, fun n hn => ?_, fun n hn => ?_, fun n hn => ?_, ?_⟩
    · subst hn; rw [sign1]; exact hasV_one (by decide) _
    · subst hn; rw [sign2]; exact hasV_one (by decide) _
    · subst hn; rw [sign3]; exact hasV_end (by decide) (by decide) (by decide) _ _
    · simp only [partF]
      have h1 := bitR M 256; have h2 := bitR M 128; have h3 := bitR M 64; have h4 := bitR M 2048
      generalize M / 256 % 2 = b1 at *; generalize M / 128 % 2 = b2 at *; generalize M / 64 % 2 = b3 at *; generalize M / 2048 % 2 = b4 at *
      clear e1 e2 e3 e4 e5 e6 e7 e8
      simp; omega
  · refine ⟨if M / 32 % 2 = 1 then 4 * 8 else 0, if M / 16 % 2 = 1 then 2 * 8 else 0, if M / 1024 % 2 = 1 then (if M / 8 % 2 = 1 then 8 + 1024 else 1024) else if M / 8 % 2 = 1 then 8 else 0, fun n hn => ?_, fun n hn => ?_, fun n hn => ?_, ?_⟩
    · subst hn; rw [sign4]; exact hasV_one (by decide) _
    · subst hn; rw [sign5]; exact hasV_one (by decide) _
    · subst hn; rw [sign6]; exact hasV_end (by decide) (by decide) (by decide) _ _
    · simp only [partF]
      have h1 := bitR M 32; have h2 := bitR M 16; have h3 := bitR M 8; have h4 := bitR M 1024
      generalize M / 32 % 2 = b1 at *; generalize M / 16 % 2 = b2 at *; generalize M / 8 % 2 = b3 at *; generalize M / 1024 % 2 = b4 at *
      simp; omega
  · refine ⟨if M / 4 % 2 = 1 then 4 * 1 else 0, if M / 2 % 2 = 1 then 2 * 1 else 0, if M / 512 % 2 = 1 then (if M / 1 % 2 = 1 then 1 + 512 else 512) else if M / 1 % 2 = 1 then 1 else 0, fun n hn => ?_, fun n hn => ?_, fun n hn => ?_, ?_⟩
    · subst hn; rw [sign7]; exact hasV_one (by decide) _
    · subst hn; rw [sign8]; exact hasV_one (by decide) _
    · subst hn; rw [sign9]; exact hasV_end (by decide) (by decide) (by decide) _ _
    · simp only [partF]
      have h1 := bitR M 4; have h2 := bitR M 2; have h3 := bitR M 1; have h4 := bitR M 512
      generalize M / 4 % 2 = b1 at *; generalize M / 2 % 2 = b2 at *; generalize M / 1 % 2 = b3 at *; generalize M / 512 % 2 = b4 at *
      simp; omega
theorem part3 (M : Int) : partF M 3 = M % 4096 := by
  have h := bits_dec M
  simp only [partF]
  have h1 := bitR M 1; have h2 := bitR M 2; have h3 := bitR M 4; have h4 := bitR M 8; have h5 := bitR M 16; have h6 := bitR M 32; have h7 := bitR M 64; have h8 := bitR M 128; have h9 := bitR M 256; have h10 := bitR M 512; have h11 := bitR M 1024; have h12 := bitR M 2048
  generalize M / 1 % 2 = b0 at *; generalize M / 2 % 2 = b1 at *; generalize M / 4 % 2 = b2 at *; generalize M / 8 % 2 = b3 at *; generalize M / 16 % 2 = b4 at *; generalize M / 32 % 2 = b5 at *
  generalize M / 64 % 2 = b6 at *; generalize M / 128 % 2 = b7 at *; generalize M / 256 % 2 = b8 at *; generalize M / 512 % 2 = b9 at *; generalize M / 1024 % 2 = b10 at *; generalize M / 2048 % 2 = b11 at *
  generalize hT : M / 4096 = T at *
  simp; omega
def sumV (p v1 v2 v3 : Int) : Nat → Int
  | 0 => p
  | 1 => p + v1
  | 2 => p + v1 + v2
  | _ => p + v1 + v2 + v3
theorem off_of {l : List (Addr × Obj)} {I : Addr} (h : ∀ p ∈ l, p.1 ≠ I) : ∀ p ∈ l, p.1 ∉ [I] := fun p hp e => h p hp (List.mem_singleton.mp e)
/-- behind a class's four statements -/
def ReadAt (prog : Program) (w : World) (s : Shared) (h₀ : Heap) (L' I : Addr) (o : Obj) (M : Int) (t1 : Tok) (i : Nat) (k : Int) (t₁ : Tok) (s' : Shared) : Prop :=
  ∃ h' tk m' u ab c1 c2 d1 o1 d2 o2 d3 o3 tl n e1 e2 e3 e4 e5 e6 e7 e8 tr, s' = { s with heap := h', toks := tk } ∧ ClassIs i u ab c1 c2 ∧ Fr h₀ L' h' m' ∧
    News h₀ L' h' [(I, o), (tl, listOf #[.ref d1, .ref d2, .ref d3] n), (d1, o1), (d2, o2), (d3, o3)] ∧ m' (Str.ofString "told") = some (.str (fmText M) t1) ∧ m' (Str.ofString "rights") = some (.int (partF M i) tr) ∧ m' (Str.ofString "who") = some (.int k t₁) ∧ m' (Str.ofString "tables") = some (.ref tl) ∧
    o1.IsDictOf (PySem.strKind prog w) [(Str.ofString "-", .int 0 e1), (Str.ofString "r", .int (4 * u) e2)] ∧ o2.IsDictOf (PySem.strKind prog w) [(Str.ofString "-", .int 0 e3), (Str.ofString "w", .int (2 * u) e4)] ∧
    o3.IsDictOf (PySem.strKind prog w) [(Str.ofString "-", .int 0 e5), (Str.ofString "x", .int u e6), (c1, .int (u + ab) e7), (c2, .int ab e8)] ∧ (d1 == sysModules) = false ∧ (d2 == sysModules) = false ∧ (d3 == sysModules) = false
theorem ReadAt.intro {prog : Program} {w : World} {s : Shared} {h₀ : Heap} {L' I : Addr} {o : Obj} {M : Int} {t1 : Tok} {i : Nat} {k : Int} {t₁ : Tok} {h' : Heap} {tk : Nat} {m' : Str → Option Value} {led : List (Addr × Obj)} {u ab : Int} {c1 c2 : Str} {d1 d2 d3 tl : Addr} {o1 o2 o3 : Obj} {n : Nat} {e1 e2 e3 e4 e5 e6 e7 e8 tr : Tok}
    (F : Fr h₀ L' h' m') (N : News h₀ L' h' led) (q1 : m' (Str.ofString "told") = some (.str (fmText M) t1)) (q2 : m' (Str.ofString "rights") = some (.int (partF M i) tr)) (q3 : m' (Str.ofString "who") = some (.int k t₁)) (q4 : m' (Str.ofString "tables") = some (.ref tl))
    (hI : (I, o) ∈ led) (ht : (tl, listOf #[.ref d1, .ref d2, .ref d3] n) ∈ led) (h1 : (d1, o1) ∈ led) (h2 : (d2, o2) ∈ led) (h3 : (d3, o3) ∈ led)
    (D1 : o1.IsDictOf (PySem.strKind prog w) [(Str.ofString "-", .int 0 e1), (Str.ofString "r", .int (4 * u) e2)]) (D2 : o2.IsDictOf (PySem.strKind prog w) [(Str.ofString "-", .int 0 e3), (Str.ofString "w", .int (2 * u) e4)])
    (D3 : o3.IsDictOf (PySem.strKind prog w) [(Str.ofString "-", .int 0 e5), (Str.ofString "x", .int u e6), (c1, .int (u + ab) e7), (c2, .int ab e8)]) (l1 : (d1 == sysModules) = false) (l2 : (d2 == sysModules) = false) (l3 : (d3 == sysModules) = false) (hc : ClassIs i u ab c1 c2) :
    ReadAt prog w s h₀ L' I o M t1 i k t₁ { s with heap := h', toks := tk } := by
  refine ⟨h', tk, m', u, ab, c1, c2, d1, o1, d2, o2, d3, o3, tl, n, e1, e2, e3, e4, e5, e6, e7, e8, tr, rfl, hc, F, ?_, q1, q2, q3, q4, D1, D2, D3, l1, l2, l3⟩
  intro p hp
  simp only [List.mem_cons, List.not_mem_nil, or_false] at hp
  rcases hp with rfl | rfl | rfl | rfl | rfl
  · exact N _ hI
  · exact N _ ht
  · exact N _ h1
  · exact N _ h2
  · exact N _ h3
theorem read_contract {w : World} {p : Program} {loose : List Str} {mean : ExcName → Option Value} {mg mb : Str → Option Value} {M : Int} {t1 : Tok}
    {dp un : Nat} {gd : Option (List Code)} {cn : Str} {cs : Scope} {a : Addr} {ccd : Value} {cl : List (Str × Addr)} {outer : List Env} {A₀ : Around} {base h₀ : Heap} {L : Addr} {m : Str → Option Value} {s : Shared} {Q E : Value → Shared → Prop}
    (B : Below A₀ base outer h₀) (F : Fr h₀ L s.heap m) (X : (hd.heap_39 w.params).In h₀) (T : Top p loose mean mg mb h₀) (hcs : cs.kind = .function)
    (hdp : dp + 1 < recursionLimit) (hun : un + 10 < cLine) 
    (hret : ∀ (h' : Heap) (tk' : Nat), (∀ b o, s.heap.get? b = some o → h'.get? b = some o) → ∀ t, Q (.int (M % 4096) t) { s with heap := h', toks := tk' }) :
    wpAny (model PySem.Challenge.rw_dn0160_01.row.prog w) (ktrTop dp un gd cn cs L a ccd cl outer) (call (.ref 68) [.str (fmText M) t1]) Q E s := by
  w_top off
  revert X; k_fill; intro X
  refine' call_pure B F X T ?kA ?kF ?kK ?ho ?hcd ?hroom ?hb ?hl ?_ ?c1 ?c2 ?c3 ?c4
  walk_at "MyEnter"
  intro L' h₁ F' N' B' X' T'
  clear B F X T
  replace F' : Fr s.heap L' h₁ (fun y => List.lookup y [(Str.ofString "told", Value.str (fmText M) t1)]) := F'
  k_steps
  rename Fr _ _ _ _ => F1
  rename News _ _ _ _ => N1
  rename IsRange _ _ _ _ _ _ _ _ => hR
  refine iter_range (n := 3) rfl hR (by decide) (by decide) F1 N1 (fun i m₁ news₁ => m₁ (Str.ofString "told") = some (.str (fmText M) t1) ∧ (∃ t, m₁ (Str.ofString "rights") = some (.int (partF M i) t)) ∧ news₁ = []) ?_ ?_ ?_ PassesOwn.never
  · exact ⟨rfl, ⟨_, rfl⟩, rfl⟩
  · clear F1 N1 hR
    intro i k t₁ m₁ news₁ h₂ tk₁ I o hi hk hJ hoff F2 N2 hlt
    obtain ⟨hm1, ⟨t2, hm2⟩, rfl⟩ := hJ
    rw [chain2 hm1 hm2] at F2
    replace F2 : Fr s.heap L' h₂ _ := F2
    replace N2 : News s.heap L' h₂ _ := N2
    clear hoff hlt hm1 hm2
    refine wpAny_assign_Name (stN F2 N2 (fun h₃ F3 N3 => ?_) rfl rfl)
    clear F2 N2
    refine execs_cut 4 (fun s' => ReadAt PySem.Challenge.rw_dn0160_01.row.prog w s s.heap L' I o M t1 i k t₁ s') ?_ ?_
    · dsimp only [List.take]
      rcases (by omega : i = 0 ∨ i = 1 ∨ i = 2) with rfl | rfl | rfl
      · obtain rfl : k = 0 := by omega
        clear hi hk
        k_steps
        rename Fr _ _ _ _ => F9
        rename News _ _ _ _ => N9
        refine ⟨rfl, ?_⟩
        refine' ReadAt.intro F9 N9 rfl rfl rfl rfl ?hI ?ht ?h1 ?h2 ?h3 ?D1 ?D2 ?D3 ?l1 ?l2 ?l3 ?hc
        case hI => k_mem
        case ht => k_mem
        case h1 => k_mem
        case h2 => k_mem
        case h3 => k_mem
        case D1 => assumption
        case D2 => assumption
        case D3 => assumption
        case l1 => assumption
        case l2 => assumption
        case l3 => assumption
        case hc => exact .inl ⟨rfl, by decide, by decide, by decide, by decide⟩
      · obtain rfl : k = 1 := by omega
        clear hi hk
        k_steps
        rename Fr _ _ _ _ => F9
        rename News _ _ _ _ => N9
        refine ⟨rfl, ?_⟩
        refine' ReadAt.intro F9 N9 rfl rfl rfl rfl ?hI ?ht ?h1 ?h2 ?h3 ?D1 ?D2 ?D3 ?l1 ?l2 ?l3 ?hc
        case hI => k_mem
        case ht => k_mem
        case h1 => k_mem
        case h2 => k_mem
        case h3 => k_mem
        case D1 => assumption
        case D2 => assumption
        case D3 => assumption
        case l1 => assumption
        case l2 => assumption
        case l3 => assumption
        case hc => exact .inr (.inl ⟨rfl, by decide, by decide, by decide, by decide⟩)
      · obtain rfl : k = 2 := by omega
        clear hi hk
        k_steps
        rename Fr _ _ _ _ => F9
        rename News _ _ _ _ => N9
        refine ⟨rfl, ?_⟩
        refine' ReadAt.intro F9 N9 rfl rfl rfl rfl ?hI ?ht ?h1 ?h2 ?h3 ?D1 ?D2 ?D3 ?l1 ?l2 ?l3 ?hc
        case hI => k_mem
        case ht => k_mem
        case h1 => k_mem
        case h2 => k_mem
        case h3 => k_mem
        case D1 => assumption
        case D2 => assumption
        case D3 => assumption
        case l1 => assumption
        case l2 => assumption
        case l3 => assumption
        case hc => exact .inr (.inr ⟨rfl, by decide, by decide, by decide, by decide⟩)
    · clear F3 N3
      rintro s' ⟨h₄, tk₄, m₄, u, ab, c1, c2, d1, o1, d2, o2, d3, o3, tl, n, e1, e2, e3, e4, e5, e6, e7, e8, tr, rfl, hC, F4, N4, q1, q2, q3, q4, D1, D2, D3, l1, l2, l3⟩
      obtain ⟨v1, v2, v3, V1, V2, V3, hsum⟩ := class_vals (M := M) (e1 := e1) (e2 := e2) (e3 := e3) (e4 := e4) (e5 := e5) (e6 := e6) (e7 := e7) (e8 := e8) hC
      dsimp only [List.drop]
      generalize [(Str.ofString "-", Value.int 0 e1), (Str.ofString "r", Value.int (4 * u) e2)] = k1 at D1 V1
      generalize [(Str.ofString "-", Value.int 0 e3), (Str.ofString "w", Value.int (2 * u) e4)] = k2 at D2 V2
      generalize [(Str.ofString "-", Value.int 0 e5), (Str.ofString "x", Value.int u e6), (c1, Value.int (u + ab) e7), (c2, Value.int ab e8)] = k3 at D3 V3
      clear hC
      rw [chainN (m := m₄) (l := [(Str.ofString "told", .str (fmText M) t1), (Str.ofString "rights", .int (partF M i) tr), (Str.ofString "who", .int k t₁), (Str.ofString "tables", .ref tl)]) (by simp [q1, q2, q3, q4])] at F4
      dsimp only [List.foldr] at F4
      clear q1 q2 q3 q4
      k_steps
      rename Fr _ _ _ _ => F5
      rename News _ _ _ _ => N5
      rename IsRange _ _ _ _ _ _ _ _ => hR
      refine iter_range (n := 3) rfl hR (by decide) (by decide) F5 N5 (fun j m₅ news₅ => m₅ (Str.ofString "told") = some (.str (fmText M) t1) ∧ (∃ t, m₅ (Str.ofString "rights") = some (.int (sumV (partF M i) v1 v2 v3 j) t)) ∧ m₅ (Str.ofString "who") = some (.int k t₁) ∧ m₅ (Str.ofString "tables") = some (.ref tl) ∧
        news₅ = [(I, o), (tl, listOf #[.ref d1, .ref d2, .ref d3] n), (d1, o1), (d2, o2), (d3, o3)]) ?_ ?_ ?_ PassesOwn.never
      · exact ⟨rfl, ⟨_, rfl⟩, rfl, rfl, rfl⟩
      · clear F5 N5 hR
        intro j k₂ t₂ m₅ news₅ h₅ tk₅ I₂ o₂ hj hk₂ hJ hoff₂ F5 N5 hlt₂
        obtain ⟨q1, ⟨tr₂, q2⟩, q3, q4, rfl⟩ := hJ
        rw [chainN (m := m₅) (l := [(Str.ofString "told", .str (fmText M) t1), (Str.ofString "rights", .int (sumV (partF M i) v1 v2 v3 j) tr₂), (Str.ofString "who", .int k t₁), (Str.ofString "tables", .ref tl)]) (by simp [q1, q2, q3, q4])] at F5
        dsimp only [List.foldr] at F5
        replace F5 : Fr s.heap L' h₅ _ := F5
        replace N5 : News s.heap L' h₅ _ := N5
        clear q1 q2 q3 q4 hlt₂
        have hoff₃ := off_of hoff₂
        clear hoff₂
        rcases (by omega : j = 0 ∨ j = 1 ∨ j = 2) with rfl | rfl | rfl
        · obtain rfl : k₂ = 0 := by omega
          clear hk₂
          k_steps
          refine step_next (its := [(I₂, o₂)]) (by k_asm) (by k_asm) hoff₃ ?_
          exact ⟨rfl, ⟨_, rfl⟩, rfl, rfl, rfl⟩
        · obtain rfl : k₂ = 1 := by omega
          clear hk₂
          k_steps
          refine step_next (its := [(I₂, o₂)]) (by k_asm) (by k_asm) hoff₃ ?_
          exact ⟨rfl, ⟨_, rfl⟩, rfl, rfl, rfl⟩
        · obtain rfl : k₂ = 2 := by omega
          clear hk₂
          k_steps
          refine step_next (its := [(I₂, o₂)]) (by k_asm) (by k_asm) hoff₃ ?_
          exact ⟨rfl, ⟨_, rfl⟩, rfl, rfl, rfl⟩
      · clear F5 N5 hR
        intro h₅ tk₅ m₅ news₅ F5 N5 hJ
        obtain ⟨q1, ⟨tr₂, q2⟩, q3, q4, rfl⟩ := hJ
        replace F5 : Fr s.heap L' h₅ _ := F5
        replace N5 : News s.heap L' h₅ _ := N5
        k_steps
        refine step_next (its := [(I, o)]) (news₂ := []) (by k_asm) ?_ off0 ⟨q1, ⟨tr₂, ?_⟩, rfl⟩
        · intro p hp
          rw [List.append_nil, List.mem_singleton] at hp
          subst hp
          exact N5 _ (.head _)
        · rw [q2, ← hsum]; rfl
  · clear F1 N1 hR
    intro h₃ tk₃ m₂ news₂ F3 N3 hJ
    obtain ⟨q1, ⟨t2, q2⟩, rfl⟩ := hJ
    rw [part3] at q2
    rw [chain2 q1 q2] at F3
    replace F3 : Fr s.heap L' h₃ _ := F3
    replace N3 : News s.heap L' h₃ _ := N3
    clear q1 q2
    k_steps
    rename Fr _ _ _ _ => F1
    exact hret _ _ F1.keep _
local macro_rules | `(tactic| walk_at "execs nil") => `(tactic| (k_here; (dsimp only); k_gentoks))
local macro_rules | `(tactic| walk_at "execs cons") => `(tactic| (k_here; (dsimp only); k_gentoks))
local macro_rules | `(tactic| walk_at "MyEnter") => `(tactic| (k_dflt ((case kA => exact rfl); (case kF => exact rfl); (case kK => assumption); (case ho => k_is); (case hcd => k_is); (case hroom => ktr_room); (case hb => exact BindsTo.of_eq rfl); (case hl => exact locs rfl); (case c1 => exact rfl); (case c2 => exact rfl); (case c3 => exact rfl); (case c4 => decide); k_whole)))
local macro_rules | `(tactic| walk_at "MyOff") => `(tactic| repeat' (first | exact off0 | exact nmem0 | (refine off1 ?_ ?_) | (refine nmem1 (by k_ne) ?_)))
local macro_rules | `(tactic| walk_at "MyIdx") => `(tactic| first | omega | l_idx | (split <;> omega))
local macro_rules | `(tactic| walk_at "MyStrs") => `(tactic| first | assumption | exact StrsAre.cons _ _ StrsAre.nil | (repeat' (first | exact StrsAre.nil | refine StrsAre.cons _ _ ?_)))
local macro_rules | `(tactic| walk_at "call builtin:str.join") => `(tactic| (k_here; (with_reducible show wpAny _ _ (call (Value.builtin "str.join") [Value.str _ _, Value.ref _]) _ _ _); k_dflt (refine' join_listW ?l ?i ?s ?w ?_; (case l => kmk_list); (case i => walk_at "MyStrs"); (case s => decide); (case w => first | decide | exact fmSigns_weight _); k_whole); intro t9 k9))
local macro_rules | `(tactic| walk_at "call type:list") => `(tactic| (k_here; (with_reducible show wpAny _ _ (call (Value.type _) [Value.str _ _]) _ _ _); k_dflt (refine' list_strN ?hh ?F ?N ?_ ?z; (case hh => exact rfl); (case F => k_asm); (case N => k_asm); (case z => decide)); intro D' ys' n' h' tk' F' N' l1 hI'; (try k_lt l1); (try k_sweep)))
local macro_rules | `(tactic| walk_at "MySize") => `(tactic| ((simp only [sizeLine_eq, List.length_append, List.length_cons, List.length_nil, List.length_take, List.length_drop, List.length_set]); omega))
local macro_rules | `(tactic| walk_at "eval IfExp") => `(tactic| (k_here; (with_reducible show wpAny _ _ (eval (PySem.Expr.IfExp _ (PySem.Expr.Constant (PySem.Const.int _) _ _) (PySem.Expr.Constant (PySem.Const.int _) _ _) _) _) _ _ _); refine ifexp_ints ?_))
local macro_rules | `(tactic| walk_at "subscriptTail") => `(tactic| (k_here; (with_reducible show wpAny _ _ (subscriptTail _ _ (Value.ref _) (Value.int _ _)) _ _ _); k_dflt (refine' strs_item ?l ?ss ?a ?b ?c ?_ ?s; (case l => kmk_list); (case ss => assumption); (case a => walk_at "MyIdx"); (case b => walk_at "MyIdx"); (case c => walk_at "MyIdx"); (case s => with_unfolding_all rfl); k_whole); intro t9))
local macro_rules | `(tactic| walk_at "subscriptTail Name Slice ref ref") => `(tactic| (k_here; (with_reducible show wpAny _ _ (subscriptTail _ (PySem.Expr.Slice _ _ none _) (Value.ref _) (Value.ref _)) _ _ _); k_dflt (refine' slice_strs ?F ?N ?l ?p ?q ?m ?_ ?s ?t ?z; (case F => k_asm); (case N => k_asm); (case l => kmk_list); (case p => kmk_part); (case q => kmk_part); (case m => first | exact strs_upto (by assumption) (by walk_at "MyIdx") | exact strs_from (by assumption) (by walk_at "MyIdx") | exact strs_run (by assumption) (by walk_at "MyIdx") (by walk_at "MyIdx") (by walk_at "MyIdx")); (case s => with_unfolding_all rfl); (case t => kmk_pure); (case z => exact strs_fit (by assumption) (by assumption) (by decide))); intro D' ws' h' F' N' l1 hI'; (try k_lt l1); (try k_sweep)))
local macro_rules | `(tactic| walk_at "binaryOp Add ref ref") => `(tactic| (k_here; (with_reducible show wpAny _ _ (binaryOp _ (Value.ref _) (Value.ref _)) _ _ _); k_dflt (refine' cat_strs ?F ?N ?a ?b ?i ?j ?_ ?z; (case F => k_asm); (case N => k_asm); (case a => kmk_list); (case b => kmk_list); (case i => walk_at "MyStrs"); (case j => walk_at "MyStrs"); (case z => walk_at "MySize")); intro D' ws' h' F' N' l1 hI'; (try k_lt l1); (try k_sweep)))
local macro_rules | `(tactic| walk_at "call ref cons nil") => `(tactic| (k_here; (with_reducible show wpAny _ _ (call (Value.ref 61) [Value.int _ _]) _ _ _); k_dflt (refine' fm_contract ?k1 ?k2 ?k3 ?k5 ?kK ?kd ?ku  ?_; (case k1 => k_asm); (case k2 => k_asm); (case k3 => k_asm); (case k5 => k_asm); (case kK => first | exact rfl | assumption); (case kd => ktr_room); (case ku => ktr_units);  skip); (rename Fr _ _ _ _ => kF9); (rename News _ _ _ _ => kN9); intro h9 tk9 hk9 t9; (have F9 := Fr.keeps kF9 hk9); (have N9 := News.grown kN9 hk9);  clear kF9 kN9 hk9; (try dsimp only)))
local macro_rules | `(tactic| walk_at "call ref cons nil") => `(tactic| (k_here; (with_reducible show wpAny _ _ (call (Value.ref 68) [Value.str (fmText _) _]) _ _ _); k_dflt (refine' read_contract ?k1 ?k2 ?k3 ?k5 ?kK ?kd ?ku  ?_; (case k1 => k_asm); (case k2 => k_asm); (case k3 => k_asm); (case k5 => k_asm); (case kK => first | exact rfl | assumption); (case kd => ktr_room); (case ku => ktr_units);  skip); (rename Fr _ _ _ _ => kF9); (rename News _ _ _ _ => kN9); intro h9 tk9 hk9 t9; (have F9 := Fr.keeps kF9 hk9); (have N9 := News.grown kN9 hk9);  clear kF9 kN9 hk9; (try dsimp only)))
local macro_rules | `(tactic| walk_at "exec For Name Call cons nil") => `(tactic| (k_here; k_dflt (refine wpAny_For ?_ ?hs; (case hs => (intro _; rfl)))))
local macro_rules | `(tactic| walk_at "subscriptTail") => `(tactic| (k_here; (with_reducible show wpAny _ _ (subscriptTail _ _ (Value.str (fmText _) _) (Value.int _ _)) _ _ _); k_dflt (refine' fm_item ?a ?b ?_ ?s ?t; (case a => walk_at "MyIdx"); (case b => walk_at "MyIdx"); (case s => with_unfolding_all rfl); (case t => intro _; with_unfolding_all rfl); k_whole); intro t9))
local macro_rules | `(tactic| walk_at "call builtin:len") => `(tactic| (k_here; (with_reducible show wpAny _ _ (call (Value.builtin "len") [Value.str (fmText _) _]) _ _ _); k_dflt (refine' fm_len ?_; k_whole); intro t9 k9))
local macro_rules | `(tactic| walk_at "compareOp NotEq str str") => `(tactic| (k_here; (with_reducible refine ne_str_is (type_item _) ?_)))
local macro_rules | `(tactic| walk_at "compareOp NotEq int int") => `(tactic| (k_here; (with_reducible refine ne_int_is (mod_is' _) ?_)))
theorem news_head {h₀ h : Heap} {L : Addr} {p : Addr × Obj} {l : List (Addr × Obj)} (N : News h₀ L h (p :: l)) : News h₀ L h [p] := fun q hq => by rw [List.mem_singleton.mp hq]; exact N _ (.head _)
theorem small_nat {n : Nat} (h : n ≤ 2 ^ 20 + 16) : Builtin.Range.small 0 (n : Int) 1 = true := small_one (by decide) (by decide) (by omega) (by omega)
theorem size_nat (n : Nat) : Builtin.Range.rangeSize 0 (n : Int) 1 = (n : Int) := by rw [rangeSize_nat]; omega
theorem law_body {w : World} {p : Program} {loose : List Str} {mean : ExcName → Option Value} {mg mb : Str → Option Value} {base h₀ : Heap} {L fa sc : Addr} {cd : Value} {s : Shared} {vs0 : List Value} {ns : List Int}
    (B : Below callerA base [] h₀) (F : Fr h₀ L s.heap (fun y => List.lookup y [(Str.ofString "script", Value.ref sc)])) (N : News h₀ L s.heap []) (X : (hd.heap_39 w.params).In h₀) (T : Top p loose mean mg mb h₀)
    (hL : h₀.IsList sc vs0.toArray) (hI : IntsAre vs0 ns) (hlay : (PyData.list (ns.map PyData.int)).layable0 = true) :
    wpAny (model PySem.Challenge.rw_dn0160_01.row.prog w) (callerA.deeper (envOf (Str.ofString "law") (fnScope (hd.heap_39 w.params) 73) L fa cd)) (execs (fnBody (hd.heap_39 w.params) 73) (envOf (Str.ofString "law") (fnScope (hd.heap_39 w.params) 73) L fa cd))
      (fun fl s' => LawEnd h₀ L s fl s') (fun _ _ => False) s := by
  w_top off
  revert X; k_fill; intro X
  rw [show fnBody (hd.heap_39 w.params) 73 = _ from rfl, show fnScope (hd.heap_39 w.params) 73 = _ from rfl]
  k_steps
  rename Fr _ _ _ _ => F1
  rename News _ _ _ _ => N1
  rename IsRange _ _ _ _ _ _ _ _ => hR
  rename IntsAre _ (_ ++ _) => hNS
  have hb9 := len_ints_list hlay
  rw [← List.length_append] at hR
  have hlen : (List.map (fun k' => 273 * k') (rangeKs 0 ((16 : Int) - 0).toNat) ++ ns).length ≤ 2 ^ 20 + 16 := by
    simp [rangeKs_length]; omega
  generalize List.map (fun k' => 273 * k') (rangeKs 0 ((16 : Int) - 0).toNat) ++ ns = NS at hNS hR hlen
  rename_i D c ws h1 hD h2 tk h3 tk3 t3 u3 v3 a3
  have N2 := news_head N1
  clear N1
  refine iter_range (n := NS.length) (env := envOf (Str.ofString "law") (fnScope (hd.heap_39 w.params) 73) L fa cd) rfl hR (small_nat hlen) (size_nat _) F1 N2 (fun i m₁ news₁ => ∃ D ws n, IntsAre ws NS ∧ m₁ (Str.ofString "numbers") = some (.ref D) ∧ news₁ = [(D, listOf (List.toArray ws) n)]) ?_ ?_ ?_ PassesOwn.never
  · exact ⟨_, _, _, hNS, rfl, rfl⟩
  · clear F1 N2 hR hNS
    intro i k t₁ m₁ news₁ h₂ tk₁ I o hi hk hJ hoff F2 N2 hlt
    obtain ⟨D, ws, n, hNS, q1, rfl⟩ := hJ
    have hp2 := neN (hoff (D, _) (.head _))
    dsimp only at hp2
    rw [chainN (m := m₁) (l := [(Str.ofString "numbers", .ref D)]) (by simp [q1])] at F2
    dsimp only [List.foldr] at F2
    replace F2 : Fr h₀ L h₂ _ := F2
    replace N2 : News h₀ L h₂ _ := N2
    clear q1 hlt hoff
    k_steps
    rename Fr _ _ _ _ => F9
    rename News _ _ _ _ => N9
    refine step_next (its := [(I, o)]) (news₂ := [(D, listOf (List.toArray ws) n)]) F9 (news_pick2 N9 (by k_mem) (by k_mem)) ?_ ?_
    · walk_at "MyOff"
    · exact ⟨_, _, _, hNS, rfl, rfl⟩
  · clear F1 N2 hR hNS
    intro h₃ tk₃ m₂ news₂ F3 N3 hJ
    replace F3 : Fr h₀ L h₃ _ := F3
    replace N3 : News h₀ L h₃ _ := N3
    k_steps
    exact ⟨rfl, _, _, _, rfl, F3⟩
end Mine
theorem PySem.Challenge.cw_dn0160_01_holds : PySem.Challenge.rw_dn0160_01.Holds := by
  refine Mine.hd ?_
  k_go0
  all_goals try k_fold
  rename Fr _ _ _ _ => F1
  rename IntsAre _ _ => hI1
  rename Heap.IsList _ _ _ => hL1
  rename Below _ _ _ _ => B1
  rename Top _ _ _ _ _ _ => T1
  rename Frag.In _ _ => X1
  rename PyData.layable0 (PyData.list _) = true => hlay1
  refine wpAny_mono (Mine.law_body B1 F1 News.nil X1 T1 hL1 hI1 hlay1) (fun fl s' hfl => ?_) (fun _ _ x => x.elim)
  obtain ⟨rfl, h', tk, m', rfl, F'⟩ := hfl
  clear F1
  k_steps

