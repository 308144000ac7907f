import PyProof.Rows.All
import Wide.All
import OpenK.AllK
import Wide.FinOn
import PyProof.Draws
import PySem.Challenge.RW_mq0142_03
set_option Elab.async false
set_option maxRecDepth 100000
set_option maxHeartbeats 8000000
set_option rowWalk.seconds 0
section
open PySem PySem.W PyProof.Rows PySem.Calls PySem.Spec
namespace Mine

section
variable {prog : Program} {w : World} {A : Around} {E : Value → Shared → Prop} {s : Shared}

theorem nextOf_tuple_item {it l : Addr} {i : Nat} {items : Array Value} {x : Value} {Q : Value → Shared → Prop} (hit : s.heap.IsTupleIter it l i)
    (hl : s.heap.IsTuple l items) (hx : items[i]? = some x)
    (hQ : ∀ h', h'.IsTupleIter it l (i + 1) → Heap.SameBut it s.heap h' → Q x { s with heap := h' }) :
    wpAny (model prog w) A (Builtin.SmallTypes.nextOf (.ref it)) Q E s := by
  obtain ⟨o, ho, hc, hd⟩ := id hit
  obtain ⟨ol, hol, _, nl, hdl⟩ := hl
  unfold Builtin.SmallTypes.nextOf
  refine wpAny_bind (wpAny_callSpecial?_slot (name := Str.ofString "__next__") hit.typeIs F.slot_tuple_iterator_next
    (wpAny_call_entry F.slot_tuple_iterator_next hit.typeIs F.entry_tuple_iterator_next ?_ (F.args_tuple_iterator_next_1 _)))
  show wpAny _ _ (field (.ref it) 0 >>= _) _ _ s
  refine wpAny_bind (wpAny_field ho hd (x := .ref l) rfl ?_)
  show wpAny _ _ (if (Value.ref l == Value.none) = true then _ else _) _ _ s
  rw [if_neg (show ¬ ((Value.ref l == Value.none) = true) from Bool.false_ne_true)]
  show wpAny _ _ (field (.ref it) 1 >>= _) _ _ s
  refine wpAny_bind (wpAny_field ho hd (x := .int i 0) rfl ?_)
  show wpAny _ _ (seqItems? (.ref l) >>= _) _ _ s
  refine wpAny_bind (wpAny_seqItems hol hdl ?_)
  simp only [Int.toNat_natCast, hx]
  refine wpAny_bind (wpAny_setField ho hd (by simp) (wpAny_pure ⟨x, rfl, wpAny_pure (hQ _ ?_ (Heap.SameBut.update ..))⟩))
  exact ⟨_, Heap.get?_update_self _ ho (Obj.isFreed_of_fields (Obj.data_mapFields hd _)), (Obj.cls_mapFields ..).trans hc, by
    rw [Obj.data_mapFields hd]; simp [rawInt]⟩

theorem nextOf_tuple_end {it l : Addr} {i : Nat} {items : Array Value} {Q : Value → Shared → Prop} (hh : A.handled = none)
    (hit : s.heap.IsTupleIter it l i) (hl : s.heap.IsTuple l items) (hx : items[i]? = none)
    (hE : ∀ h' e, Heap.ExtBut it s.heap h' → (∃ o, h'.get? e = some o ∧ o.cls = .type "StopIteration") → E (.ref e) { s with heap := h' }) :
    wpAny (model prog w) A (Builtin.SmallTypes.nextOf (.ref it)) Q E s := by
  obtain ⟨o, ho, hc, hd⟩ := id hit
  obtain ⟨ol, hol, _, nl, hdl⟩ := hl
  unfold Builtin.SmallTypes.nextOf
  refine wpAny_bind (wpAny_callSpecial?_slot (name := Str.ofString "__next__") hit.typeIs F.slot_tuple_iterator_next
    (wpAny_call_entry F.slot_tuple_iterator_next hit.typeIs F.entry_tuple_iterator_next ?_ (F.args_tuple_iterator_next_1 _)))
  show wpAny _ _ (field (.ref it) 0 >>= _) _ _ s
  refine wpAny_bind (wpAny_field ho hd (x := .ref l) rfl ?_)
  show wpAny _ _ (if (Value.ref l == Value.none) = true then _ else _) _ _ s
  rw [if_neg (show ¬ ((Value.ref l == Value.none) = true) from Bool.false_ne_true)]
  show wpAny _ _ (field (.ref it) 1 >>= _) _ _ s
  refine wpAny_bind (wpAny_field ho hd (x := .int i 0) rfl ?_)
  show wpAny _ _ (seqItems? (.ref l) >>= _) _ _ s
  refine wpAny_bind (wpAny_seqItems hol hdl ?_)
  simp only [Int.toNat_natCast, hx]
  refine wpAny_bind (wpAny_rule (wpAny_bind (wpAny_setField ho hd (by simp) ?_)))
  show wpAny _ _ (newExc (.type "StopIteration") [] >>= _) _ _ _
  refine wpAny_bind ?_
  simp only [newExc, newTuple]
  refine wpAny_bind (wpAny_newObj_type ?_ (by size_fits))
  refine wpAny_bind (m := firstArgMember _ _) (wpAny_of_eq (a := Value.none) (by first | rfl | (simp only [firstArgMember]; rfl)) ?_)
  refine wpAny_newObj_type ?_ (by size_fits)
  simp only [raiseNew]
  refine wpAny_bind (wpAny_handled ?_)
  first | rw [show A.in1.handled = none from hh] | rw [hh]
  refine wpAny_bind (wpAny_pure (wpAny_throw ?_))
  exact hE _ _ (((Heap.SameBut.update ..).extBut.push _).push _) ⟨_, Heap.get?_push_size _ rfl, rfl⟩
end

theorem drawsTuple {prog : Program} {w : World} {A : Around} (hh : A.handled = none) (it l : Addr) (hne : l ≠ it) (items : Array Value) :
    Draws prog w A it [it, l] items.size (fun i v => items[i]? = some v) (fun i h => h.IsTupleIter it l i ∧ h.IsTuple l items) where
  live := fun _ _ st => let ⟨o, ho, _⟩ := st.1; ⟨o, ho⟩
  frame := fun _ _ _ st hk => ⟨st.1.at fun o e => hk it (by simp) o e, st.2.at fun o e => hk l (by simp) o e⟩
  item := fun i s Q E hi st hQ => by
    refine nextOf_tuple_item st.1 st.2 (x := items[i]) (by simp [hi]) fun h' hit' hs' => ?_
    exact hQ _ h' s.toks (by simp [hi]) ⟨hit', st.2.extBut hs'.extBut hne⟩ hs'
  done := fun s Q E st hE => nextOf_tuple_end hh st.1 st.2 (by simp) hE

open AutoSeq1 (wpAny_loadPart') in
theorem meets_enumerate_newT (l : Addr) (items : Array Value) (n : Nat) (dct : Option Addr) (sl : Array (Option Value)) :
    Meets (Builtin.«enumerate.__new__» ⟨[.type "enumerate", .ref l], []⟩) (fun _ R s => s.heap.get? l = some { cls := .type "tuple", dict := dct, data := .seq items n, slots := sl } ∧
      R (.ok (.ret (.ref (s.heap.push { cls := .type "tuple_iterator", data := .fields #[.ref l, .int 0 0] }).objs.size)))
        { s with heap := (s.heap.push { cls := .type "tuple_iterator", data := .fields #[.ref l, .int 0 0] }).push { cls := .type "enumerate", data := .fields #[.none, .bool false, .ref s.heap.objs.size, rawInt 0, .none, .none] } }) :=
  .of_wp fun prog w A R s h => by
    obtain ⟨hp, g, d, tk, os⟩ := s; obtain ⟨hl, h⟩ := h
    have hsub := sub_enumerate
    have hL : Heap.IsTuple (Shared.heap ⟨hp, g, d, tk, os⟩) l items := ⟨_, hl, rfl, n, rfl⟩
    wp_walk using wpAny_loadPart' hl
    refine wpAny_stack_any fun st => wpAny_pure ?_
    split
    · rename_i c _ _ _ _ _
      cases (c == Value.type "enumerate")
      · wp_walk using wpAny_loadPart' hl, wpAny_pyIter_tuple hL
        exact ⟨_, rfl, h⟩
      · wp_walk using wpAny_loadPart' hl, wpAny_pyIter_tuple hL
        exact ⟨_, rfl, h⟩
    · wp_walk using wpAny_loadPart' hl, wpAny_pyIter_tuple hL
      exact ⟨_, rfl, h⟩

section
variable {prog : Program} {w : World} {A : Around} {E : Value → Shared → Prop} {s : Shared}
theorem call_enumerate_tuple {l : Addr} {items : Array Value} {Q : Value → Shared → Prop} (hL : s.heap.IsTuple l items)
    (h : ∀ h', IsEnum h' (s.heap.objs.size + 1) s.heap.objs.size 0 .none → h'.IsTupleIter s.heap.objs.size l 0 → h'.objs.size = s.heap.objs.size + 2 →
      (∀ b o, s.heap.get? b = some o → h'.get? b = some o) → Q (.ref (s.heap.objs.size + 1)) { s with heap := h' }) :
    wpAny (model prog w) A (call (.type "enumerate") [.ref l]) Q E s := by
  obtain ⟨⟨c, dct, dt, sl⟩, hl, hc, n, hd⟩ := hL
  replace hc : c = .type "tuple" := hc
  replace hd : dt = .seq items n := hd
  subst hc hd
  refine callType_new F.called_enumerate (by decide) (F.typeCall_enumerate_1 _) (F.newCall_enumerate_1 _) (fun obj => F.args_object_init_2 obj _) F.entry_enumerate_new
    (meets_enumerate_newT l items n dct sl) ⟨hl, ?_⟩
  have hz : (s.heap.push { cls := .type "tuple_iterator", data := .fields #[.ref l, .int 0 0] }).objs.size = s.heap.objs.size + 1 := Heap.size_push ..
  show _ ∧ _
  rw [hz]
  have he : IsEnum ((s.heap.push { cls := .type "tuple_iterator", data := .fields #[.ref l, .int 0 0] }).push
      { cls := .type "enumerate", data := .fields #[.none, .bool false, .ref s.heap.objs.size, rawInt 0, .none, .none] }) (s.heap.objs.size + 1) s.heap.objs.size 0 .none := by
    have := Heap.get?_push_size (s.heap.push { cls := .type "tuple_iterator", data := .fields #[.ref l, .int 0 0] })
      (o := { cls := .type "enumerate", data := .fields #[.none, .bool false, .ref s.heap.objs.size, rawInt 0, .none, .none] }) rfl
    rw [hz] at this; exact this
  refine ⟨⟨_, he, rfl⟩, h _ he ⟨_, Heap.get?_push_of_some _ (Heap.get?_push_size _ rfl), rfl, rfl⟩ (by rw [Heap.size_push, hz]) fun b o x => Heap.get?_push_of_some _ (Heap.get?_push_of_some _ x)⟩
end

/-- a turn's end: the frame, the ledger (its addresses as they were), what holds -/
def MEnd (h₀ : Heap) (L : Addr) (J : (Str → Option Value) → List (Addr × Obj) → Prop) (own : List (Addr × Obj)) (adr : List Addr) (s₁ s₂ : Shared) : Prop :=
  ∃ h' tk m' news' nx, s₂ = { s₁ with heap := h', toks := tk } ∧ Fr h₀ L h' m' ∧ News h₀ L h' news' ∧ (∀ p ∈ nx, p ∈ news') ∧ (∀ p ∈ own, p ∈ news') ∧ nx.map (·.1) = adr ∧ J m' nx
def MPost (h₀ : Heap) (L : Addr) (J : (Str → Option Value) → List (Addr × Obj) → Prop) (own : List (Addr × Obj)) (adr : List Addr) (s₁ : Shared) (Q : Flow → Shared → Prop) (f : Flow) (s₂ : Shared) : Prop :=
  match f with
  | .ret v => Q (.ret v) s₂
  | .brk => Q .next s₂
  | _ => MEnd h₀ L J own adr s₁ s₂
theorem MEnd.intro {h₀ : Heap} {L : Addr} {J : (Str → Option Value) → List (Addr × Obj) → Prop} {m' : Str → Option Value} {own news' : List (Addr × Obj)} {adr : List Addr} {s₁ : Shared} {h' : Heap} {tk : Nat}
    (nx : List (Addr × Obj)) (F : Fr h₀ L h' m') (N : News h₀ L h' news') (hj : J m' nx) (ha : nx.map (·.1) = adr) (hn : ∀ p ∈ nx, p ∈ news') (ho : ∀ p ∈ own, p ∈ news') :
    MEnd h₀ L J own adr s₁ { s₁ with heap := h', toks := tk } := ⟨h', tk, m', news', nx, rfl, F, N, hn, ho, ha, hj⟩

section
variable {prog : Program} {w : World} {A : Around} {E : Value → Shared → Prop} {s : Shared} {env : Env} {h₀ : Heap} {target : Expr} {body orelse : List Stmt} {Q : Flow → Shared → Prop}

/-- a for by what holds between its turns, with its else -/
theorem mloop {I : Addr} {fp wr : List Addr} {n : Nat} {P Md : Nat → Value → Heap → Prop} {St : Nat → Heap → Prop} {m : Str → Option Value} {news : List (Addr × Obj)} (W : KTurns prog w A target I fp wr n P Md St)
    (J : Nat → (Str → Option Value) → List (Addr × Obj) → Prop) (adr : List Addr) (hadr : ∀ b ∈ adr, b ∉ fp)
    (hLf : env.locals ∉ fp) (hwr : ∀ b ∈ wr, h₀.get? b = none) (hnw : ∀ p ∈ news, p.1 ∉ wr) (hst : St 0 s.heap) (F : Fr h₀ env.locals s.heap m) (N : News h₀ env.locals s.heap news) (h0 : J 0 m news)
    (turn : ∀ i v m₁ news₁ h₁ tk₁ own, i < n → P i v h₁ → news₁.map (·.1) = news.map (·.1) → OwnOff own adr → J i m₁ news₁ → Fr h₀ env.locals h₁ m₁ → News h₀ env.locals h₁ (news₁ ++ own) →
      wpAny (model prog w) A (assign target env v) (fun _ s₂ => wpAny (model prog w) A (execs body env) (MPost h₀ env.locals (J (i + 1)) own (news.map (·.1)) { s with heap := h₁, toks := tk₁ } Q) E s₂) E { s with heap := h₁, toks := tk₁ })
    (done : ∀ m₁ news₁ h tk, J n m₁ news₁ → news₁.map (·.1) = news.map (·.1) → Fr h₀ env.locals h m₁ → News h₀ env.locals h news₁ → wpAny (model prog w) A (execs orelse env) Q E { s with heap := h, toks := tk })
    (hE : PassesOwn (model prog w) A env E) :
    codeAny (model prog w) A (.forLoop target (.ref I) body orelse env) (fun r s' => match r with | .ok f => Q f s' | .error e => cameBackBy (model prog w) A env E e s') s := by
  have hLw : env.locals ∉ wr := fun h => hLf (W.sub _ h)
  have old : ∀ b o, h₀.get? b = some o → b ∉ wr := fun b o e hb => by rw [hwr b hb] at e; cases e
  have apart : ∀ nx : List (Addr × Obj), nx.map (·.1) = news.map (·.1) → ∀ p ∈ nx, p.1 ∉ wr := by
    intro nx hx p hp hw
    have h1 : p.1 ∈ news.map (·.1) := hx ▸ List.mem_map.mpr ⟨p, hp, rfl⟩
    obtain ⟨q, hq, e⟩ := List.mem_map.mp h1
    exact hnw q hq (e ▸ hw)
  refine codeAny_forLoop_any
    (fun k s' => ∃ h' tk m' news' i, s' = { s with heap := h', toks := tk } ∧ St i h' ∧ Fr h₀ env.locals h' m' ∧ News h₀ env.locals h' news' ∧ news'.map (·.1) = news.map (·.1) ∧ J i m' news' ∧ i ≤ n ∧ k = n + 1 - i) ?_ (n + 1)
    ⟨s.heap, s.toks, m, news, 0, rfl, hst, F, N, rfl, h0, Nat.zero_le _, rfl⟩
  rintro k s' ⟨h', tk, m', news', i, rfl, hst', F', N', hnw', hJ, hi, rfl⟩
  have next : ∀ h₁ : Heap, (∀ b o, b ∉ wr → h'.get? b = some o → h₁.get? b = some o) → Fr h₀ env.locals h₁ m' ∧ News h₀ env.locals h₁ news' := fun h₁ hk₁ =>
    ⟨⟨F'.ns.at' fun o e => hk₁ _ o hLw e, fun b o e => hk₁ b o (old b o e) (F'.keep b o e), F'.above⟩, fun p hp => ⟨hk₁ _ _ (apart _ hnw' p hp) (N' p hp).1, (N' p hp).2⟩⟩
  by_cases hlt : i < n
  · refine W.item i _ _ _ hlt hst' fun v h₁ tk₁ hMd hk₁ => ?_
    refine W.go i v _ _ _ hMd fun h₂ hP hst₂ hk₂ => ?_
    obtain ⟨F₂, N₂⟩ := next h₂ fun b o hb x => hk₂ b o hb (hk₁ b o hb x)
    have Nown : News h₀ env.locals h₂ (PyProof.Rows.ownOf h₀ fp h₂) := news_ownOf hLf
    have hoff : OwnOff (PyProof.Rows.ownOf h₀ fp h₂) adr := fun p hp b hb e => hadr b hb (e ▸ ownOf_sub p hp)
    have N₃ : News h₀ env.locals h₂ (news' ++ PyProof.Rows.ownOf h₀ fp h₂) := N₂.append Nown
    have T := turn i v m' news' h₂ tk₁ (PyProof.Rows.ownOf h₀ fp h₂) hlt hP hnw' hoff hJ F₂ N₃
    have fin : ∀ s₃, MEnd h₀ env.locals (J (i + 1)) (PyProof.Rows.ownOf h₀ fp h₂) (news.map (·.1)) { s with heap := h₂, toks := tk₁ } s₃ →
        ∃ mm, mm < n + 1 - i ∧ ∃ h' tk m' news' i, s₃ = { s with heap := h', toks := tk } ∧ St i h' ∧ Fr h₀ env.locals h' m' ∧ News h₀ env.locals h' news' ∧ news'.map (·.1) = news.map (·.1) ∧ J i m' news' ∧ i ≤ n ∧ mm = n + 1 - i := by
      rintro s₃ ⟨h₃, tk₃, m₃, all, nx, rfl, F₃, N₃, hn₃, ho₃, ha₃, hJ₃⟩
      refine ⟨n + 1 - (i + 1), by omega, h₃, tk₃, m₃, nx, i + 1, rfl, ?_, F₃, fun p hp => N₃ p (hn₃ p hp), ha₃, hJ₃, hlt, rfl⟩
      refine W.frame _ _ _ hst₂ fun b hb o e => ?_
      cases hn : h₀.get? b with
      | some o₀ =>
        have : o₀ = o := by have q := F₂.keep b o₀ hn; rw [e] at q; exact (Option.some.inj q).symm
        exact this ▸ F₃.keep b o₀ hn
      | none => exact (N₃ _ (ho₃ _ (mem_ownOf hb hn e))).1
    refine wpAny_mono T (fun _ s₂ h₂ => wpAny_mono (wpAny_passesOwn hE h₂) (fun f s₃ h₃ => ?_) fun _ _ e => e) hE
    cases f with
    | ret v => exact h₃
    | brk => exact h₃
    | cont => exact fin _ h₃
    | next => exact fin _ h₃
  · have hin : i = n := by omega
    subst hin
    refine W.done _ _ _ hst' fun h₁ tk₁ hk₁ => ?_
    obtain ⟨F₁, N₁⟩ := next h₁ hk₁
    exact wpAny_passesOwn hE (done m' news' h₁ tk₁ hJ hnw' F₁ N₁)
end
end Mine
end
section
open PySem PySem.W PyProof.Rows PySem.Calls PySem.Spec
namespace Mine
section
variable {prog : Program} {w : World} {A : Around} {E : Value → Shared → Prop} {s : Shared} {env : Env} {h₀ : Heap} {target : Expr} {body orelse : List Stmt} {Q : Flow → Shared → Prop}

theorem tupT_loop {l : Addr} {items : Array Value} {m : Str → Option Value} {news : List (Addr × Obj)} (J : Nat → (Str → Option Value) → List (Addr × Obj) → Prop)
    (hh : A.handled = none) (hl : h₀.IsTuple l items) (F : Fr h₀ env.locals s.heap m) (N : News h₀ env.locals s.heap news) (h0 : J 0 m news)
    (turn : ∀ i v m₁ news₁ h₁ tk₁ own, i < items.size → items[i]? = some v → news₁.map (·.1) = news.map (·.1) → OwnOff own (news.map (·.1)) → J i m₁ news₁ → Fr h₀ env.locals h₁ m₁ → News h₀ env.locals h₁ (news₁ ++ own) →
      wpAny (model prog w) A (assign target env v) (fun _ s₂ => wpAny (model prog w) A (execs body env) (MPost h₀ env.locals (J (i + 1)) own (news.map (·.1)) { s with heap := h₁, toks := tk₁ } Q) E s₂) E { s with heap := h₁, toks := tk₁ })
    (done : ∀ m₁ news₁ h tk, J items.size m₁ news₁ → news₁.map (·.1) = news.map (·.1) → Fr h₀ env.locals h m₁ → News h₀ env.locals h news₁ → wpAny (model prog w) A (execs orelse env) Q E { s with heap := h, toks := tk })
    (hE : PassesOwn (model prog w) A env E) :
    wpAny (model prog w) A (pyIter (.ref l)) (fun it s₂ => codeAny (model prog w) A (.forLoop target it body orelse env) (fun r s' => match r with | .ok f => Q f s' | .error e => cameBackBy (model prog w) A env E e s') s₂) E s := by
  have hls : s.heap.IsTuple l items := hl.at fun o e => F.keep l o e
  obtain ⟨ol, hol, _⟩ := id hl
  have hlt : l < h₀.objs.size := Heap.lt_size hol
  have hlL : l < env.locals := Nat.lt_of_lt_of_le hlt F.above
  have hLs : env.locals < s.heap.objs.size := F.ns.lt
  have hne : l ≠ s.heap.objs.size := Nat.ne_of_lt (Nat.lt_trans hlL hLs)
  refine wpAny_pyIter_tuple hls ?_
  have hfree : h₀.get? s.heap.objs.size = none := next_is_new F
  have hnl : ∀ p ∈ news, p.1 ≠ l := fun p hp e => by have := (N p hp).2.2; rw [e, hol] at this; cases this
  have hns : ∀ p ∈ news, p.1 ≠ s.heap.objs.size := fun p hp => Nat.ne_of_lt (Heap.lt_size (N p hp).1)
  refine mloop (KTurns.ofWalks (Walks.tuple hh s.heap.objs.size l hne items) fun i v s Q E st q => letGo_tupleiter st.1 q) J (news.map (·.1)) ?_ ?_ ?_ ?_ ?_ (F.push _) (fun p hp => ⟨Heap.get?_push_of_some _ (N p hp).1, (N p hp).2⟩) h0 (fun i v m₁ news₁ h₁ tk₁ own hi hP => turn i v m₁ news₁ h₁ tk₁ own hi hP) done hE
  · intro b hb hf
    obtain ⟨p, hp, rfl⟩ := List.mem_map.mp hb
    rcases List.mem_cons.mp hf with e | hf
    · exact hns p hp e
    · exact hnl p hp (List.mem_singleton.mp hf)
  · intro hf
    rcases List.mem_cons.mp hf with e | hf
    · exact Nat.ne_of_lt hLs e
    · exact Nat.ne_of_gt hlL (List.mem_singleton.mp hf)
  · intro b hb; rw [List.mem_singleton.mp hb]; exact hfree
  · intro p hp hb; exact hns p hp (List.mem_singleton.mp hb)
  · exact ⟨⟨_, Heap.get?_push_size _ rfl, rfl, rfl⟩, hls.at fun o e => Heap.get?_push_of_some _ e⟩

theorem enumT_loop {elts : List Expr} {k : Nat} {pos : Pos} {l : Addr} {items : Array Value} {m : Str → Option Value} {news : List (Addr × Obj)} (J : Nat → (Str → Option Value) → List (Addr × Obj) → Prop)
    (hh : A.handled = none) (hl : h₀.IsTuple l items) (F : Fr h₀ env.locals s.heap m) (N : News h₀ env.locals s.heap news) (h0 : J 0 m news)
    (turn : ∀ i x T t m₁ news₁ h₁ tk₁ own, i < items.size → items[i]? = some x → IsTup h₁ T #[.int (i : Int) t, x] → news₁.map (·.1) = news.map (·.1) → OwnOff own (news.map (·.1)) → J i m₁ news₁ → Fr h₀ env.locals h₁ m₁ → News h₀ env.locals h₁ (news₁ ++ own) →
      wpAny (model prog w) A (assign (.Tuple elts k pos) env (.ref T)) (fun _ s₂ => wpAny (model prog w) A (execs body env) (MPost h₀ env.locals (J (i + 1)) own (news.map (·.1)) { s with heap := h₁, toks := tk₁ } Q) E s₂) E { s with heap := h₁, toks := tk₁ })
    (done : ∀ m₁ news₁ h tk, J items.size m₁ news₁ → news₁.map (·.1) = news.map (·.1) → Fr h₀ env.locals h m₁ → News h₀ env.locals h news₁ → wpAny (model prog w) A (execs orelse env) Q E { s with heap := h, toks := tk })
    (hE : PassesOwn (model prog w) A env E) :
    wpAny (model prog w) A (call (.type "enumerate") [.ref l]) (fun xv s₁ => wpAny (model prog w) A (pyIter xv) (fun it s₂ => codeAny (model prog w) A (.forLoop (.Tuple elts k pos) it body orelse env) (fun r s' => match r with | .ok f => Q f s' | .error e => cameBackBy (model prog w) A env E e s') s₂) E s₁) E s := by
  have hls : s.heap.IsTuple l items := hl.at fun o e => F.keep l o e
  obtain ⟨ol, hol, _⟩ := id hl
  have hlt : l < h₀.objs.size := Heap.lt_size hol
  have hlL : l < env.locals := Nat.lt_of_lt_of_le hlt F.above
  have hLs : env.locals < s.heap.objs.size := F.ns.lt
  have hne : l ≠ s.heap.objs.size := Nat.ne_of_lt (Nat.lt_trans hlL hLs)
  have hne1 : l ≠ s.heap.objs.size + 1 := Nat.ne_of_lt (Nat.lt_succ_of_lt (Nat.lt_trans hlL hLs))
  refine call_enumerate_tuple hls fun h' hE' hI hsz hk => ?_
  refine wpAny_pyIter_enum hE' ?_
  have hfree : ∀ b, s.heap.objs.size ≤ b → h₀.get? b = none := fun b hb => ktu_new F hb
  have hnl : ∀ p ∈ news, p.1 ≠ l := fun p hp e => by have := (N p hp).2.2; rw [e, hol] at this; cases this
  have hns : ∀ p ∈ news, p.1 < s.heap.objs.size := fun p hp => Heap.lt_size (N p hp).1
  have D := drawsTuple (prog := prog) (w := w) (A := A.in1) hh s.heap.objs.size l hne items
  have W := KTurns.ofWalksU (elts := elts) (k := k) (pos := pos) (WalksT.enumerateD D (s.heap.objs.size + 1) (Nat.succ_ne_self _) (by
    intro hf
    rcases List.mem_cons.mp hf with e | hf
    · exact Nat.succ_ne_self _ e
    · exact hne1 (List.mem_singleton.mp hf).symm) (List.mem_cons_self ..)).toU
  refine mloop W J (news.map (·.1)) ?_ ?_ ?_ ?_ ?_ (F.keeps hk) (N.grown hk) h0 ?_ done hE
  · intro b hb hf
    obtain ⟨p, hp, rfl⟩ := List.mem_map.mp hb
    have := hns p hp
    simp only [List.mem_cons, List.not_mem_nil, or_false] at hf
    rcases hf with e | e | e
    · exact ktu_ne 1 this e
    · exact Nat.ne_of_lt this e
    · exact hnl p hp e
  · intro hf
    simp only [List.mem_cons, List.not_mem_nil, or_false] at hf
    rcases hf with e | e | e
    · exact ktu_ne 1 hLs e
    · exact Nat.ne_of_lt hLs e
    · exact Nat.ne_of_gt hlL e
  · intro b hb
    simp only [List.mem_cons, List.not_mem_nil, or_false] at hb
    rcases hb with rfl | rfl
    · exact hfree _ (Nat.le_succ _)
    · exact hfree _ (Nat.le_refl _)
  · intro p hp hb
    have := hns p hp
    simp only [List.mem_cons, List.not_mem_nil, or_false] at hb
    rcases hb with e | e
    · exact ktu_ne 1 this e
    · exact Nat.ne_of_lt this e
  · exact ⟨⟨.none, hE'⟩, hI, hls.at fun o e => hk l o e⟩
  · rintro i v m₁ news₁ h₁ tk₁ own hi ⟨T, vals, rfl, ⟨t, x, hx, rfl⟩, hT⟩ ha ho hJ F₁ N₁
    exact turn i x T t m₁ news₁ h₁ tk₁ own hi hx hT ha ho hJ F₁ N₁

theorem strT_loop {nm : Str} {np : Pos} {x : Str} {t : Tok} {m : Str → Option Value} {news : List (Addr × Obj)} (J : Nat → (Str → Option Value) → List (Addr × Obj) → Prop)
    (hh : A.handled = none) (F : Fr h₀ env.locals s.heap m) (N : News h₀ env.locals s.heap news) (h0 : J 0 m news)
    (turn : ∀ i c u m₁ news₁ h₁ tk₁ own, i < x.cps.size → x.cps[i]? = some c → news₁.map (·.1) = news.map (·.1) → OwnOff own (news.map (·.1)) → J i m₁ news₁ → Fr h₀ env.locals h₁ m₁ → News h₀ env.locals h₁ (news₁ ++ own) →
      wpAny (model prog w) A (assign (.Name nm np) env (.str ⟨#[c]⟩ u)) (fun _ s₂ => wpAny (model prog w) A (execs body env) (MPost h₀ env.locals (J (i + 1)) own (news.map (·.1)) { s with heap := h₁, toks := tk₁ } Q) E s₂) E { s with heap := h₁, toks := tk₁ })
    (done : ∀ m₁ news₁ h tk, J x.cps.size m₁ news₁ → news₁.map (·.1) = news.map (·.1) → Fr h₀ env.locals h m₁ → News h₀ env.locals h news₁ → wpAny (model prog w) A (execs orelse env) Q E { s with heap := h, toks := tk })
    (hE : PassesOwn (model prog w) A env E) :
    wpAny (model prog w) A (pyIter (.str x t)) (fun it s₂ => codeAny (model prog w) A (.forLoop (.Name nm np) it body orelse env) (fun r s' => match r with | .ok f => Q f s' | .error e => cameBackBy (model prog w) A env E e s') s₂) E s := by
  refine wpAny_pyIter_str fun o St hW hst => ?_
  have W := hW A hh
  have hLs : env.locals < s.heap.objs.size := F.ns.lt
  have hfree : h₀.get? s.heap.objs.size = none := next_is_new F
  have hns : ∀ p ∈ news, p.1 ≠ s.heap.objs.size := fun p hp => Nat.ne_of_lt (Heap.lt_size (N p hp).1)
  refine mloop (KTurns.ofWalks W fun i v s Q E st q => wpAny_pure q) J (news.map (·.1)) ?_ ?_ ?_ ?_ hst (F.push _) (fun p hp => ⟨Heap.get?_push_of_some _ (N p hp).1, (N p hp).2⟩) h0 ?_ done hE
  · intro b hb hf
    obtain ⟨p, hp, rfl⟩ := List.mem_map.mp hb
    exact hns p hp (List.mem_singleton.mp hf)
  · intro hf
    exact Nat.ne_of_lt hLs (List.mem_singleton.mp hf)
  · intro b hb; rw [List.mem_singleton.mp hb]; exact hfree
  · intro p hp hb; exact hns p hp (List.mem_singleton.mp hb)
  · rintro i v m₁ news₁ h₁ tk₁ own hi ⟨c, u, hc, rfl⟩ ha ho hJ F₁ N₁
    exact turn i c u m₁ news₁ h₁ tk₁ own hi hc ha ho hJ F₁ N₁
end
end Mine
end
section
open PySem PySem.W PyProof.Rows PySem.Calls PySem.Spec
namespace Mine
def s1 (x : String) : Str := Str.ofString x
/-- the table of signs -/
def fmTabs : List (List (Int × Str)) :=
  [[(40960, s1 "l"), (49152, s1 "s"), (32768, s1 "-"), (24576, s1 "b"), (16384, s1 "d"), (8192, s1 "c"), (4096, s1 "p")],
   [(256, s1 "r")], [(128, s1 "w")], [(2112, s1 "s"), (2048, s1 "S"), (64, s1 "x")],
   [(32, s1 "r")], [(16, s1 "w")], [(1032, s1 "s"), (1024, s1 "S"), (8, s1 "x")],
   [(4, s1 "r")], [(2, s1 "w")], [(513, s1 "t"), (512, s1 "T"), (1, s1 "x")]]
def fmHit (k : Nat) (mode b : Int) : Bool := if k = 0 then decide (Builtin.bitAnd mode 61440 = b) else decide (Builtin.bitAnd mode b = b)
def fmPick (k : Nat) (mode : Int) : List (Int × Str) → Str
  | [] => if k = 0 then s1 "?" else s1 "-"
  | (b, c) :: r => if fmHit k mode b then c else fmPick k mode r
def fmList (mode : Int) : List Str := fmTabs.mapIdx fun k t => fmPick k mode t
def Ent (h : Heap) (v : Value) (p : Int × Str) : Prop := ∃ e tb tc, v = .ref e ∧ h.IsTuple e #[.int p.1 tb, .str p.2 tc]
def Tbl (h : Heap) (v : Value) (ents : List (Int × Str)) : Prop := ∃ (T : Addr) (vs : List Value), v = .ref T ∧ h.IsTuple T vs.toArray ∧ vs.length = ents.length ∧ ∀ (j : Nat) v p, vs[j]? = some v → ents[j]? = some p → Ent h v p
theorem fr_eq {h₀ h : Heap} {L : Addr} {m m' : Str → Option Value} (F : Fr h₀ L h m) (e : ∀ y, m y = m' y) : Fr h₀ L h m' := by
  have : m = m' := funext e
  rw [← this]; exact F
theorem news_sub {h₀ h : Heap} {L : Addr} {a b : List (Addr × Obj)} (N : News h₀ L h a) (hs : ∀ p ∈ b, p ∈ a) : News h₀ L h b := fun p hp => N p (hs p hp)
end Mine
namespace Mine
theorem fr_know {h₀ h : Heap} {L : Addr} {m : Str → Option Value} (F : Fr h₀ L h m) {x : Str} {v : Value} (hx : m x = some v) : Fr h₀ L h (fun y => if y = x then some v else m y) :=
  fr_eq F (by intro y; split <;> simp_all)
theorem fr_know2 {h₀ h : Heap} {L : Addr} {m : Str → Option Value} (F : Fr h₀ L h m) {x x' : Str} {v v' : Value} (hx : m x = some v) (hx' : m x' = some v') : Fr h₀ L h (fun y => if y = x then some v else if y = x' then some v' else m y) :=
  fr_eq F (by intro y; split <;> (try split) <;> simp_all)
theorem fr_know3 {h₀ h : Heap} {L : Addr} {m : Str → Option Value} (F : Fr h₀ L h m) {x x' x'' : Str} {v v' v'' : Value} (hx : m x = some v) (hx' : m x' = some v') (hx'' : m x'' = some v'') : Fr h₀ L h (fun y => if y = x then some v else if y = x' then some v' else if y = x'' then some v'' else m y) :=
  fr_eq F (by
    intro y
    by_cases h1 : y = x
    · simp [h1, hx]
    · by_cases h2 : y = x'
      · simp only [if_neg h1, if_pos h2]; rw [h2, hx']
      · by_cases h3 : y = x''
        · simp only [if_neg h1, if_neg h2, if_pos h3]; rw [h3, hx'']
        · simp only [if_neg h1, if_neg h2, if_neg h3])
end Mine
namespace Mine
/-- a def's contract: called from any frame it changes nothing that stands, and hands back what Post says -/
def PC (d : Nat) (prog : Program) (w : World) (K : Frag) (p : Program) (loose : List Str) (mean : ExcName → Option Value) (mg mb : Str → Option Value) (f : Addr) (vs : List Value) (pre : Heap → Prop) (Post : Value → Heap → Heap → Prop) : Prop :=
  ∀ ⦃dp un : Nat⦄ ⦃gd : Option (List Code)⦄ ⦃cn : Str⦄ ⦃cs : Scope⦄ ⦃a : Addr⦄ ⦃ccd : Value⦄ ⦃cl : List (Str × Addr)⦄ ⦃outer : List Env⦄ ⦃A₀ : Around⦄ ⦃base h₀ : Heap⦄ ⦃L : Addr⦄ ⦃m : Str → Option Value⦄ ⦃s : Shared⦄ ⦃Q E : Value → Shared → Prop⦄,
    Below A₀ base outer h₀ → Fr h₀ L s.heap m → K.In h₀ → Top p loose mean mg mb h₀ → cs.kind = .function → dp + d < recursionLimit → un + 8 * d < cLine → pre s.heap →
    (∀ (v : Value) (h' : Heap) (tk' : Nat), (∀ b o, s.heap.get? b = some o → h'.get? b = some o) → Post v s.heap h' → Q v { s with heap := h', toks := tk' }) →
    wpAny (model prog w) (ktrTop dp un gd cn cs L a ccd cl outer) (call (.ref f) vs) Q E s
theorem PC.use {d : Nat} {prog : Program} {w : World} {K : Frag} {p : Program} {loose : List Str} {mean : ExcName → Option Value} {mg mb : Str → Option Value} {f : Addr} {vs : List Value} {pre : Heap → Prop} {Post : Value → Heap → Heap → Prop}
    (C : PC d prog w K p loose mean mg mb f vs pre Post)
    {dp un : Nat} {gd : Option (List Code)} {cn : Str} {cs : Scope} {a : Addr} {ccd : Value} {cl : List (Str × Addr)} {outer : List Env} {A₀ : Around} {base h₀ : Heap} {L : Addr} {m : Str → Option Value} {news : List (Addr × Obj)} {s : Shared} {Q E : Value → Shared → Prop}
    (B : Below A₀ base outer h₀) (F : Fr h₀ L s.heap m) (X : K.In h₀) (N : News h₀ L s.heap news) (T : Top p loose mean mg mb h₀) (hk : cs.kind = .function) (hd : dp + d < recursionLimit) (hu : un + 8 * d < cLine) (hp : pre s.heap)
    (ret : ∀ (v : Value) (h' : Heap) (tk' : Nat), Fr h₀ L h' m → News h₀ L h' news → (∀ b o, s.heap.get? b = some o → h'.get? b = some o) → Post v s.heap h' → Q v { s with heap := h', toks := tk' }) :
    wpAny (model prog w) (ktrTop dp un gd cn cs L a ccd cl outer) (call (.ref f) vs) Q E s :=
  C B F X T hk hd hu hp fun v h' tk' k q => ret v h' tk' (F.keeps k) (N.grown k) k q
section
variable {s : Shared} {g h' : Heap} {L' : Addr} {m' : Str → Option Value} {Q : Value → Shared → Prop} {t : Tok} {tk' : Nat}
theorem retI {x y : Int} (hret : ∀ (v : Value) (h' : Heap) (tk' : Nat), (∀ b o, s.heap.get? b = some o → h'.get? b = some o) → (∃ t, v = .int x t) → Q v { s with heap := h', toks := tk' })
    (G : GSub s.heap g (List.map (·.1) ([] : List (Addr × Obj)))) (F : Fr g L' h' m') (e : y = x) : Q (.int y t) { s with heap := h', toks := tk' } :=
  hret _ _ _ (fun b o q => F.keep b o (G b o q (by simp))) ⟨t, by rw [e]⟩
theorem retS {x y : Str} (hret : ∀ (v : Value) (h' : Heap) (tk' : Nat), (∀ b o, s.heap.get? b = some o → h'.get? b = some o) → (∃ t, v = .str x t) → Q v { s with heap := h', toks := tk' })
    (G : GSub s.heap g (List.map (·.1) ([] : List (Addr × Obj)))) (F : Fr g L' h' m') (e : y = x) : Q (.str y t) { s with heap := h', toks := tk' } :=
  hret _ _ _ (fun b o q => F.keep b o (G b o q (by simp))) ⟨t, by rw [e]⟩
end
abbrev AnyH : Heap → Prop := fun _ => True
abbrev IntP (x : Int) : Value → Heap → Heap → Prop := fun v _ _ => ∃ t, v = .int x t
abbrev StrP (x : Str) : Value → Heap → Heap → Prop := fun v _ _ => ∃ t, v = .str x t
end Mine
namespace Mine
theorem fmPick_at {k : Nat} {mode : Int} {ents : List (Int × Str)} {j : Nat} {b : Int} {c : Str} (hb : ents[j]? = some (b, c)) :
    fmPick k mode (ents.drop j) = if fmHit k mode b then c else fmPick k mode (ents.drop (j + 1)) := by
  obtain ⟨hj, e⟩ := List.getElem?_eq_some_iff.mp hb
  rw [List.drop_eq_getElem_cons hj, e]; rfl
theorem fmHit_zero {i : Nat} {x b : Int} (h : (i : Int) = 0) : fmHit i x b = decide (Builtin.bitAnd x 61440 = b) := by
  have : i = 0 := by omega
  simp [fmHit, this]
theorem fmHit_pos {i : Nat} {x b : Int} (h : (i : Int) ≠ 0) : fmHit i x b = decide (Builtin.bitAnd x b = b) := by
  have : i ≠ 0 := by omega
  simp [fmHit, this]
theorem fmList_len (x : Int) : (fmList x).length = 10 := by simp [fmList, fmTabs]
theorem fmList_take {x : Int} {i : Nat} {ents : List (Int × Str)} (he : fmTabs[i]? = some ents) : (fmList x).take (i + 1) = (fmList x).take i ++ [fmPick i x ents] := by
  rw [List.take_add_one]
  have : (fmList x)[i]? = some (fmPick i x ents) := by simp [fmList, he]
  rw [this]; rfl
def FmJ (x : Int) (t : Tok) (l : Addr) (news : List (Addr × Obj)) (i : Nat) (m : Str → Option Value) (nx : List (Addr × Obj)) : Prop :=
  ∃ (vs : List Value) (n : Nat), StrsAre vs ((fmList x).take i) ∧ nx = (l, W.listOf vs.toArray n) :: news ∧ m (Str.ofString "perm") = some (.ref l) ∧ m (Str.ofString "mode") = some (.int x t)
def FmK (x : Int) (t : Tok) (l : Addr) (o : Obj) (own : List (Addr × Obj)) (i : Nat) (ti : Tok) (ents : List (Int × Str)) (j : Nat) (m : Str → Option Value) (nx : List (Addr × Obj)) : Prop :=
  fmPick i x ents = fmPick i x (ents.drop j) ∧ nx = (l, o) :: own ∧ m (Str.ofString "perm") = some (.ref l) ∧ m (Str.ofString "mode") = some (.int x t) ∧ m (Str.ofString "index") = some (.int (i : Int) ti)
theorem FmJ_next {x : Int} {t : Tok} {lp : Addr} {news own own3 : List (Addr × Obj)} {i : Nat} {vs : List Value} {n : Nat} {ents : List (Int × Str)} {c : Str} {tc : Tok} {g h' : Heap} {L : Addr} {m' : Str → Option Value} {s₁ : Shared} {tk : Nat} {o : Obj}
    (hs : StrsAre vs ((fmList x).take i)) (he : fmTabs[i]? = some ents) (hc : fmPick i x ents = c) (F : Fr g L h' m') (hp : m' (Str.ofString "perm") = some (.ref lp)) (hm : m' (Str.ofString "mode") = some (.int x t))
    (N : News g L h' ((lp, W.listOf (vs.toArray.push (.str c tc)) (n + 1)) :: own3)) (hown : ∀ p ∈ news ++ own, p ∈ own3) :
    MEnd g L (FmJ x t lp news (i + 1)) own (((lp, o) :: news).map (·.1)) s₁ { s₁ with heap := h', toks := tk } := by
  rw [List.push_toArray] at N
  refine MEnd.intro ((lp, W.listOf (vs ++ [Value.str c tc]).toArray (n + 1)) :: news) F N ⟨_, _, ?_, rfl, hp, hm⟩ rfl ?_ ?_
  · rw [fmList_take he, hc]
    exact StrsAre.append' hs (.cons _ _ .nil)
  · intro p hp
    rcases List.mem_cons.mp hp with rfl | hp
    · exact .head _
    · exact .tail _ (hown p (List.mem_append.mpr (.inl hp)))
  · intro p hp
    exact .tail _ (hown p (List.mem_append.mpr (.inr hp)))
theorem FmK_next {x : Int} {t : Tok} {lp : Addr} {o o' : Obj} {own1 own2 own3 : List (Addr × Obj)} {i j : Nat} {ti : Tok} {ents : List (Int × Str)} {g h' : Heap} {L : Addr} {m' : Str → Option Value} {s₁ : Shared} {tk : Nat}
    (hk : fmPick i x ents = fmPick i x (ents.drop (j + 1))) (F : Fr g L h' m') (hp : m' (Str.ofString "perm") = some (.ref lp)) (hm : m' (Str.ofString "mode") = some (.int x t)) (hi : m' (Str.ofString "index") = some (.int (i : Int) ti))
    (N : News g L h' ((lp, o) :: own3)) (hown : ∀ p ∈ own1 ++ own2, p ∈ own3) :
    MEnd g L (FmK x t lp o own1 i ti ents (j + 1)) own2 (((lp, o') :: own1).map (·.1)) s₁ { s₁ with heap := h', toks := tk } := by
  refine MEnd.intro ((lp, o) :: own1) F N ⟨hk, rfl, hp, hm, hi⟩ rfl ?_ ?_
  · intro p hp
    rcases List.mem_cons.mp hp with rfl | hp
    · exact .head _
    · exact .tail _ (hown p (List.mem_append.mpr (.inl hp)))
  · intro p hp
    exact .tail _ (hown p (List.mem_append.mpr (.inr hp)))
end Mine
namespace Mine
theorem fmPick_len (k : Nat) (x : Int) : ∀ (t : List (Int × Str)), (∀ p ∈ t, p.2.length = 1) → (fmPick k x t).length = 1
  | [], _ => by unfold fmPick; split <;> decide
  | (b, c) :: r, h => by
    unfold fmPick
    split
    · exact h (b, c) (List.mem_cons_self ..)
    · exact fmPick_len k x r fun p hp => h p (List.mem_cons_of_mem _ hp)
theorem fmTabs_len : ∀ t ∈ fmTabs, ∀ p ∈ t, p.2.length = 1 := by decide
theorem fmList_ones (x : Int) : ∀ a ∈ fmList x, a.length = 1 := by
  intro a ha
  obtain ⟨i, hi, e⟩ := List.mem_mapIdx.mp ha
  rw [← e]
  exact fmPick_len _ _ _ (fmTabs_len _ (List.getElem_mem hi))
theorem fmList_sum (x : Int) : ((fmList x).map (·.length)).sum + (fmList x).length * 64 ≤ 16777216 := by
  rw [sumLen_of_ones _ (fmList_ones x), fmList_len]; decide
def fmStr (mode : Int) : Str := Txt.join (Str.ofString "") (fmList mode)
end Mine
namespace Mine
theorem news_head {h₀ h : Heap} {L l : Addr} {o : Obj} {r : List (Addr × Obj)} (_ : News h₀ L h ((l, o) :: r)) : ∃ l', l' = l := ⟨l, rfl⟩
theorem news_heap {h₀ h : Heap} {L : Addr} {r : List (Addr × Obj)} (_ : News h₀ L h r) : ∃ h', h' = h := ⟨h, rfl⟩
end Mine
namespace Mine
/-- one int name is turned, the ledger stays -/
def IntJ (nm : Str) (led : List (Addr × Obj)) (val : Nat → Int) (i : Nat) (m : Str → Option Value) (nx : List (Addr × Obj)) : Prop := nx = led ∧ ∃ t, m nm = some (.int (val i) t)
theorem IntJ_next {nm : Str} {led own all : List (Addr × Obj)} {val : Nat → Int} {i : Nat} {g h' : Heap} {L : Addr} {m' : Str → Option Value} {s₁ : Shared} {tk : Nat} {t : Tok} {z : Int}
    (F : Fr g L h' m') (N : News g L h' all) (hm : m' nm = some (.int z t)) (hz : z = val (i + 1)) (hl : ∀ p ∈ led, p ∈ all) (ho : ∀ p ∈ own, p ∈ all) :
    MEnd g L (IntJ nm led val (i + 1)) own (led.map (·.1)) s₁ { s₁ with heap := h', toks := tk } :=
  MEnd.intro led F N ⟨rfl, t, by rw [hm, hz]⟩ rfl hl ho
theorem code_take {x : Str} {i c : Nat} (h : x.cps[i]? = some c) : (KStt.codes x).take (i + 1) = (KStt.codes x).take i ++ [(c : Int)] := by
  rw [List.take_add_one, KStt.code_at h]; rfl
theorem foldl_code {f : Int → Int → Int} {r : Int} {x : Str} {i c : Nat} (h : x.cps[i]? = some c) : ((KStt.codes x).take (i + 1)).foldl f r = f (((KStt.codes x).take i).foldl f r) (c : Int) := by
  rw [code_take h, List.foldl_append]; rfl
theorem foldl_codes {f : Int → Int → Int} {r : Int} {x : Str} : ((KStt.codes x).take x.cps.size).foldl f r = (KStt.codes x).foldl f r := by
  rw [List.take_of_length_le (by rw [KStt.codes_length]; exact Nat.le_refl _)]
end Mine
namespace Mine
section
variable {prog : Program} {w : World} {A₀ A : Around} {s : Shared} {base h₀ : Heap} {outer : List Env} {L : Addr} {m : Str → Option Value} {env : Env} {K : Frag} {p : Program} {loose : List Str} {mean : ExcName → Option Value} {mg mb : Str → Option Value}
/-- a def with cells is entered, what the caller made being part of the ground -/
theorem enterC {R : Result → Shared → Prop} {name qual : Str} {params : Arguments} {body : List Stmt} {scope : Scope} {dV kV doc pm cdv ct oc : Value} {an od : Option Addr} {osl : Array (Option Value)} {f : Addr} {args : Args} {binds : List (Str × Value)}
    (B : Below A₀ base outer h₀) (F : Fr h₀ L s.heap m) (X₀ : K.In h₀) (T : Top p loose mean mg mb h₀) (hA : A.frames = some (env :: outer)) (hf : env.frame = some L) (hke : env.scope.kind = .function)
    (ho : K.lookup f = some ⟨oc, od, .func (fnOf name qual params body scope dV kV doc pm an cdv ct), osl⟩) (hcd : codeIn K cdv qual = true) (hroom : A.depth < recursionLimit)
    (hbind : BindsTo s (fnOf name qual params body scope dV kV doc pm an cdv ct) args binds) (hkind : (binds.all fun y => scope.names.lookup y.1 == some .local || scope.names.lookup y.1 == some .cell) = true)
    (hnd : ((cellsFrom 0 scope.names []).map (·.1)).Nodup)
    (h : ∀ g L' h₁ tk cells, Fr h₀ L g m → Fr g L' h₁ (bindL (envOfC qual scope L' f cdv).kindOf binds fun _ => none) → News g L' h₁ (cells ++ []) →
      CellsAre (bindC (envOfC qual scope L' f cdv).kindOf binds fun _ => none) (cellsFrom (L' + 1) scope.names []) cells → Below A base (env :: outer) g → K.In g → Top p loose mean mg mb g → GSub s.heap g (List.map (·.1) ([] : List (Addr × Obj))) →
      wpAny (model prog w) (A.deeper (envOfC qual scope L' f cdv)) (execs body (envOfC qual scope L' f cdv))
        (fun fl s' => LeaveK h₀ L m g R (match fl with | .ret v => v | _ => .none) s')
        (fun e s' => wpAny (model prog w) (A.deeper (envOfC qual scope L' f cdv)) (leaving (envOfC qual scope L' f cdv) e) (fun _ s'' => R (.error e) s'') (fun e' s'' => R (.error e') s'') s')
        { s with heap := h₁, toks := tk })
    (hco : scope.isCoroutine = false) (hgen : scope.isGenerator = false) (hk : scope.kind = .function) : codeAny (model prog w) A (.call (.ref f) args) R s := by
  obtain ⟨FG, BG, st, lv⟩ := groundX (R := R) (news := []) B F News.nil hA hf hke
  refine codeAny_call_function hroom ((X₀.keeps F.keep) _ _ ho) rfl hco hgen rfl (codeRec_of (X₀.keeps F.keep) hcd) (hbind _ _ _ _ ?_)
  refine wpAny_newFunctionEnv_cells hk (kindsX hkind _) fun env' he s' x => ?_
  subst he
  refine ⟨(T.nolimit.keeps F.keep).keeps x.toInCall.keep, codeAny_func ?_⟩
  obtain ⟨h₁, tk, rfl, _⟩ := x.done
  have hk₁ := x.toInCall.keep
  obtain ⟨cells, NC, Y⟩ := Cl.news (h₀ := s.heap) (Nat.le_refl _) fun n c hm => ⟨x.cell n c (lookup_of_mem_nodup (cellsFrom_names scope.names 0 (s.heap.objs.size + 1) [] [] rfl ▸ hnd) hm), x.above n c hm⟩
  refine wpAny_mono (h _ s.heap.objs.size h₁ tk cells FG ⟨x.toInCall.ns, fun b o e => hk₁ b o (of_hideAll _ e), Nat.le_of_eq (hideAll_size _ _)⟩ (fun q hq => ?_) Y BG (X₀.keeps st) (T.keeps st) (fun b o e n => hideAll_get _ e n)) (fun fl s' hl => lv _ _ hl) fun _ _ y => y
  rw [List.append_nil] at hq
  exact NC q hq
end
end Mine
namespace Mine
/-- a new object comes back -/
abbrev ObjP (P : Obj → Prop) : Value → Heap → Heap → Prop := fun v h h' => ∃ D o, v = .ref D ∧ h.get? D = none ∧ h'.get? D = some o ∧ P o
theorem PC.useO {d : Nat} {prog : Program} {w : World} {K : Frag} {p : Program} {loose : List Str} {mean : ExcName → Option Value} {mg mb : Str → Option Value} {f : Addr} {vs : List Value} {pre : Heap → Prop} {P : Obj → Prop}
    (C : PC d prog w K p loose mean mg mb f vs pre (ObjP P))
    {dp un : Nat} {gd : Option (List Code)} {cn : Str} {cs : Scope} {a : Addr} {ccd : Value} {cl : List (Str × Addr)} {outer : List Env} {A₀ : Around} {base h₀ : Heap} {L : Addr} {m : Str → Option Value} {news : List (Addr × Obj)} {s : Shared} {Q E : Value → Shared → Prop}
    (B : Below A₀ base outer h₀) (F : Fr h₀ L s.heap m) (X : K.In h₀) (N : News h₀ L s.heap news) (T : Top p loose mean mg mb h₀) (hk : cs.kind = .function) (hd : dp + d < recursionLimit) (hu : un + 8 * d < cLine) (hp : pre s.heap)
    (ret : ∀ (D : Addr) (o : Obj) (h' : Heap) (tk' : Nat), Fr h₀ L h' m → News h₀ L h' ((D, o) :: news) → (∀ p ∈ news, p.1 ≠ D) → P o → Q (.ref D) { s with heap := h', toks := tk' }) :
    wpAny (model prog w) (ktrTop dp un gd cn cs L a ccd cl outer) (call (.ref f) vs) Q E s := by
  refine C B F X T hk hd hu hp fun v h' tk' k q => ?_
  obtain ⟨D, o, rfl, hn, ho, hP⟩ := q
  refine ret D o h' tk' (F.keeps k) ?_ ?_ hP
  · intro q hq
    rcases List.mem_cons.mp hq with rfl | hq
    · refine ⟨ho, ?_, ?_⟩
      · obtain ⟨oL, _, _, hL, _⟩ := F.ns
        intro e
        have e' : D = L := e
        rw [← e', hn] at hL
        cases hL
      · cases hb : h₀.get? D with
        | none => rfl
        | some o' => have := F.keep D o' hb; rw [hn] at this; cases this
    · exact (N.grown k) q hq
  · intro q hq e
    have := (N q hq).1
    rw [e, hn] at this
    cases this
theorem retO {s : Shared} {g h' : Heap} {L' : Addr} {m' : Str → Option Value} {Q : Value → Shared → Prop} {tk' : Nat} {P : Obj → Prop} {D : Addr} {o : Obj} {all : List (Addr × Obj)}
    (hret : ∀ (v : Value) (h' : Heap) (tk' : Nat), (∀ b o, s.heap.get? b = some o → h'.get? b = some o) → ObjP P v s.heap h' → Q v { s with heap := h', toks := tk' })
    (G : GSub s.heap g (List.map (·.1) ([] : List (Addr × Obj)))) (F : Fr g L' h' m') (N : News g L' h' ((D, o) :: all)) (hP : P o) : Q (.ref D) { s with heap := h', toks := tk' } := by
  refine hret _ _ _ (fun b o q => F.keep b o (G b o q (by simp))) ⟨D, o, rfl, ?_, (N _ (.head _)).1, hP⟩
  cases hb : s.heap.get? D with
  | none => rfl
  | some o' => have := G D o' hb (by simp); rw [(N _ (.head _)).2.2] at this; cases this
abbrev L3 (x y z : Int) : Obj → Prop := fun o => ∃ t1 t2 t3 n, o = W.listOf #[.int x t1, .int y t2, .int z t3] n
end Mine
namespace Mine
theorem L3.of {x y z x' y' z' : Int} {t1 t2 t3 : Tok} (hx : x' = x) (hy : y' = y) (hz : z' = z) : L3 x y z (LCg.lst [.int x' t1, .int y' t2, .int z' t3]) := by
  subst hx hy hz
  exact ⟨t1, t2, t3, _, rfl⟩
end Mine
namespace Mine
theorem PC.mono {d : Nat} {prog : Program} {w : World} {K : Frag} {p : Program} {loose : List Str} {mean : ExcName → Option Value} {mg mb : Str → Option Value} {f : Addr} {vs : List Value} {pre : Heap → Prop} {Post Post' : Value → Heap → Heap → Prop}
    (C : PC d prog w K p loose mean mg mb f vs pre Post) (h : ∀ v h₁ h₂, Post v h₁ h₂ → Post' v h₁ h₂) : PC d prog w K p loose mean mg mb f vs pre Post' := by
  unfold PC
  intro dp un gd cn cs a ccd cl outer A₀ base h₀ L m s Q E B F X T hk hd hu hp hret
  exact C B F X T hk hd hu hp fun v h' tk' k q => hret v h' tk' k (h _ _ _ q)
end Mine
end
section
open PySem PySem.W PyProof.Rows PySem.Calls PySem.Spec
namespace Mine
def crcStep (c : Int) : Int := if ¬ Builtin.bitAnd c 1 = 0 then Builtin.bitXor (c.fdiv (2 ^ Int.toNat 1)) 3988292384 else c.fdiv (2 ^ Int.toNat 1)
def genCrc (c : Int) : Int := (rangeKs 0 8).foldl (fun a _ => crcStep a) c
end Mine
namespace Mine
theorem fmStr_len (x : Int) : (fmStr x).length = 10 := by
  unfold fmStr
  rw [KT.join_ones _ (fmList_ones x), fmList_len]
def regStep (r c : Int) : Int := Builtin.bitXor (r.fdiv 256) (genCrc ((Builtin.bitXor r c).fmod 256))
def sumText (x : Str) : Int := (KStt.codes x).foldl regStep (2 ^ Int.toNat 32 - 1)
def listing (a b c : Int) : Str := Txt.join (Str.ofString "") [fmStr a, fmStr b, fmStr c]
def sumOf (a b c : Int) : Int := sumText (listing a b c)
theorem regStep_next {pre : List Int} {r c : Int} {z : Int} (h : r = pre.foldl regStep (2 ^ Int.toNat 32 - 1)) (hz : z = regStep r c) : z = (pre ++ [c]).foldl regStep (2 ^ Int.toNat 32 - 1) := by
  rw [List.foldl_append, ← h, hz]; rfl
theorem listing_room (a b c : Int) : (([fmStr a, fmStr b, fmStr c]).map (·.length)).sum + ([fmStr a, fmStr b, fmStr c] : List Str).length * 64 ≤ 16777216 := by
  simp [fmStr_len]
end Mine
end
section
open PySem PySem.W PyProof.Rows PySem.Calls PySem.Spec
namespace Mine

theorem compTurn_emit (kx vx : Expr) (x : Str) (px : Pos) (iter : Expr) (scope : Scope) (pos : Pos) (it : Value) (D : Addr) (env : Env) :
    compTurn (.DictComp kx vx [⟨.Name x px, iter, [], 0⟩] scope pos) 0 it (.ref D) env = (do
      standAt iter.pos
      match ← pyNext it with
      | none => pure (.done .next)
      | some v =>
        letOwnedTupleGo (.Name x px) it v
        assign (.Name x px) env v
        (do
            let kv ← eval kx env
            let vv ← holding [kv] (eval vx env)
            standAt { kx.pos with endLine := vx.pos.endLine, endCol := vx.pos.endCol }
            holding [kv, vv] (dictSet D kv vv))
        again (.compLoop (.DictComp kx vx [⟨.Name x px, iter, [], 0⟩] scope pos) 0 it (.ref D) env)) := by rfl
theorem compTurn_emit2 (kx vx t1 i1 : Expr) (y : Str) (py : Pos) (i2 : Expr) (scope : Scope) (pos : Pos) (it : Value) (D : Addr) (env : Env) :
    compTurn (.DictComp kx vx [⟨t1, i1, [], 0⟩, ⟨.Name y py, i2, [], 0⟩] scope pos) 1 it (.ref D) env = (do
      standAt i2.pos
      match ← pyNext it with
      | none => pure (.done .next)
      | some v =>
        letOwnedTupleGo (.Name y py) it v
        assign (.Name y py) env v
        (do
            let kv ← eval kx env
            let vv ← holding [kv] (eval vx env)
            standAt { kx.pos with endLine := vx.pos.endLine, endCol := vx.pos.endCol }
            holding [kv, vv] (dictSet D kv vv))
        again (.compLoop (.DictComp kx vx [⟨t1, i1, [], 0⟩, ⟨.Name y py, i2, [], 0⟩] scope pos) 1 it (.ref D) env)) := by rfl
theorem compTurn_out (kx vx : Expr) (x : Str) (px : Pos) (i1 t2 i2 : Expr) (scope : Scope) (pos : Pos) (it : Value) (D : Addr) (env : Env) :
    compTurn (.DictComp kx vx [⟨.Name x px, i1, [], 0⟩, ⟨t2, i2, [], 0⟩] scope pos) 0 it (.ref D) env = (do
      standAt i1.pos
      match ← pyNext it with
      | none => pure (.done .next)
      | some v =>
        letOwnedTupleGo (.Name x px) it v
        assign (.Name x px) env v
        let xv ← eval i2 env
        standAt i2.pos
        let xv ← foldedSetIterable i2 env xv
        let _ ← runOwn (.compStart (.DictComp kx vx [⟨.Name x px, i1, [], 0⟩, ⟨t2, i2, [], 0⟩] scope pos) 1 (← holding [xv] (pyIter xv)) (.ref D) env) env
        again (.compLoop (.DictComp kx vx [⟨.Name x px, i1, [], 0⟩, ⟨t2, i2, [], 0⟩] scope pos) 0 it (.ref D) env)) := by rfl

def emitTree (kx vx : Expr) (x : Str) (px ipos : Pos) (it : Value) (D : Addr) (env : Env) (c : Code) : Sem PySem.Fin := do
  standAt ipos
  match ← pyNext it with
  | none => pure (.done .next)
  | some v =>
    letOwnedTupleGo (.Name x px) it v
    assign (.Name x px) env v
    (do
        let kv ← eval kx env
        let vv ← holding [kv] (eval vx env)
        standAt { kx.pos with endLine := vx.pos.endLine, endCol := vx.pos.endCol }
        holding [kv, vv] (dictSet D kv vv))
    again c
def Off3' (I C D : Addr) (led : List (Addr × Obj)) : Prop := ∀ p ∈ led, p.1 ≠ I ∧ p.1 ≠ C ∧ p.1 ≠ D
def EmitEnd (h₀ : Heap) (L : Addr) (m : Str → Option Value) (I : Addr) (oI : Obj) (C : Addr) (oC : Obj) (D : Addr) (oD : Obj) (J' : List (Int × Value) → List (Addr × Obj) → Prop) (kvs : List (Int × Value)) (s₁ : Shared) (kv vv : Value) (s₅ : Shared) : Prop :=
  ∃ h' tk k t led' all, kv = .int k t ∧ s₅ = { s₁ with heap := h', toks := tk } ∧ Fr h₀ L h' m ∧ News h₀ L h' all ∧ (∀ p ∈ (I, oI) :: (C, oC) :: (D, oD) :: led', p ∈ all) ∧ Off3' I C D led' ∧ J' (stored kvs k vv) led'
theorem EmitEnd.intro {h₀ : Heap} {L : Addr} {m : Str → Option Value} {I : Addr} {oI : Obj} {C : Addr} {oC : Obj} {D : Addr} {oD : Obj} {J' : List (Int × Value) → List (Addr × Obj) → Prop} {kvs : List (Int × Value)} {s₁ : Shared} {k : Int} {t : Tok} {vv : Value} {h' : Heap} {tk : Nat} {all : List (Addr × Obj)}
    (led' : List (Addr × Obj)) (F : Fr h₀ L h' m) (N : News h₀ L h' all) (hs : ∀ p ∈ (I, oI) :: (C, oC) :: (D, oD) :: led', p ∈ all) (off : Off3' I C D led') (hJ : J' (stored kvs k vv) led') :
    EmitEnd h₀ L m I oI C oC D oD J' kvs s₁ (.int k t) vv { s₁ with heap := h', toks := tk } := ⟨h', tk, k, t, led', all, rfl, rfl, F, N, hs, off, hJ⟩
section
variable {prog : Program} {w : World} {A : Around} {R : Result → Shared → Prop} {s : Shared} {h₀ : Heap} {L : Addr} {m : Str → Option Value} {env : Env}
theorem emitLoop {gens : List Comprehension} {dpos : Pos} {d : Nat} {kx vx : Expr} {x : Str} {px ipos : Pos} {scope : Scope} {cl : List (Str × Addr)} {I C D : Addr} {n : Nat} {a : Int}
    (he : compTurn (.DictComp kx vx gens scope dpos) d (.ref I) (.ref D) (compEnvC scope cl C env) = emitTree kx vx x px ipos (.ref I) D (compEnvC scope cl C env) (.compLoop (.DictComp kx vx gens scope dpos) d (.ref I) (.ref D) (compEnvC scope cl C env)))
    (hh : A.handled = none) (hx : scope.names.lookup x = some .local) (hkind : scope.kind = .function)
    (hIC : I ≠ C) (hID : I ≠ D) (hCD : C ≠ D) (hIL : I ≠ L) (hCL : C ≠ L) (hDL : D ≠ L) (hI₀ : h₀.get? I = none) (hC₀ : h₀.get? C = none) (hD₀ : h₀.get? D = none)
    (J : Nat → (Str → Option Value) → List (Int × Value) → List (Addr × Obj) → Prop) {m₀ : Str → Option Value} {kvs₀ : List (Int × Value)} {led₀ : List (Addr × Obj)}
    (hst : IsRangeIter s.heap I a n 1) (F : Fr h₀ L s.heap m) (hn : s.heap.Ns C m₀) (hd : s.heap.DictOf (intKind prog w) D kvs₀) (N : News h₀ L s.heap led₀) (off : Off3' I C D led₀) (hJ : J 0 m₀ kvs₀ led₀)
    (hlen : ∀ j m₁ kvs led, J j m₁ kvs led → kvs.length ≤ sizeLine)
    (turn : ∀ (j : Nat) t m₁ kvs led h tk oI oC oD (E' : Value → Shared → Prop), j < n → J j m₁ kvs led → LCg.NsObj oC (fun y => if y = x then some (.int (a + j) t) else m₁ y) → oD.IsDictOf (intKind prog w) kvs → Fr h₀ L h m → News h₀ L h ((I, oI) :: (C, oC) :: (D, oD) :: led) → Off3' I C D led →
      wpAny (model prog w) A (eval kx (compEnvC scope cl C env)) (fun kv s₄ => wpAny (model prog w) A (eval vx (compEnvC scope cl C env)) (EmitEnd h₀ L m I oI C oC D oD (J (j + 1) (fun y => if y = x then some (.int (a + j) t) else m₁ y)) kvs { s with heap := h, toks := tk } kv) E' s₄) E' { s with heap := h, toks := tk })
    (done : ∀ h tk m₁ kvs led, J n m₁ kvs led → Fr h₀ L h m → h.Ns C m₁ → h.DictOf (intKind prog w) D kvs → News h₀ L h led → Off3' I C D led → R (.ok .next) { s with heap := h, toks := tk }) :
    codeAny (model prog w) A (.compLoop (.DictComp kx vx gens scope dpos) d (.ref I) (.ref D) (compEnvC scope cl C env)) R s := by
  have W := LCg.range_walks (prog := prog) (w := w) (A := A) (I := I) hh a n
  refine codeAny_loop rfl (fun k s' => ∃ h' tk i m' kvs led, s' = { s with heap := h', toks := tk } ∧ i ≤ n ∧ k = n + 1 - i ∧ IsRangeIter h' I (a + (i : Nat) * 1) ((n : Int) - (i : Nat)) 1 ∧ Fr h₀ L h' m ∧ h'.Ns C m' ∧ h'.DictOf (intKind prog w) D kvs ∧ News h₀ L h' led ∧ Off3' I C D led ∧ J i m' kvs led) ?_ (n + 1)
    ⟨s.heap, s.toks, 0, m₀, kvs₀, led₀, rfl, Nat.zero_le _, rfl, by simpa using hst, F, hn, hd, N, off, hJ⟩
  rintro k s' ⟨h', tk, i, m', kvs, led, rfl, hi, rfl, hst', F', hn', hd', N', off', hJ'⟩
  show wpAny _ A ((compTurn (.DictComp kx vx gens scope dpos) d (.ref I) (.ref D) (compEnvC scope cl C env)).onRaise (fun x => do noteFrame x (compEnvC scope cl C env); theTreesLotGoes x)) _ _ _
  refine wpAny_noted ?_
  rw [he]
  unfold emitTree
  refine wpAny_bind (wpAny_standAt (wpAny_bind ?_))
  by_cases hlt : i < n
  · refine W.item i _ _ _ hlt hst' fun v h₂ tk₂ hPv hst₂ hk₂ => ?_
    obtain ⟨t, rfl⟩ := hPv
    refine wpAny_bind (wpAny_pure (wpAny_bind ?_))
    refine wpAny_assign_Name (wpAny_storeName_local (lookup_relabel_local hx) (hn'.at' fun o e => hk₂ _ o (by simpa using Ne.symm hIC) e) (fun h₃ hn₃ hs₃ => ?_) (by simp [compEnvC, relabel, hkind]))
    replace hs₃ : Heap.SameBut C h₂ h₃ := hs₃
    replace hn₃ : h₃.Ns C _ := hn₃
    have hst₃ : IsRangeIter h₃ I (a + ((i + 1 : Nat) : Int) * 1) ((n : Int) - ((i + 1 : Nat) : Int)) 1 := hs₃.extBut I _ hIC hst₂
    obtain ⟨oC, heC, hoC⟩ := LCg.ns_obj hn₃
    have F₂ : Fr h₀ L h₂ m := LCg.fr_but F' hk₂ (Ne.symm hIL) hI₀
    have F₃ : Fr h₀ L h₃ m := F₂.change hs₃ hCL hC₀
    obtain ⟨oD, heD, hoD⟩ := Heap.dictOf_iff.mp hd'
    have heD₃ : h₃.get? D = some oD := hs₃.extBut D _ (Ne.symm hCD) (hk₂ D _ (by simpa using Ne.symm hID) heD)
    have N₂ : News h₀ L h₂ led := LCg.news_but N' hk₂ fun p hp => (off' p hp).1
    have N₃ : News h₀ L h₃ ((I, _) :: (C, oC) :: (D, oD) :: led) := fun p hp => by
      rcases List.mem_cons.mp hp with rfl | hp
      · exact ⟨hst₃, hIL, hI₀⟩
      rcases List.mem_cons.mp hp with rfl | hp
      · exact ⟨heC, hCL, hC₀⟩
      rcases List.mem_cons.mp hp with rfl | hp
      · exact ⟨heD₃, hDL, hD₀⟩
      · exact ⟨hs₃.extBut _ _ (off' p hp).2.1 (N₂ p hp).1, (N₂ p hp).2⟩
    refine wpAny_bind (wpAny_bind (wpAny_mono (turn i t m' kvs led h₃ _ _ oC oD _ hlt hJ' hoC hoD F₃ N₃ off') (fun kv s₄ h₄ => wpAny_bind (wpAny_holding (wpAny_mono h₄ (fun vv s₅ h₅ => wpAny_bind (wpAny_standAt (wpAny_holding ?_))) fun _ _ e => e))) fun _ _ e => e))
    obtain ⟨h₅, tk₅, kk, tt, led', all, rfl, rfl, F₅, N₅, sub, off₅, hJ₅⟩ := h₅
    have zI := (N₅ _ (sub _ (.head _))).1
    have zC := (N₅ _ (sub _ (.tail _ (.head _)))).1
    have zD := (N₅ _ (sub _ (.tail _ (.tail _ (.head _))))).1
    refine wpAny_dictSet_pairs (hsz := hlen _ _ _ _ hJ') (knd := intKind prog w) (intKind_is prog w kk tt) (Heap.dictOf_iff.mpr ⟨oD, zD, hoD⟩) fun h₆ hd₆ hs₆ => ?_
    refine wpAny_pure ⟨rfl, n + 1 - (i + 1), by omega, h₆, _, i + 1, _, _, led', rfl, hlt, rfl, hs₆.extBut I _ hID zI, F₅.change hs₆ hDL hD₀, (hoC.ns zC).sameBut hs₆ hCD, hd₆, ?_, off₅, hJ₅⟩
    intro p hp
    have z := N₅ p (sub p (.tail _ (.tail _ (.tail _ hp))))
    exact ⟨hs₆.extBut _ _ (off₅ p hp).2.2 z.1, z.2⟩
  · obtain rfl : i = n := Nat.le_antisymm hi (Nat.not_lt.mp hlt)
    refine W.done _ _ _ hst' fun h₂ tk₂ hk₂ => wpAny_pure ?_
    exact done h₂ tk₂ m' kvs led hJ' (LCg.fr_but F' hk₂ (Ne.symm hIL) hI₀) (hn'.at' fun o e => hk₂ _ o (by simpa using Ne.symm hIC) e) (hd'.at fun o e => hk₂ _ o (by simpa using Ne.symm hID) e) (LCg.news_but N' hk₂ fun p hp => (off' p hp).1) off'

theorem compStart1 {kx vx t1 i1 t2 i2 : Expr} {scope : Scope} {pos : Pos} {it acc : Value} {cenv : Env}
    (h0 : codeAny (model prog w) A (.compLoop (.DictComp kx vx [⟨t1, i1, [], 0⟩, ⟨t2, i2, [], 0⟩] scope pos) 1 it acc cenv) R s)
    (h : wpAny (model prog w) A (pyIter it) (fun it' s' => codeAny (model prog w) A (.compLoop (.DictComp kx vx [⟨t1, i1, [], 0⟩, ⟨t2, i2, [], 0⟩] scope pos) 1 it' acc cenv) R s')
      (notedBy (model prog w) A cenv fun x s' => R (.error x) s') s) :
    codeAny (model prog w) A (.compStart (.DictComp kx vx [⟨t1, i1, [], 0⟩, ⟨t2, i2, [], 0⟩] scope pos) 1 it acc cenv) R s := by
  refine codeAny_of_tree ?_
  show wpAny _ A ((compStart (.DictComp kx vx [⟨t1, i1, [], 0⟩, ⟨t2, i2, [], 0⟩] scope pos) 1 it acc cenv).onRaise (fun x => do noteFrame x cenv; standAt theWindowsPlace)) _ _ s
  refine wpAny_notedAt ?_
  unfold compStart
  show wpAny _ A (ask >>= _) _ _ s
  refine wpAny_bind (wpAny_askSetting (wpAny_ite ?_))
  split
  · first
      | exact wpAny_bind (wpAny_pure (wpAny_pure (And.intro rfl h0)))
      | exact wpAny_pure (And.intro rfl h0)
  · first
      | exact wpAny_bind (wpAny_rule (wpAny_bind (wpAny_standAt (wpAny_bind (wpAny_mono h (fun it' s' h' => wpAny_pure (And.intro rfl h')) fun _ _ x => x)))))
      | (refine wpAny_bind (wpAny_rule ?_); show wpAny _ _ (standAt i2.pos >>= _) _ _ s; exact wpAny_bind (wpAny_standAt (wpAny_bind (wpAny_mono h (fun it' s' h' => wpAny_pure (And.intro rfl h')) fun _ _ x => x))))

/-- what a turn of a comprehension of two clauses is asked -/
def Turn2 (prog : Program) (w : World) (A : Around) (h₀ : Heap) (L : Addr) (m : Str → Option Value) (env : Env) (kx vx : Expr) (x y : Str) (scope : Scope) (cl : List (Str × Addr)) (s : Shared) (a1 a2 : Int) (n1 n2 : Nat) (news : List (Addr × Obj))
    (J : Nat → Nat → List (Int × Value) → List (Addr × Obj) → Prop) : Prop :=
  ∀ (i j : Nat) ti tj kvs ex h tk I oI I2 oI2 C oC D oD m₂ (E' : Value → Shared → Prop), i < n1 → j < n2 → J i j kvs ex → LCg.NsObj oC m₂ → m₂ x = some (.int (a1 + i) ti) → m₂ y = some (.int (a2 + j) tj) → oD.IsDictOf (intKind prog w) kvs → Fr h₀ L h m →
    News h₀ L h ((I2, oI2) :: (C, oC) :: (D, oD) :: (I, oI) :: (ex ++ news)) → Off3' I2 C D ((I, oI) :: (ex ++ news)) →
    wpAny (model prog w) A (eval kx (compEnvC scope cl C env)) (fun kv s₄ => wpAny (model prog w) A (eval vx (compEnvC scope cl C env))
      (EmitEnd h₀ L m I2 oI2 C oC D oD (fun kvs' led' => ∃ ex', led' = (I, oI) :: (ex' ++ news) ∧ J i (j + 1) kvs' ex' ∧ ∀ p ∈ ex', p.1 ≠ I) kvs { s with heap := h, toks := tk } kv) E' s₄) E' { s with heap := h, toks := tk }

theorem outLoop {kx vx i1 i2 : Expr} {x y : Str} {px py pos : Pos} {scope : Scope} {cl : List (Str × Addr)} {I C D : Addr} {n1 n2 : Nat} {a1 a2 : Int} {news : List (Addr × Obj)}
    (hh : A.handled = none) (hx : scope.names.lookup x = some .local) (hy : scope.names.lookup y = some .local) (hxy : x ≠ y) (hkind : scope.kind = .function)
    (hIC : I ≠ C) (hID : I ≠ D) (hCD : C ≠ D) (hIL : I ≠ L) (hCL : C ≠ L) (hDL : D ≠ L) (hI₀ : h₀.get? I = none) (hC₀ : h₀.get? C = none) (hD₀ : h₀.get? D = none)
    (J : Nat → Nat → List (Int × Value) → List (Addr × Obj) → Prop) {m₀ : Str → Option Value}
    (hst : IsRangeIter s.heap I a1 n1 1) (F : Fr h₀ L s.heap m) (hn : s.heap.Ns C m₀) (hd : s.heap.DictOf (intKind prog w) D []) (N : News h₀ L s.heap news) (off : Off3' I C D news) (hJ : J 0 0 [] [])
    (hlen : ∀ i j kvs ex, J i j kvs ex → kvs.length ≤ sizeLine) (hnext : ∀ i kvs ex, i < n1 → J i n2 kvs ex → J (i + 1) 0 kvs ex)
    (hs2 : ∀ v, foldedSetIterable i2 (compEnvC scope cl C env) v = pure v)
    (it2 : ∀ oC m₁ h tk led (Q' E' : Value → Shared → Prop), LCg.NsObj oC m₁ → Fr h₀ L h m → News h₀ L h ((C, oC) :: led) →
      (∀ r h' tk' b t u v, IsRange h' r a2 b 1 t u v → Builtin.Range.small a2 b 1 = true → Builtin.Range.rangeSize a2 b 1 = (n2 : Int) → (∀ b o, h.get? b = some o → h'.get? b = some o) → Q' (.ref r) { s with heap := h', toks := tk' }) →
      wpAny (model prog w) A (eval i2 (compEnvC scope cl C env)) Q' E' { s with heap := h, toks := tk })
    (turn : Turn2 prog w A h₀ L m env kx vx x y scope cl s a1 a2 n1 n2 news J)
    (done : ∀ h tk m₁ kvs ex, J n1 0 kvs ex → Fr h₀ L h m → h.Ns C m₁ → h.DictOf (intKind prog w) D kvs → News h₀ L h (ex ++ news) → Off3' I C D (ex ++ news) → R (.ok .next) { s with heap := h, toks := tk }) :
    codeAny (model prog w) A (.compLoop (.DictComp kx vx [⟨.Name x px, i1, [], 0⟩, ⟨.Name y py, i2, [], 0⟩] scope pos) 0 (.ref I) (.ref D) (compEnvC scope cl C env)) R s := by
  have W := LCg.range_walks (prog := prog) (w := w) (A := A) (I := I) hh a1 n1
  refine codeAny_loop rfl (fun k s' => ∃ h' tk i m' kvs ex, s' = { s with heap := h', toks := tk } ∧ i ≤ n1 ∧ k = n1 + 1 - i ∧ IsRangeIter h' I (a1 + (i : Nat) * 1) ((n1 : Int) - (i : Nat)) 1 ∧ Fr h₀ L h' m ∧ h'.Ns C m' ∧ h'.DictOf (intKind prog w) D kvs ∧ News h₀ L h' (ex ++ news) ∧ Off3' I C D (ex ++ news) ∧ J i 0 kvs ex) ?_ (n1 + 1)
    ⟨s.heap, s.toks, 0, m₀, [], [], rfl, Nat.zero_le _, rfl, by simpa using hst, F, hn, hd, N, off, hJ⟩
  rintro k s' ⟨h', tk, i, m', kvs, ex, rfl, hi, rfl, hst', F', hn', hd', N', off', hJ'⟩
  show wpAny _ A ((compTurn (.DictComp kx vx [⟨.Name x px, i1, [], 0⟩, ⟨.Name y py, i2, [], 0⟩] scope pos) 0 (.ref I) (.ref D) (compEnvC scope cl C env)).onRaise (fun x => do noteFrame x (compEnvC scope cl C env); theTreesLotGoes x)) _ _ _
  refine wpAny_noted ?_
  rw [compTurn_out]
  refine wpAny_bind (wpAny_standAt (wpAny_bind ?_))
  by_cases hlt : i < n1
  · refine W.item i _ _ _ hlt hst' fun v h₂ tk₂ hPv hst₂ hk₂ => ?_
    obtain ⟨t, rfl⟩ := hPv
    refine wpAny_bind (wpAny_pure (wpAny_bind ?_))
    refine wpAny_assign_Name (wpAny_storeName_local (lookup_relabel_local hx) (hn'.at' fun o e => hk₂ _ o (by simpa using Ne.symm hIC) e) (fun h₃ hn₃ hs₃ => ?_) (by simp [compEnvC, relabel, hkind]))
    replace hs₃ : Heap.SameBut C h₂ h₃ := hs₃
    replace hn₃ : h₃.Ns C _ := hn₃
    have hst₃ : IsRangeIter h₃ I (a1 + ((i + 1 : Nat) : Int) * 1) ((n1 : Int) - ((i + 1 : Nat) : Int)) 1 := hs₃.extBut I _ hIC hst₂
    obtain ⟨oC, heC, hoC⟩ := LCg.ns_obj hn₃
    have F₂ : Fr h₀ L h₂ m := LCg.fr_but F' hk₂ (Ne.symm hIL) hI₀
    have F₃ : Fr h₀ L h₃ m := F₂.change hs₃ hCL hC₀
    have hd₃ : h₃.DictOf (intKind prog w) D kvs := hd'.at fun o e => hs₃.extBut D _ (Ne.symm hCD) (hk₂ D _ (by simpa using Ne.symm hID) e)
    have N₂ : News h₀ L h₂ (ex ++ news) := LCg.news_but N' hk₂ fun p hp => (off' p hp).1
    have N₃ : News h₀ L h₃ (ex ++ news) := fun p hp => ⟨hs₃.extBut _ _ (off' p hp).2.1 (N₂ p hp).1, (N₂ p hp).2⟩
    refine wpAny_bind (it2 oC _ h₃ _ (ex ++ news) _ _ hoC F₃ (fun p hp => ?_) fun r h₄ tk₄ b t4 u4 v4 hr hsm hsz hk₄ => ?_)
    · rcases List.mem_cons.mp hp with rfl | hp
      · exact ⟨heC, hCL, hC₀⟩
      · exact N₃ p hp
    refine wpAny_bind (wpAny_standAt (wpAny_bind (wpAny_of_eq (hs2 _) (wpAny_bind (wpAny_holding (wpAny_pyIter_range hr hsm ?_))))))
    have F₄ : Fr h₀ L h₄ m := F₃.keeps hk₄
    have N₄ := N₃.grown hk₄
    have lt4 : ∀ q o, h₄.get? q = some o → q ≠ h₄.objs.size := fun q o e => Nat.ne_of_lt (Heap.lt_size e)
    have up : ∀ q o, h₄.get? q = some o → (h₄.push { cls := .type "range_iterator", data := .fields #[rawInt a2, rawInt (Builtin.Range.rangeSize a2 b 1), rawInt 1] }).get? q = some o := fun q o e => Heap.get?_push_of_some _ e
    have F₅ := F₄.keeps up
    have N₅ := N₄.grown up
    have hst₄ : IsRangeIter h₄ I (a1 + ((i + 1 : Nat) : Int) * 1) ((n1 : Int) - ((i + 1 : Nat) : Int)) 1 := hk₄ _ _ hst₃
    have hst₅ := up _ _ hst₄
    have hn₅ := (hn₃.keeps hk₄).keeps up
    have hd₅ := (hd₃.at fun o e => hk₄ _ o e).at fun o e => up _ o e
    have hnew : h₀.get? h₄.objs.size = none := next_is_new F₄
    obtain ⟨oD₄, heD₄, _⟩ := Heap.dictOf_iff.mp (hd₃.at fun o e => hk₄ _ o e)
    have hI2C : h₄.objs.size ≠ C := Ne.symm (lt4 C _ (hk₄ _ _ heC))
    have hI2D : h₄.objs.size ≠ D := Ne.symm (lt4 D _ heD₄)
    have hI2I : I ≠ h₄.objs.size := lt4 I _ hst₄
    have hI2L : h₄.objs.size ≠ L := Nat.ne_of_gt F₄.ns.lt
    have hst2 : IsRangeIter (h₄.push { cls := .type "range_iterator", data := .fields #[rawInt a2, rawInt (Builtin.Range.rangeSize a2 b 1), rawInt 1] }) h₄.objs.size a2 n2 1 := by
      show Heap.get? _ _ = _
      rw [Heap.get?_push_size _ rfl, hsz]
    generalize h₄.push { cls := .type "range_iterator", data := .fields #[rawInt a2, rawInt (Builtin.Range.rangeSize a2 b 1), rawInt 1] } = h₅ at *
    generalize h₄.objs.size = I2 at *
    refine wpAny_bind (wpAny_runOwn ?_)
    have loop : codeAny (model prog w) A (.compLoop (.DictComp kx vx [⟨.Name x px, i1, [], 0⟩, ⟨.Name y py, i2, [], 0⟩] scope pos) 1 (.ref I2) (.ref D) (compEnvC scope cl C env)) (fun r s' => match r with
        | .ok f => wpAny (model prog w) A (again (.compLoop (.DictComp kx vx [⟨.Name x px, i1, [], 0⟩, ⟨.Name y py, i2, [], 0⟩] scope pos) 0 (.ref I) (.ref D) (compEnvC scope cl C env))) (fun fin s' =>
            match fin with
            | .done f => R (.ok f) s'
            | .again c' => c' = .compLoop (.DictComp kx vx [⟨.Name x px, i1, [], 0⟩, ⟨.Name y py, i2, [], 0⟩] scope pos) 0 (.ref I) (.ref D) (compEnvC scope cl C env) ∧ ∃ mm, mm < n1 + 1 - i ∧ ∃ h' tk i m' kvs ex, s' = { s with heap := h', toks := tk } ∧ i ≤ n1 ∧ mm = n1 + 1 - i ∧ IsRangeIter h' I (a1 + (i : Nat) * 1) ((n1 : Int) - (i : Nat)) 1 ∧ Fr h₀ L h' m ∧ h'.Ns C m' ∧ h'.DictOf (intKind prog w) D kvs ∧ News h₀ L h' (ex ++ news) ∧ Off3' I C D (ex ++ news) ∧ J i 0 kvs ex)
            (notedBy (model prog w) A (compEnvC scope cl C env) fun e s' => R (.error e) s') s'
        | .error e => cameBackBy (model prog w) A (compEnvC scope cl C env) (notedBy (model prog w) A (compEnvC scope cl C env) fun e s' => R (.error e) s') e s') { s with heap := h₅, toks := tk₄ } := by
      refine emitLoop (I := I2) (compTurn_emit2 kx vx (.Name x px) i1 y py i2 scope pos (.ref I2) D (compEnvC scope cl C env)) hh hy hkind hI2C hI2D hCD hI2L hCL hDL hnew hC₀ hD₀
        (fun j m₁ kvs led => ∃ ex, led = (I, { cls := .type "range_iterator", data := .fields #[rawInt (a1 + ((i + 1 : Nat) : Int) * 1), rawInt ((n1 : Int) - ((i + 1 : Nat) : Int)), rawInt 1] }) :: (ex ++ news) ∧ m₁ x = some (.int (a1 + i) t) ∧ J i j kvs ex ∧ ∀ p ∈ ex, p.1 ≠ I)
        hst2 F₅ hn₅ hd₅ (led₀ := (I, _) :: (ex ++ news)) ?_ ?_ ⟨ex, rfl, by simp, hJ', fun p hp => (off' p (List.mem_append.mpr (.inl hp))).1⟩ ?_ ?_ ?_
      · intro p hp
        rcases List.mem_cons.mp hp with rfl | hp
        · exact ⟨hst₅, hIL, hI₀⟩
        · exact N₅ p hp
      · intro p hp
        rcases List.mem_cons.mp hp with rfl | hp
        · exact ⟨hI2I, hIC, hID⟩
        · exact ⟨lt4 _ _ (N₄ p hp).1, (off' p hp).2⟩
      · rintro j m₁ kvs led ⟨ex, _, _, hJ, _⟩
        exact hlen _ _ _ _ hJ
      · rintro j tj m₁ kvs led h tk oI2 oC2 oD2 E' hj ⟨ex1, rfl, hmx, hJ1, hexI⟩ hoC2 hoD2 F₆ N₆ off₆
        refine wpAny_mono (turn i j t tj kvs ex1 h tk I _ I2 oI2 C oC2 D oD2 _ E' hlt hj hJ1 hoC2 ((if_neg hxy).trans hmx) (if_pos rfl) hoD2 F₆ N₆ off₆) (fun kv s₄ h₄ => wpAny_mono h₄ (fun vv s₅ h₅ => ?_) fun _ _ e => e) fun _ _ e => e
        obtain ⟨h7, tk7, kk, tt, led7, all, e1, e2, F7, N7, sub7, off7, ex7, rfl, hJ7, hI7⟩ := h₅
        exact ⟨h7, tk7, kk, tt, _, all, e1, e2, F7, N7, sub7, off7, ex7, rfl, (if_neg hxy).trans hmx, hJ7, hI7⟩
      · rintro h tk m₁ kvs led ⟨ex1, rfl, hmx, hJ1, hexI⟩ F₆ hn₆ hd₆ N₆ off₆
        refine wpAny_pure ⟨rfl, n1 + 1 - (i + 1), by omega, h, tk, i + 1, m₁, kvs, ex1, rfl, hlt, rfl, (N₆ _ (.head _)).1, F₆, hn₆, hd₆, fun p hp => N₆ p (.tail _ hp), ?_, hnext _ _ _ hlt hJ1⟩
        intro p hp
        refine ⟨?_, (off₆ p (.tail _ hp)).2⟩
        rcases List.mem_append.mp hp with h1 | h1
        · exact hexI p h1
        · exact (off' p (List.mem_append.mpr (.inr h1))).1
    exact compStart1 loop (wpAny_pyIter_rangeiter hst2 loop)
  · obtain rfl : i = n1 := Nat.le_antisymm hi (Nat.not_lt.mp hlt)
    refine W.done _ _ _ hst' fun h₂ tk₂ hk₂ => wpAny_pure ?_
    exact done h₂ tk₂ m' kvs ex hJ' (LCg.fr_but F' hk₂ (Ne.symm hIL) hI₀) (hn'.at' fun o e => hk₂ _ o (by simpa using Ne.symm hIC) e) (hd'.at fun o e => hk₂ _ o (by simpa using Ne.symm hID) e) (LCg.news_but N' hk₂ fun p hp => (off' p hp).1) off'

theorem dblock {E : Value → Shared → Prop} {kx vx i1 : Expr} {x : Str} {px pos : Pos} {rest : List Comprehension} {scope : Scope} {cl : List (Str × Addr)} {I : Addr} {n1 : Nat} {a1 : Int} {news : List (Addr × Obj)} {RR : Value → Addr → Result → Shared → Prop}
    (hcell : ∀ y ∈ scope.names, y.2 ≠ .cell) (hkind : scope.kind = .function)
    (hst : IsRangeIter s.heap I a1 n1 1) (F : Fr h₀ L s.heap m) (N : News h₀ L s.heap news) (offI : ∀ p ∈ news, p.1 ≠ I)
    (h : ∀ D C h₁ tk m₀, I ≠ C → I ≠ D → C ≠ D → C ≠ L → D ≠ L → h₀.get? C = none → h₀.get? D = none → IsRangeIter h₁ I a1 n1 1 → Fr h₀ L h₁ m → h₁.Ns C m₀ → h₁.DictOf (intKind prog w) D [] → News h₀ L h₁ news → Off3' I C D news → (D == sysModules) = false →
      codeAny (model prog w) A (.compLoop (.DictComp kx vx (⟨.Name x px, i1, [], 0⟩ :: rest) scope pos) 0 (.ref I) (.ref D) (compEnvC scope cl C env)) (RR (.ref D) C) { s with heap := h₁, toks := tk })
    (hbig : h₀.NoLimit) :
    wpAny (model prog w) A newDict (fun acc s₃ => wpAny (model prog w) A (newFunctionEnv scope env.globals cl [] env.qual none .none (some env)) (fun cenv s₄ =>
      codeAny (model prog w) A (.compStart (.DictComp kx vx (⟨.Name x px, i1, [], 0⟩ :: rest) scope pos) 0 (.ref I) acc { cenv with scope := relabel scope env }) (RR acc cenv.locals) s₄) E s₃) E s := by
  refine wpAny_newObj_type (wpAny_newFunctionEnv hcell (by intro y hy; simp at hy) (fun h₁ hns₁ hsb₁ => ?_) hkind)
  dsimp only at hns₁ hsb₁ ⊢
  have hnew : (s.heap.push { cls := .type "dict", dict := none, data := .dict #[] }).DictOf (intKind prog w) s.heap.objs.size [] := Heap.DictOf.new s.heap
  generalize hH2 : s.heap.push { cls := .type "dict", dict := none, data := .dict #[] } = H2 at hns₁ hsb₁ hnew ⊢
  have hC : H2.objs.size = s.heap.objs.size + 1 := by rw [← hH2, Heap.size_push]
  have hDC : s.heap.objs.size ≠ H2.objs.size := by rw [hC]; exact Nat.ne_of_lt (Nat.lt_succ_self _)
  have below : ∀ b, b < s.heap.objs.size → b ≠ H2.objs.size ∧ b ≠ s.heap.objs.size := fun b hb => ⟨by rw [hC]; exact Nat.ne_of_lt (Nat.lt_succ_of_lt hb), Nat.ne_of_lt hb⟩
  have old : ∀ b o, s.heap.get? b = some o → h₁.get? b = some o := fun b o e => hsb₁.extBut b o (below b (Heap.lt_size e)).1 (Heap.get?_push_of_some _ (hH2 ▸ Heap.get?_push_of_some _ e))
  have hacc : h₁.DictOf (intKind prog w) s.heap.objs.size [] := hnew.at fun o e => hsb₁.extBut _ _ hDC (Heap.get?_push_of_some _ e)
  have hIlt : I < s.heap.objs.size := Heap.lt_size hst
  have hst₁ : IsRangeIter h₁ I a1 n1 1 := old _ _ hst
  have fresh₀ : ∀ a, s.heap.objs.size ≤ a → h₀.get? a = none := fun a ha => ktu_new F ha
  have loop := h s.heap.objs.size H2.objs.size h₁ (s.toks + ([] : List (Str × Value)).length) _ (below I hIlt).1 (below I hIlt).2 (Ne.symm hDC) (Ne.symm (below L F.ns.lt).1) (Ne.symm (below L F.ns.lt).2)
    (fresh₀ _ (by rw [hC]; exact Nat.le_succ _)) (fresh₀ _ (Nat.le_refl _)) hst₁ (F.keeps old) hns₁ hacc (N.grown old) (fun p hp => ⟨offI p hp, below _ (Heap.lt_size (N p hp).1)⟩) (F.notModules (modules_low hbig))
  exact codeAny_compStart_dict loop (wpAny_pyIter_rangeiter hst₁ loop)

def DBlk (prog : Program) (w : World) (A : Around) (env : Env) (E : Value → Shared → Prop) (e : Expr) (scope : Scope) (cl : List (Str × Addr)) (use : Option (Value → Sem Unit)) (Q : Value → Shared → Prop) (it : Value) (s₂ : Shared) : Prop :=
  wpAny (model prog w) A newDict (fun acc s₃ => wpAny (model prog w) A (newFunctionEnv scope env.globals cl [] env.qual none .none (some env)) (fun cenv s₄ =>
    codeAny (model prog w) A (.compStart e 0 it acc { cenv with scope := relabel scope env }) (compPost (model prog w) A E use Q acc cenv.locals) s₄) E s₃) E s₂

theorem Assign_open {E : Value → Shared → Prop} {kx vx i1 : Expr} {x z : Str} {px pz pos spos : Pos} {rest : List Comprehension} {scope : Scope} {cl : List (Str × Addr)} {Q : Flow → Shared → Prop}
    (hsw : swapsWith (.DictComp kx vx (⟨.Name x px, i1, [], 0⟩ :: rest) scope pos) (some (.Name z pz)) spos.line env = pure true)
    (hclos : closureFor scope env = pure cl) (hkind : scope.kind = .function) (hnames : ∀ z ∈ scope.names, z.2 = .local → scope.names.lookup z.1 = some .local)
    (hs : ∀ x, foldedSetIterable i1 env x = pure x)
    (h : wpAny (model prog w) A (eval i1 env) (fun xv s₁ => wpAny (model prog w) A (pyIter xv) (fun it s₂ => DBlk prog w A env E (.DictComp kx vx (⟨.Name x px, i1, [], 0⟩ :: rest) scope pos) scope cl (some (assign (.Name z pz) env)) (fun _ s' => Q .next s') it s₂) E s₁) E s) :
    wpAny (model prog w) A (exec (.Assign [.Name z pz] (.DictComp kx vx (⟨.Name x px, i1, [], 0⟩ :: rest) scope pos) spos) env) Q E s := by
  rw [exec_Assign_Name_used _ _ _ _ hsw]
  refine wpAny_bind (wpAny_standAt (wpAny_bind ?_))
  show wpAny _ A (do let _ ← comprehension (.DictComp kx vx (⟨.Name x px, i1, [], 0⟩ :: rest) scope pos) scope env _ newDict false (eval i1 env) (some (assign (.Name z pz) env))) _ _ s
  exact wpAny_bind (wpAny_mono (wpAny_comprehension_free (use := some (assign (.Name z pz) env)) (Q := fun _ s' => Q .next s') rfl hs hclos hkind hnames h) (fun _ s' hq => wpAny_pure (wpAny_pure hq)) fun _ _ e => e)

/-- the end of a comprehension that is bound to a name -/
theorem comp_named {E : Value → Shared → Prop} {z : Str} {pz : Pos} {Q : Shared → Prop} {C D : Addr} {h : Heap} {tk : Nat} {m₁ : Str → Option Value} {kvs : List (Int × Value)} {led : List (Addr × Obj)}
    (hL : env.locals = L) (hz : env.kindOf z = some .local) (hp : (env.scope.kind == .class || (env.scope.kind == .module && env.locals != env.globals)) = false)
    (F : Fr h₀ L h m) (hn : h.Ns C m₁) (hd : h.DictOf (intKind prog w) D kvs) (N : News h₀ L h led) (hCD : C ≠ D) (hCL : C ≠ L) (hDL : D ≠ L) (hC₀ : h₀.get? C = none) (hD₀ : h₀.get? D = none) (off : ∀ p ∈ led, p.1 ≠ C ∧ p.1 ≠ D)
    (fin : ∀ h tk oD, Fr h₀ L h (fun y => if y = z then some (.ref D) else m y) → News h₀ L h ((D, oD) :: led) → oD.IsDictOf (intKind prog w) kvs → Q { s with heap := h, toks := tk }) :
    compPost (model prog w) A E (some (assign (.Name z pz) env)) (fun _ s' => Q s') (.ref D) C (.ok .next) { s with heap := h, toks := tk } := by
  show wpAny _ A (assign (.Name z pz) env (.ref D)) _ _ _
  subst hL
  refine wpAny_assign_Name (wpAny_storeName_local hz F.ns (fun h₁ hn₁ hs₁ => ?_) hp)
  replace hs₁ : Heap.SameBut env.locals h h₁ := hs₁
  refine ⟨m₁, hn.sameBut hs₁ hCL, fun h₂ hs₂ => ?_⟩
  replace hs₂ : Heap.SameBut C h₁ h₂ := hs₂
  obtain ⟨oD, heD, hoD⟩ := Heap.dictOf_iff.mp hd
  refine fin h₂ _ oD ((F.set hn₁ hs₁).change hs₂ hCL hC₀) ?_ hoD
  intro p hp
  rcases List.mem_cons.mp hp with rfl | hp
  · exact ⟨hs₂.extBut _ _ (Ne.symm hCD) (hs₁.extBut _ _ hDL heD), hDL, hD₀⟩
  · exact ⟨hs₂.extBut _ _ (off p hp).1 (hs₁.extBut _ _ (N p hp).2.1 (N p hp).1), (N p hp).2⟩

theorem rangeDict2 {E : Value → Shared → Prop} {kx vx i1 i2 : Expr} {x y z : Str} {px py pz pos : Pos} {scope : Scope} {cl : List (Str × Addr)} {Q : Shared → Prop} {r : Addr} {n1 n2 : Nat} {a1 a2 b1 : Int} {t u v : Tok} {news : List (Addr × Obj)}
    (J : Nat → Nat → List (Int × Value) → List (Addr × Obj) → Prop)
    (hh : A.handled = none) (F : Fr h₀ L s.heap m) (N : News h₀ L s.heap news) (hbig : h₀.NoLimit) (hr : IsRange s.heap r a1 b1 1 t u v) (hsm : Builtin.Range.small a1 b1 1 = true) (hsz : Builtin.Range.rangeSize a1 b1 1 = (n1 : Int))
    (hL : env.locals = L) (hz : env.kindOf z = some .local) (hp : (env.scope.kind == .class || (env.scope.kind == .module && env.locals != env.globals)) = false)
    (hcell : ∀ y ∈ scope.names, y.2 ≠ .cell) (hkind : scope.kind = .function) (hx : scope.names.lookup x = some .local) (hy : scope.names.lookup y = some .local) (hxy : x ≠ y)
    (hJ : J 0 0 [] []) (hlen : ∀ i j kvs ex, J i j kvs ex → kvs.length ≤ sizeLine) (hnext : ∀ i kvs ex, i < n1 → J i n2 kvs ex → J (i + 1) 0 kvs ex)
    (hs2 : ∀ C v, foldedSetIterable i2 (compEnvC scope cl C env) v = pure v)
    (it2 : ∀ C oC m₁ h tk led (Q' E' : Value → Shared → Prop), LCg.NsObj oC m₁ → Fr h₀ L h m → News h₀ L h ((C, oC) :: led) →
      (∀ r h' tk' b t u v, IsRange h' r a2 b 1 t u v → Builtin.Range.small a2 b 1 = true → Builtin.Range.rangeSize a2 b 1 = (n2 : Int) → (∀ b o, h.get? b = some o → h'.get? b = some o) → Q' (.ref r) { s with heap := h', toks := tk' }) →
      wpAny (model prog w) A (eval i2 (compEnvC scope cl C env)) Q' E' { s with heap := h, toks := tk })
    (turn : Turn2 prog w A h₀ L m env kx vx x y scope cl s a1 a2 n1 n2 news J)
    (fin : ∀ D h tk oD kvs ex, J n1 0 kvs ex → Fr h₀ L h (fun y => if y = z then some (.ref D) else m y) → News h₀ L h ((D, oD) :: (ex ++ news)) → oD.IsDictOf (intKind prog w) kvs → (D == sysModules) = false → (∀ p ∈ ex ++ news, p.1 ≠ D) → Q { s with heap := h, toks := tk }) :
    wpAny (model prog w) A (pyIter (.ref r)) (fun it s₂ => DBlk prog w A env E (.DictComp kx vx [⟨.Name x px, i1, [], 0⟩, ⟨.Name y py, i2, [], 0⟩] scope pos) scope cl (some (assign (.Name z pz) env)) (fun _ s' => Q s') it s₂) E s := by
  refine wpAny_pyIter_range hr hsm ?_
  unfold DBlk
  have up : ∀ q o, s.heap.get? q = some o → (s.heap.push { cls := .type "range_iterator", data := .fields #[rawInt a1, rawInt (Builtin.Range.rangeSize a1 b1 1), rawInt 1] }).get? q = some o := fun q o e => Heap.get?_push_of_some _ e
  have hst : IsRangeIter (s.heap.push { cls := .type "range_iterator", data := .fields #[rawInt a1, rawInt (Builtin.Range.rangeSize a1 b1 1), rawInt 1] }) s.heap.objs.size a1 n1 1 := by
    show Heap.get? _ _ = _
    rw [Heap.get?_push_size _ rfl, hsz]
  have hIL : s.heap.objs.size ≠ L := Nat.ne_of_gt F.ns.lt
  refine dblock (s := { s with heap := s.heap.push _ }) (n1 := n1) (RR := fun acc C => compPost (model prog w) A E (some (assign (.Name z pz) env)) (fun _ s' => Q s') acc C) hcell hkind hst (F.keeps up) (N.grown up) (fun p hp => Nat.ne_of_lt (Heap.lt_size (N p hp).1)) ?_ hbig
  intro D C h₁ tk m₀ hIC hID hCD hCL hDL hC₀ hD₀ hst₁ F₁ hn₁ hd₁ N₁ off₁ hsys
  refine outLoop (s := { s with heap := h₁, toks := tk }) hh hx hy hxy hkind hIC hID hCD hIL hCL hDL (next_is_new F) hC₀ hD₀ J hst₁ F₁ hn₁ hd₁ N₁ off₁ hJ hlen hnext (hs2 C) (it2 C) turn ?_
  intro h tk m₁ kvs ex hJ' F' hn' hd' N' off'
  exact comp_named (s := s) hL hz hp F' hn' hd' N' hCD hCL hDL hC₀ hD₀ (fun p hp => (off' p hp).2) fun h tk oD F'' N'' hoD => fin D h tk oD kvs ex hJ' F'' N'' hoD hsys fun p hp => (off' p hp).2.2
def Turn1 (prog : Program) (w : World) (A : Around) (h₀ : Heap) (L : Addr) (m : Str → Option Value) (env : Env) (kx vx : Expr) (x : Str) (scope : Scope) (cl : List (Str × Addr)) (s : Shared) (a1 : Int) (n1 : Nat) (news : List (Addr × Obj))
    (J : Nat → List (Int × Value) → List (Addr × Obj) → Prop) : Prop :=
  ∀ (i : Nat) ti kvs ex h tk I oI C oC D oD m₂ (E' : Value → Shared → Prop), i < n1 → J i kvs ex → LCg.NsObj oC m₂ → m₂ x = some (.int (a1 + i) ti) → oD.IsDictOf (intKind prog w) kvs → Fr h₀ L h m →
    News h₀ L h ((I, oI) :: (C, oC) :: (D, oD) :: (ex ++ news)) → Off3' I C D (ex ++ news) →
    wpAny (model prog w) A (eval kx (compEnvC scope cl C env)) (fun kv s₄ => wpAny (model prog w) A (eval vx (compEnvC scope cl C env))
      (EmitEnd h₀ L m I oI C oC D oD (fun kvs' led' => ∃ ex', led' = ex' ++ news ∧ J (i + 1) kvs' ex') kvs { s with heap := h, toks := tk } kv) E' s₄) E' { s with heap := h, toks := tk }
theorem rangeDict1 {E : Value → Shared → Prop} {kx vx i1 : Expr} {x z : Str} {px pz pos : Pos} {scope : Scope} {cl : List (Str × Addr)} {Q : Shared → Prop} {r : Addr} {n1 : Nat} {a1 b1 : Int} {t u v : Tok} {news : List (Addr × Obj)}
    (J : Nat → List (Int × Value) → List (Addr × Obj) → Prop)
    (hh : A.handled = none) (F : Fr h₀ L s.heap m) (N : News h₀ L s.heap news) (hbig : h₀.NoLimit) (hr : IsRange s.heap r a1 b1 1 t u v) (hsm : Builtin.Range.small a1 b1 1 = true) (hsz : Builtin.Range.rangeSize a1 b1 1 = (n1 : Int))
    (hL : env.locals = L) (hz : env.kindOf z = some .local) (hp : (env.scope.kind == .class || (env.scope.kind == .module && env.locals != env.globals)) = false)
    (hcell : ∀ y ∈ scope.names, y.2 ≠ .cell) (hkind : scope.kind = .function) (hx : scope.names.lookup x = some .local)
    (hJ : J 0 [] []) (hlen : ∀ i kvs ex, J i kvs ex → kvs.length ≤ sizeLine)
    (turn : Turn1 prog w A h₀ L m env kx vx x scope cl s a1 n1 news J)
    (fin : ∀ D h tk oD kvs ex, J n1 kvs ex → Fr h₀ L h (fun y => if y = z then some (.ref D) else m y) → News h₀ L h ((D, oD) :: (ex ++ news)) → oD.IsDictOf (intKind prog w) kvs → (D == sysModules) = false → (∀ p ∈ ex ++ news, p.1 ≠ D) → Q { s with heap := h, toks := tk }) :
    wpAny (model prog w) A (pyIter (.ref r)) (fun it s₂ => DBlk prog w A env E (.DictComp kx vx [⟨.Name x px, i1, [], 0⟩] scope pos) scope cl (some (assign (.Name z pz) env)) (fun _ s' => Q s') it s₂) E s := by
  refine wpAny_pyIter_range hr hsm ?_
  unfold DBlk
  have up : ∀ q o, s.heap.get? q = some o → (s.heap.push { cls := .type "range_iterator", data := .fields #[rawInt a1, rawInt (Builtin.Range.rangeSize a1 b1 1), rawInt 1] }).get? q = some o := fun q o e => Heap.get?_push_of_some _ e
  have hst : IsRangeIter (s.heap.push { cls := .type "range_iterator", data := .fields #[rawInt a1, rawInt (Builtin.Range.rangeSize a1 b1 1), rawInt 1] }) s.heap.objs.size a1 n1 1 := by
    show Heap.get? _ _ = _
    rw [Heap.get?_push_size _ rfl, hsz]
  have hIL : s.heap.objs.size ≠ L := Nat.ne_of_gt F.ns.lt
  refine dblock (s := { s with heap := s.heap.push _ }) (n1 := n1) (RR := fun acc C => compPost (model prog w) A E (some (assign (.Name z pz) env)) (fun _ s' => Q s') acc C) hcell hkind hst (F.keeps up) (N.grown up) (fun p hp => Nat.ne_of_lt (Heap.lt_size (N p hp).1)) ?_ hbig
  intro D C h₁ tk m₀ hIC hID hCD hCL hDL hC₀ hD₀ hst₁ F₁ hn₁ hd₁ N₁ off₁ hsys
  refine emitLoop (s := { s with heap := h₁, toks := tk }) (compTurn_emit kx vx x px i1 scope pos _ D (compEnvC scope cl C env)) hh hx hkind hIC hID hCD hIL hCL hDL (next_is_new F) hC₀ hD₀
    (fun j _ kvs led => ∃ ex, led = ex ++ news ∧ J j kvs ex) hst₁ F₁ hn₁ hd₁ N₁ off₁ ⟨[], rfl, hJ⟩ (by rintro j _ kvs led ⟨ex, _, h⟩; exact hlen _ _ _ h) ?_ ?_
  · rintro j tj m₁ kvs led h tk oI2 oC2 oD2 E' hj ⟨ex1, rfl, hJ1⟩ hoC2 hoD2 F₆ N₆ off₆
    exact turn j tj kvs ex1 h tk _ oI2 C oC2 D oD2 _ E' hj hJ1 hoC2 (if_pos rfl) hoD2 F₆ N₆ off₆
  · rintro h tk m₁ kvs led ⟨ex, rfl, hJ'⟩ F' hn' hd' N' off'
    exact comp_named (s := s) hL hz hp F' hn' hd' N' hCD hCL hDL hC₀ hD₀ (fun p hp => (off' p hp).2) fun h tk oD F'' N'' hoD => fin D h tk oD kvs ex hJ' F'' N'' hoD hsys fun p hp => (off' p hp).2.2
/-- dict.get of an int -/
theorem dget {E : Value → Shared → Prop} {D : Addr} {oD : Obj} {kvs : List (Int × Value)} {k : Int} {t : Tok} {Q : Value → Shared → Prop} (ho : s.heap.get? D = some oD) (hd : oD.IsDictOf (intKind prog w) kvs) (hsys : (D == sysModules) = false)
    (h : Q ((valueAt kvs k).getD .none) { s with toks := s.toks + 1 }) : wpAny (model prog w) A (call (.builtin "dict.get") [.ref D, .int k t]) Q E s := by
  have hd' : s.heap.DictOf (intKind prog w) D kvs := Heap.dictOf_iff.mpr ⟨oD, ho, hd⟩
  exact call_meetsIn PySem.F.slot_dict_get hd'.typeIs PySem.F.entry_dict_get (PySem.F.args_dict_get_2 _ _) (meets_dict_get (intKind prog w) D (intKind_is prog w k t) hsys) ⟨_, hd'.mapOf, h⟩
/-- the attribute get of a dict -/
theorem dgetM {E : Value → Shared → Prop} {D : Addr} {oD : Obj} {kvs : List (Int × Value)} {pl : Sem Bool} {Q : Value × List Value → Shared → Prop} (ho : s.heap.get? D = some oD) (hd : oD.IsDictOf (intKind prog w) kvs)
    (h : Q (.builtin "dict.get", [.ref D]) s) : wpAny (model prog w) A (getMethod (.ref D) "get" pl) Q E s := by
  have hd' : s.heap.DictOf (intKind prog w) D kvs := Heap.dictOf_iff.mpr ⟨oD, ho, hd⟩
  exact getMethod_builtin hd'.typeIs PySem.F.plainAttrs_dict PySem.F.slot_dict_get PySem.F.type_dict_get hd'.mapOf.noDict h
end
end Mine
namespace Mine
/-- a dict's pairs whose values are ints -/
def KvI (kvs : List (Int × Value)) (d : List (Int × Int)) : Prop := ∃ ts : List Tok, ts.length = d.length ∧ kvs = List.zipWith (fun p t => (p.1, Value.int p.2 t)) d ts
def storedI (d : List (Int × Int)) (k v : Int) : List (Int × Int) := if d.any (fun kv => kv.1 = k) then d.map (fun kv => if kv.1 = k then (kv.1, v) else kv) else d ++ [(k, v)]
def lookI (d : List (Int × Int)) (k : Int) : Option Int := (d.find? fun kv => kv.1 = k).map (·.2)
theorem KvI.nil : KvI [] [] := ⟨[], rfl, rfl⟩
theorem KvI.any {kvs : List (Int × Value)} {d : List (Int × Int)} (h : KvI kvs d) (k : Int) : kvs.any (fun kv => kv.1 = k) = d.any (fun kv => kv.1 = k) := by
  obtain ⟨ts, hl, rfl⟩ := h
  induction d generalizing ts with
  | nil => simp
  | cons p d ih =>
    cases ts with
    | nil => simp at hl
    | cons t ts => simp only [List.zipWith_cons_cons, List.any_cons]; rw [ih ts (by simpa using hl)]
theorem KvI.stored {kvs : List (Int × Value)} {d : List (Int × Int)} (h : KvI kvs d) (k v : Int) (t : Tok) : KvI (stored kvs k (.int v t)) (storedI d k v) := by
  unfold PySem.stored storedI
  rw [h.any k]
  by_cases hq : (d.any (fun kv => kv.1 = k)) = true
  · rw [if_pos hq, if_pos hq]
    obtain ⟨ts, hl, rfl⟩ := h
    refine ⟨List.zipWith (fun p t' => if p.1 = k then t else t') d ts, by simp [hl], ?_⟩
    clear hq
    induction d generalizing ts with
    | nil => simp
    | cons p d ih =>
      cases ts with
      | nil => simp at hl
      | cons t' ts =>
        simp only [List.zipWith_cons_cons, List.map_cons]
        rw [ih ts (by simpa using hl)]
        congr 1
        split <;> simp_all
  · rw [if_neg hq, if_neg hq]
    obtain ⟨ts, hl, rfl⟩ := h
    refine ⟨ts ++ [t], by simp [hl], ?_⟩
    rw [List.zipWith_append (by rw [hl])]
    rfl
theorem KvI.get {kvs : List (Int × Value)} {d : List (Int × Int)} (h : KvI kvs d) {k v : Int} (hv : lookI d k = some v) : ∃ t, (valueAt kvs k).getD .none = .int v t := by
  obtain ⟨ts, hl, rfl⟩ := h
  unfold lookI at hv
  unfold valueAt
  induction d generalizing ts with
  | nil => simp at hv
  | cons p d ih =>
    cases ts with
    | nil => simp at hl
    | cons t ts =>
      simp only [List.zipWith_cons_cons, List.find?_cons] at hv ⊢
      by_cases hk : p.1 = k
      · simp only [hk, decide_true] at hv ⊢
        simp only [Option.map_some, Option.some.injEq] at hv
        exact ⟨t, by simp [hv]⟩
      · simp only [hk, decide_false] at hv ⊢
        exact ih hv ts (by simpa using hl)
theorem KvI.length {kvs : List (Int × Value)} {d : List (Int × Int)} (h : KvI kvs d) : kvs.length = d.length := by
  obtain ⟨ts, hl, rfl⟩ := h
  simp [hl]
theorem storedI_len (d : List (Int × Int)) (k v : Int) : (storedI d k v).length ≤ d.length + 1 := by
  unfold storedI
  split <;> simp
/-- the dict that a comprehension of two clauses makes -/
def dataAt (K V : Nat → Nat → Int) (n2 : Nat) (i j : Nat) : List (Int × Int) :=
  (List.range (n2 * i + j)).foldl (fun d q => storedI d (K (q / n2) (q % n2)) (V (q / n2) (q % n2))) []
theorem dataAt_len (K V : Nat → Nat → Int) (n2 i j : Nat) : (dataAt K V n2 i j).length ≤ n2 * i + j := by
  unfold dataAt
  generalize n2 * i + j = q
  induction q with
  | zero => simp
  | succ q ih =>
    rw [List.range_succ, List.foldl_append]
    exact Nat.le_trans (storedI_len _ _ _) (Nat.succ_le_succ ih)
theorem dataAt_next (K V : Nat → Nat → Int) {n2 i j : Nat} (hj : j < n2) : dataAt K V n2 i (j + 1) = storedI (dataAt K V n2 i j) (K i j) (V i j) := by
  unfold dataAt
  rw [← Nat.add_assoc, List.range_succ, List.foldl_append]
  have h1 : (n2 * i + j) / n2 = i := by rw [Nat.mul_add_div (by omega), Nat.div_eq_of_lt hj]; rfl
  have h2 : (n2 * i + j) % n2 = j := by rw [Nat.mul_add_mod, Nat.mod_eq_of_lt hj]
  simp only [List.foldl_cons, List.foldl_nil, h1, h2]
theorem dataAt_row (K V : Nat → Nat → Int) (n2 i : Nat) : dataAt K V n2 i n2 = dataAt K V n2 (i + 1) 0 := by
  unfold dataAt
  rw [Nat.mul_succ, Nat.add_zero]
def IntD (K V : Nat → Nat → Int) (n1 n2 : Nat) (i j : Nat) (kvs : List (Int × Value)) (ex : List (Addr × Obj)) : Prop := i ≤ n1 ∧ j ≤ n2 ∧ ex = [] ∧ KvI kvs (dataAt K V n2 i j)
end Mine
end
section
open PySem PySem.W PyProof.Rows PySem.Calls PySem.Spec
namespace Mine
section
variable {prog : Program} {w : World} {A : Around} {E : Value → Shared → Prop} {s : Shared} {env : Env} {h₀ : Heap} {target : Expr} {body orelse : List Stmt} {Q : Flow → Shared → Prop}
/-- a turn's end where the ledger's addresses may turn -/
def FEnd (h₀ : Heap) (L : Addr) (J : (Str → Option Value) → List (Addr × Obj) → Prop) (own : List (Addr × Obj)) (s₁ s₂ : Shared) : Prop :=
  ∃ h' tk m' news' nx, s₂ = { s₁ with heap := h', toks := tk } ∧ Fr h₀ L h' m' ∧ News h₀ L h' news' ∧ (∀ p ∈ nx, p ∈ news') ∧ (∀ p ∈ own, p ∈ news') ∧ (∀ p ∈ nx, ∀ q ∈ own, p.1 ≠ q.1) ∧ J m' nx
def FPost (h₀ : Heap) (L : Addr) (J : (Str → Option Value) → List (Addr × Obj) → Prop) (own : List (Addr × Obj)) (s₁ : Shared) (Q : Flow → Shared → Prop) (f : Flow) (s₂ : Shared) : Prop :=
  match f with
  | .ret v => Q (.ret v) s₂
  | .brk => Q .next s₂
  | _ => FEnd h₀ L J own s₁ s₂
theorem floop {I : Addr} {fp wr : List Addr} {n : Nat} {P Md : Nat → Value → Heap → Prop} {St : Nat → Heap → Prop} {m : Str → Option Value} {news : List (Addr × Obj)} (W : KTurns prog w A target I fp wr n P Md St)
    (J : Nat → (Str → Option Value) → List (Addr × Obj) → Prop)
    (hlive : ∀ i h b, St i h → b ∈ fp → ∃ o, h.get? b = some o)
    (hLf : env.locals ∉ fp) (hwr : ∀ b ∈ wr, h₀.get? b = none) (hnw : ∀ p ∈ news, p.1 ∉ fp) (hst : St 0 s.heap) (F : Fr h₀ env.locals s.heap m) (N : News h₀ env.locals s.heap news) (h0 : J 0 m news)
    (turn : ∀ i v m₁ news₁ h₁ tk₁ own, i < n → P i v h₁ → (∀ p ∈ news₁, ∀ q ∈ own, p.1 ≠ q.1) → J i m₁ news₁ → Fr h₀ env.locals h₁ m₁ → News h₀ env.locals h₁ (news₁ ++ own) →
      wpAny (model prog w) A (assign target env v) (fun _ s₂ => wpAny (model prog w) A (execs body env) (FPost h₀ env.locals (J (i + 1)) own { s with heap := h₁, toks := tk₁ } Q) E s₂) E { s with heap := h₁, toks := tk₁ })
    (done : ∀ m₁ news₁ h tk, J n m₁ news₁ → Fr h₀ env.locals h m₁ → News h₀ env.locals h news₁ → wpAny (model prog w) A (execs orelse env) Q E { s with heap := h, toks := tk })
    (hE : PassesOwn (model prog w) A env E) :
    codeAny (model prog w) A (.forLoop target (.ref I) body orelse env) (fun r s' => match r with | .ok f => Q f s' | .error e => cameBackBy (model prog w) A env E e s') s := by
  have hLw : env.locals ∉ wr := fun h => hLf (W.sub _ h)
  have old : ∀ b o, h₀.get? b = some o → b ∉ wr := fun b o e hb => by rw [hwr b hb] at e; cases e
  refine codeAny_forLoop_any
    (fun k s' => ∃ h' tk m' news' i, s' = { s with heap := h', toks := tk } ∧ St i h' ∧ Fr h₀ env.locals h' m' ∧ News h₀ env.locals h' news' ∧ (∀ p ∈ news', p.1 ∉ fp) ∧ J i m' news' ∧ i ≤ n ∧ k = n + 1 - i) ?_ (n + 1)
    ⟨s.heap, s.toks, m, news, 0, rfl, hst, F, N, hnw, h0, Nat.zero_le _, rfl⟩
  rintro k s' ⟨h', tk, m', news', i, rfl, hst', F', N', hnw', hJ, hi, rfl⟩
  have next : ∀ h₁ : Heap, (∀ b o, b ∉ wr → h'.get? b = some o → h₁.get? b = some o) → Fr h₀ env.locals h₁ m' ∧ News h₀ env.locals h₁ news' := fun h₁ hk₁ =>
    ⟨⟨F'.ns.at' fun o e => hk₁ _ o hLw e, fun b o e => hk₁ b o (old b o e) (F'.keep b o e), F'.above⟩, fun p hp => ⟨hk₁ _ _ (fun hw => hnw' p hp (W.sub _ hw)) (N' p hp).1, (N' p hp).2⟩⟩
  by_cases hlt : i < n
  · refine W.item i _ _ _ hlt hst' fun v h₁ tk₁ hMd hk₁ => ?_
    refine W.go i v _ _ _ hMd fun h₂ hP hst₂ hk₂ => ?_
    obtain ⟨F₂, N₂⟩ := next h₂ fun b o hb x => hk₂ b o hb (hk₁ b o hb x)
    have Nown : News h₀ env.locals h₂ (PyProof.Rows.ownOf h₀ fp h₂) := news_ownOf hLf
    have N₃ : News h₀ env.locals h₂ (news' ++ PyProof.Rows.ownOf h₀ fp h₂) := N₂.append Nown
    have hne : ∀ p ∈ news', ∀ q ∈ PyProof.Rows.ownOf h₀ fp h₂, p.1 ≠ q.1 := fun p hp q hq e => hnw' p hp (e ▸ ownOf_sub q hq)
    have T := turn i v m' news' h₂ tk₁ (PyProof.Rows.ownOf h₀ fp h₂) hlt hP hne hJ F₂ N₃
    have fin : ∀ s₃, FEnd h₀ env.locals (J (i + 1)) (PyProof.Rows.ownOf h₀ fp h₂) { s with heap := h₂, toks := tk₁ } s₃ →
        ∃ mm, mm < n + 1 - i ∧ ∃ h' tk m' news' i, s₃ = { s with heap := h', toks := tk } ∧ St i h' ∧ Fr h₀ env.locals h' m' ∧ News h₀ env.locals h' news' ∧ (∀ p ∈ news', p.1 ∉ fp) ∧ J i m' news' ∧ i ≤ n ∧ mm = n + 1 - i := by
      rintro s₃ ⟨h₃, tk₃, m₃, all, nx, rfl, F₃, N₃, hn₃, ho₃, ha₃, hJ₃⟩
      refine ⟨n + 1 - (i + 1), by omega, h₃, tk₃, m₃, nx, i + 1, rfl, ?_, F₃, fun p hp => N₃ p (hn₃ p hp), ?_, hJ₃, hlt, rfl⟩
      · refine W.frame _ _ _ hst₂ fun b hb o e => ?_
        cases hn : h₀.get? b with
        | some o₀ =>
          have : o₀ = o := by have q := F₂.keep b o₀ hn; rw [e] at q; exact (Option.some.inj q).symm
          exact this ▸ F₃.keep b o₀ hn
        | none => exact (N₃ _ (ho₃ _ (mem_ownOf hb hn e))).1
      · intro p hp hb
        obtain ⟨o, ho⟩ := hlive _ _ _ hst₂ hb
        exact ha₃ p hp _ (mem_ownOf hb (N₃ p (hn₃ p hp)).2.2 ho) rfl
    refine wpAny_mono T (fun _ s₂ h₂ => wpAny_mono (wpAny_passesOwn hE h₂) (fun f s₃ h₃ => ?_) fun _ _ e => e) hE
    cases f with
    | ret v => exact h₃
    | brk => exact h₃
    | cont => exact fin _ h₃
    | next => exact fin _ h₃
  · have hin : i = n := by omega
    subst hin
    refine W.done _ _ _ hst' fun h₁ tk₁ hk₁ => ?_
    obtain ⟨F₁, N₁⟩ := next h₁ hk₁
    exact wpAny_passesOwn hE (done m' news' h₁ tk₁ hJ F₁ N₁)

theorem listF_loop {nm : Str} {np : Pos} {l : Addr} {lo : Obj} {vs : List Value} {k : Nat} {m : Str → Option Value} {news all : List (Addr × Obj)} (J : Nat → (Str → Option Value) → List (Addr × Obj) → Prop)
    (hh : A.handled = none) (F : Fr h₀ env.locals s.heap m) (N : News h₀ env.locals s.heap all) (hm : (l, lo) ∈ all) (hc : lo.cls = .type "list") (hd : lo.data = .seq vs.toArray k) (hsub : ∀ p ∈ news, p ∈ all) (hnl : ∀ p ∈ news, p.1 ≠ l) (h0 : J 0 m news)
    (turn : ∀ i v m₁ news₁ h₁ tk₁ own, i < vs.length → vs[i]? = some v → (∀ p ∈ news₁, ∀ q ∈ own, p.1 ≠ q.1) → J i m₁ news₁ → Fr h₀ env.locals h₁ m₁ → News h₀ env.locals h₁ (news₁ ++ own) →
      wpAny (model prog w) A (assign (.Name nm np) env v) (fun _ s₂ => wpAny (model prog w) A (execs body env) (FPost h₀ env.locals (J (i + 1)) own { s with heap := h₁, toks := tk₁ } Q) E s₂) E { s with heap := h₁, toks := tk₁ })
    (done : ∀ m₁ news₁ h tk, J vs.length m₁ news₁ → Fr h₀ env.locals h m₁ → News h₀ env.locals h news₁ → wpAny (model prog w) A (execs orelse env) Q E { s with heap := h, toks := tk })
    (hE : PassesOwn (model prog w) A env E) :
    wpAny (model prog w) A (pyIter (.ref l)) (fun it s₂ => codeAny (model prog w) A (.forLoop (.Name nm np) it body orelse env) (fun r s' => match r with | .ok f => Q f s' | .error e => cameBackBy (model prog w) A env E e s') s₂) E s := by
  have hax := N _ hm
  have hls : s.heap.IsList l vs.toArray := ⟨lo, hax.1, hc, k, hd⟩
  have hlt : l < s.heap.objs.size := Heap.lt_size hax.1
  have hne : l ≠ s.heap.objs.size := Nat.ne_of_lt hlt
  have hLs : env.locals < s.heap.objs.size := F.ns.lt
  refine wpAny_pyIter_list hls ?_
  have W := KTurns.ofWalks (target := .Name nm np) (Walks.list (prog := prog) (w := w) hh s.heap.objs.size l hne vs.toArray) fun i v s Q E st q => letGo_listiter st.1 q
  refine floop W J ?_ ?_ ?_ ?_ ?_ (F.push _) (fun p hp => ⟨Heap.get?_push_of_some _ (N p (hsub p hp)).1, (N p (hsub p hp)).2⟩) h0 ?_ ?_ hE
  · rintro i h b ⟨⟨o1, e1, _⟩, ⟨o2, e2, _⟩⟩ hb
    rcases List.mem_cons.mp hb with rfl | hb
    · exact ⟨o1, e1⟩
    · rw [List.mem_singleton.mp hb]; exact ⟨o2, e2⟩
  · intro hf
    rcases List.mem_cons.mp hf with e | hf
    · exact Nat.ne_of_lt hLs e
    · exact hax.2.1 (List.mem_singleton.mp hf).symm
  · intro b hb; rw [List.mem_singleton.mp hb]; exact next_is_new F
  · intro p hp hf
    rcases List.mem_cons.mp hf with e | hf
    · exact Nat.ne_of_lt (Heap.lt_size (N p (hsub p hp)).1) e
    · exact hnl p hp (List.mem_singleton.mp hf)
  · exact ⟨⟨_, Heap.get?_push_size _ rfl, rfl, rfl⟩, hls.at fun o e => Heap.get?_push_of_some _ e⟩
  · intro i v m₁ news₁ h₁ tk₁ own hi hP
    exact turn i v m₁ news₁ h₁ tk₁ own (by simpa using hi) (by simpa using hP)
  · intro m₁ news₁ h tk hJ
    exact done m₁ news₁ h tk (by simpa using hJ)
end
end Mine
end
section
open PySem PySem.W PyProof.Rows PySem.Calls PySem.Spec
namespace Mine
def backStep (r : Int) : Int := if 2 ^ Int.toNat 32 ≤ r * 2 then Builtin.bitXor (r * 2) 7976584769 else r * 2
def back (r : Int) (n : Int) : Int := (rangeKs 0 (n - 0).toNat).foldl (fun a _ => backStep a) r
def sgRow (x : Int) (low : Int) (third : Str) : Str × Str :=
  ((Txt.item (Str.ofString "-r") (((x.fdiv (8 ^ low.toNat)).fmod 8).fdiv 4) ++ Txt.item (Str.ofString "-w") ((((x.fdiv (8 ^ low.toNat)).fmod 8).fdiv 2).fmod 2)),
   Txt.item third (((x.fdiv (8 ^ low.toNat)).fmod 8).fmod 2 + (x.fdiv (512 * 2 ^ low.toNat)).fmod 2 * 2))
def sgStr (x : Int) : Str :=
  Txt.item (Str.ofString "?pc?d?b?-?l?s???") ((x.fdiv 4096).fmod 16) ++ (sgRow x 2 (Str.ofString "-xSs")).1 ++ (sgRow x 2 (Str.ofString "-xSs")).2
    ++ (sgRow x 1 (Str.ofString "-xSs")).1 ++ (sgRow x 1 (Str.ofString "-xSs")).2 ++ (sgRow x 0 (Str.ofString "-xTt")).1 ++ (sgRow x 0 (Str.ofString "-xTt")).2
def startStep (r c : Int) : Int := Builtin.bitXor (back r 8) c
def startOf (r : Int) (x : Str) : Int := (KStt.codes (Txt.sliceBy x none none (-1, 0))).foldl startStep r
def afterRights (n r : Int) : Int := r.fmod 8 * 8 ^ (2 - n.fmod 3).toNat + r.fdiv 8 * 512 * 2 ^ (2 - n.fmod 3).toNat
def afterAt (n r : Int) (k : Int) (x : Int) : Int := if k = n.fdiv 3 then Builtin.bitXor x (afterRights n r) else x
def tKey (x : Str) (i j : Nat) : Int := Builtin.bitXor ((Txt.item x (0 + (i : Int))).cps.getD 0 0 : Nat) ((Txt.item x (Builtin.bitXor (0 + (i : Int)) (0 + (j : Int)))).cps.getD 0 0 : Nat)
def tVal (_ j : Nat) : Int := (0 + (j : Int)).fmod 2 + (0 + (j : Int)).fdiv 2 * 8
def tData (th : Str) : List (Int × Int) := dataAt (tKey th) tVal 4 4 0
end Mine
end
section
open PySem PySem.W PyProof.Rows
namespace Mine
theorem or_xor_and (x : Nat) : ∀ y : Nat, x ||| y = (x ^^^ y) + (x &&& y) := by
  induction x using Nat.strongRecOn with
  | ind x ih =>
    intro y
    by_cases hx : x = 0
    · subst hx; simp
    · have h1 : (x ||| y) / 2 = x / 2 ||| y / 2 := by have := @Nat.or_div_two x y; exact this
      have h2 : (x ^^^ y) / 2 = x / 2 ^^^ y / 2 := Nat.xor_div_two
      have h3 : (x &&& y) / 2 = x / 2 &&& y / 2 := by have := @Nat.and_div_two x y; exact this
      have e := ih (x / 2) (by omega) (y / 2)
      have m1 : (x ||| y) % 2 = x % 2 ||| y % 2 := by have := @Nat.or_mod_two_pow x y 1; simpa using this
      have m2 : (x ^^^ y) % 2 = x % 2 ^^^ y % 2 := by have := @Nat.xor_mod_two_pow x y 1; simpa using this
      have m3 : (x &&& y) % 2 = x % 2 &&& y % 2 := by have := @Nat.and_mod_two_pow x y 1; simpa using this
      have b1 : x % 2 = 0 ∨ x % 2 = 1 := by omega
      have b2 : y % 2 = 0 ∨ y % 2 = 1 := by omega
      rcases b1 with b1 | b1 <;> rcases b2 with b2 | b2 <;> rw [b1, b2] at m1 m2 m3
      · replace m1 : (x ||| y) % 2 = 0 := m1
        replace m2 : (x ^^^ y) % 2 = 0 := m2
        replace m3 : (x &&& y) % 2 = 0 := m3
        omega
      · replace m1 : (x ||| y) % 2 = 1 := m1
        replace m2 : (x ^^^ y) % 2 = 1 := m2
        replace m3 : (x &&& y) % 2 = 0 := m3
        omega
      · replace m1 : (x ||| y) % 2 = 1 := m1
        replace m2 : (x ^^^ y) % 2 = 1 := m2
        replace m3 : (x &&& y) % 2 = 0 := m3
        omega
      · replace m1 : (x ||| y) % 2 = 1 := m1
        replace m2 : (x ^^^ y) % 2 = 0 := m2
        replace m3 : (x &&& y) % 2 = 1 := m3
        omega
theorem bitXor_nat (x y : Nat) : Builtin.bitXor (x : Int) (y : Int) = ((x ^^^ y : Nat) : Int) := by
  have h := or_xor_and x y
  have e : Builtin.bitXor (x : Int) (y : Int) = (((x ||| y : Nat) : Int)) - ((x &&& y : Nat) : Int) := by
    unfold Builtin.bitXor Builtin.bitOr Builtin.bitAnd Builtin.bitNot
    have n1 : ¬ (0 ≤ -(x : Int) - 1) := by omega
    have n2 : ¬ (0 ≤ -(y : Int) - 1) := by omega
    have p1 : (0 : Int) ≤ (x : Int) := by omega
    have p2 : (0 : Int) ≤ (y : Int) := by omega
    have q1 : (-(-(x : Int) - 1) - 1).toNat = x := by omega
    have q2 : (-(-(y : Int) - 1) - 1).toNat = y := by omega
    simp only [n1, n2, p1, p2, decide_true, decide_false, Int.toNat_natCast, q1, q2]
    omega
  rw [e, h]; push_cast; omega
theorem bitAnd_nat (x y : Nat) : Builtin.bitAnd (x : Int) (y : Int) = ((x &&& y : Nat) : Int) := by
  rw [bitAnd_pp (by omega) (by omega)]; simp
theorem fdiv_nat (x k : Nat) : (x : Int).fdiv (k : Int) = ((x / k : Nat) : Int) := by
  rw [Int.fdiv_eq_ediv_of_nonneg _ (by omega)]; simp
theorem fmod_nat (x k : Nat) : (x : Int).fmod (k : Int) = ((x % k : Nat) : Int) := by
  rw [Int.fmod_eq_emod_of_nonneg _ (by omega)]; simp

def cP : Nat := 3988292384
def cs (x : Nat) : Nat := if x % 2 = 0 then x / 2 else (x / 2) ^^^ cP
theorem crcStep_nat (n : Nat) : crcStep (n : Int) = ((cs n : Nat) : Int) := by
  unfold crcStep cs
  have e1 : Builtin.bitAnd (n : Int) 1 = ((n % 2 : Nat) : Int) := by rw [bitAnd_m1]; omega
  have e2 : (n : Int).fdiv (2 ^ Int.toNat 1) = ((n / 2 : Nat) : Int) := fdiv_nat n 2
  rw [e1, e2]
  by_cases h : n % 2 = 0
  · simp [h]
  · rw [if_pos (by omega), if_neg h]
    exact bitXor_nat _ 3988292384
def c8 (x : Nat) : Nat := cs (cs (cs (cs (cs (cs (cs (cs x)))))))
theorem genCrc_nat (n : Nat) : genCrc (n : Int) = ((c8 n : Nat) : Int) := by
  show crcStep (crcStep (crcStep (crcStep (crcStep (crcStep (crcStep (crcStep (n : Int)))))))) = _
  simp only [crcStep_nat]; rfl
theorem xor_mod2 (x y : Nat) : (x ^^^ y) % 2 = (x % 2) ^^^ (y % 2) := by have := @Nat.xor_mod_two_pow x y 1; simpa using this
theorem cs_xor (x y : Nat) : cs (x ^^^ y) = cs x ^^^ cs y := by
  unfold cs
  have m := xor_mod2 x y
  have d : (x ^^^ y) / 2 = x / 2 ^^^ y / 2 := Nat.xor_div_two
  have b1 : x % 2 = 0 ∨ x % 2 = 1 := by omega
  have b2 : y % 2 = 0 ∨ y % 2 = 1 := by omega
  rcases b1 with b1 | b1 <;> rcases b2 with b2 | b2 <;> rw [b1, b2] at m
  · replace m : (x ^^^ y) % 2 = 0 := m
    rw [if_pos m, if_pos b1, if_pos b2, d]
  · replace m : (x ^^^ y) % 2 = 1 := m
    rw [if_neg (by omega), if_pos b1, if_neg (by omega), d, Nat.xor_assoc]
  · replace m : (x ^^^ y) % 2 = 1 := m
    rw [if_neg (by omega), if_neg (by omega), if_pos b2, d]
    rw [Nat.xor_assoc, Nat.xor_assoc, Nat.xor_comm (y / 2) cP]
  · replace m : (x ^^^ y) % 2 = 0 := m
    rw [if_pos m, if_neg (by omega), if_neg (by omega), d]
    rw [Nat.xor_assoc, ← Nat.xor_assoc cP, Nat.xor_comm cP, Nat.xor_assoc (y / 2), Nat.xor_self, Nat.xor_zero]
theorem c8_xor (x y : Nat) : c8 (x ^^^ y) = c8 x ^^^ c8 y := by
  unfold c8; simp only [cs_xor]
theorem cs_even (m : Nat) : cs (2 * m) = m := by
  unfold cs; rw [if_pos (by omega)]; omega
theorem c8_shift (k : Nat) : c8 (256 * k) = k := by
  unfold c8
  rw [show 256 * k = 2 * (2 * (2 * (2 * (2 * (2 * (2 * (2 * k))))))) by omega]
  simp only [cs_even]
theorem split8 (x : Nat) : x = (256 * (x / 256)) ^^^ (x % 256) := by
  apply Nat.eq_of_testBit_eq
  intro i
  have h1 : (256 * (x / 256)).testBit i = (decide (8 ≤ i) && x.testBit i) := by
    rw [show 256 * (x / 256) = (x / 2 ^ 8) * 2 ^ 8 by omega, Nat.testBit_mul_two_pow]
    by_cases h : 8 ≤ i
    · rw [Nat.testBit_div_two_pow]; simp [h]
    · simp [h]
  have h2 : (x % 256).testBit i = (decide (i < 8) && x.testBit i) := by
    rw [show (256 : Nat) = 2 ^ 8 by rfl, Nat.testBit_mod_two_pow]
  rw [Nat.testBit_xor, h1, h2]
  by_cases h : 8 ≤ i
  · have : ¬ i < 8 := by omega
    simp [h, this]
  · have : i < 8 := by omega
    simp [h, this]
theorem c8_split (x : Nat) : c8 x = (x / 256) ^^^ c8 (x % 256) := by
  conv => lhs; rw [split8 x]
  rw [c8_xor, c8_shift]
def rs (r c : Nat) : Nat := c8 (r ^^^ c)
theorem regStep_nat (r c : Nat) (hc : c < 256) : regStep (r : Int) (c : Int) = ((rs r c : Nat) : Int) := by
  unfold regStep rs
  rw [bitXor_nat, show (256 : Int) = ((256 : Nat) : Int) by rfl, fdiv_nat, fmod_nat, genCrc_nat, bitXor_nat, c8_split (r ^^^ c)]
  have : (r ^^^ c) / 256 = r / 256 := by
    have := @Nat.xor_div_two_pow r c 8
    rw [show (256 : Nat) = 2 ^ 8 by rfl, this, show c / 2 ^ 8 = 0 by omega, Nat.xor_zero]
  rw [this]
theorem cs_lt {x : Nat} (h : x < 2 ^ 32) : cs x < 2 ^ 32 := by
  unfold cs
  split
  · omega
  · exact Nat.xor_lt_two_pow (by omega) (by decide)
theorem c8_lt {x : Nat} (h : x < 2 ^ 32) : c8 x < 2 ^ 32 := by
  unfold c8
  exact cs_lt (cs_lt (cs_lt (cs_lt (cs_lt (cs_lt (cs_lt (cs_lt h)))))))
theorem rs_lt {r c : Nat} (hr : r < 2 ^ 32) (hc : c < 256) : rs r c < 2 ^ 32 := c8_lt (Nat.xor_lt_two_pow hr (by omega))
end Mine
end
section
open PySem PySem.W PyProof.Rows
namespace Mine
def bs (x : Nat) : Nat := if 2 ^ 32 ≤ x * 2 then (x * 2) ^^^ 7976584769 else x * 2
theorem backStep_nat (n : Nat) : backStep (n : Int) = ((bs n : Nat) : Int) := by
  unfold backStep bs
  have e1 : (2 : Int) ^ Int.toNat 32 = 4294967296 := by decide
  rw [e1]
  by_cases h : 2 ^ 32 ≤ n * 2
  · rw [if_pos (by omega), if_pos h]
    rw [show (n : Int) * 2 = ((n * 2 : Nat) : Int) by omega]
    exact bitXor_nat (n * 2) 7976584769
  · rw [if_neg (by omega), if_neg h]; omega
def bsN : Nat → Nat → Nat
  | 0, x => x
  | k + 1, x => bsN k (bs x)
theorem back_nat (k : Nat) : ∀ n : Nat, (List.replicate k (0 : Int)).foldl (fun a _ => backStep a) (n : Int) = ((bsN k n : Nat) : Int) := by
  induction k with
  | zero => intro n; rfl
  | succ k ih => intro n; rw [List.replicate_succ, List.foldl_cons, backStep_nat]; exact ih (bs n)
theorem foldl_any {α β : Type} (f : α → α) : ∀ (l l' : List β) (a : α), l.length = l'.length → l.foldl (fun a _ => f a) a = l'.foldl (fun a _ => f a) a
  | [], [], _, _ => rfl
  | [], _ :: _, _, h => by simp at h
  | _ :: _, [], _, h => by simp at h
  | _ :: l, _ :: l', a, h => by simp only [List.foldl_cons]; exact foldl_any f l l' (f a) (by simpa using h)
theorem back_natI (n k : Nat) : back (n : Int) (k : Int) = ((bsN k n : Nat) : Int) := by
  unfold back
  rw [foldl_any backStep _ (List.replicate k (0 : Int)) _ (by rw [rangeKs_length, List.length_replicate]; omega)]
  exact back_nat k n
theorem two_xor (x y : Nat) : (x ^^^ y) * 2 = (x * 2) ^^^ (y * 2) := by
  apply Nat.eq_of_testBit_eq
  intro i
  rw [show (x ^^^ y) * 2 = (x ^^^ y) * 2 ^ 1 by rfl, show x * 2 = x * 2 ^ 1 by rfl, show y * 2 = y * 2 ^ 1 by rfl]
  simp only [Nat.testBit_mul_two_pow, Nat.testBit_xor]
  by_cases h : 1 ≤ i <;> simp [h]
theorem even_xor_one (y : Nat) : (y * 2) ^^^ 1 = y * 2 + 1 := by
  have h1 : ((y * 2) ^^^ 1) / 2 = y := by rw [Nat.xor_div_two, show y * 2 / 2 = y by omega]; rw [show (1 / 2 : Nat) = 0 by rfl, Nat.xor_zero]
  have h2 : ((y * 2) ^^^ 1) % 2 = 1 := by rw [xor_mod2, show y * 2 % 2 = 0 by omega]; rfl
  omega
theorem bs_cs {x : Nat} (h : x < 2 ^ 32) : bs (cs x) = x := by
  unfold cs
  by_cases hx : x % 2 = 0
  · rw [if_pos hx]
    unfold bs
    rw [if_neg (by omega)]; omega
  · rw [if_neg hx]
    unfold bs
    have hy : x / 2 < 2 ^ 31 := by omega
    have ht : (x / 2 ^^^ cP).testBit 31 = true := by
      rw [Nat.testBit_xor, Nat.testBit_lt_two_pow hy]; decide
    have hge : 2 ^ 31 ≤ x / 2 ^^^ cP := Nat.ge_two_pow_of_testBit ht
    rw [if_pos (by omega), two_xor, Nat.xor_assoc]
    have e : cP * 2 ^^^ 7976584769 = 1 := by decide
    rw [e, even_xor_one]; omega
def csN : Nat → Nat → Nat
  | 0, x => x
  | k + 1, x => csN k (cs x)
theorem csN_succ (k : Nat) : ∀ x, csN (k + 1) x = cs (csN k x) := by
  induction k with
  | zero => intro x; rfl
  | succ k ih => intro x; exact ih (cs x)
theorem csN_lt (k : Nat) : ∀ {x}, x < 2 ^ 32 → csN k x < 2 ^ 32 := by
  induction k with
  | zero => intro x h; exact h
  | succ k ih => intro x h; exact ih (cs_lt h)
theorem bsN_csN (k : Nat) : ∀ {x}, x < 2 ^ 32 → bsN k (csN k x) = x := by
  induction k with
  | zero => intro x _; rfl
  | succ k ih =>
    intro x h
    rw [csN_succ]
    show bsN k (bs (cs (csN k x))) = x
    rw [bs_cs (csN_lt k h)]
    exact ih h
def c8N : Nat → Nat → Nat
  | 0, x => x
  | k + 1, x => c8N k (c8 x)
theorem c8N_csN (k : Nat) : ∀ x, c8N k x = csN (8 * k) x := by
  induction k with
  | zero => intro x; rfl
  | succ k ih =>
    intro x
    show c8N k (c8 x) = csN (8 * (k + 1)) x
    rw [ih, show 8 * (k + 1) = 8 * k + 8 by omega]
    rfl
theorem bs8_c8 {x : Nat} (h : x < 2 ^ 32) : bsN 8 (c8 x) = x := bsN_csN 8 h
theorem bsN_c8N (k : Nat) {x : Nat} (h : x < 2 ^ 32) : bsN (8 * k) (c8N k x) = x := by rw [c8N_csN]; exact bsN_csN _ h
/-- the register over a text's codes -/
def rsL (r : Nat) (l : List Nat) : Nat := l.foldl rs r
theorem rsL_lt : ∀ (l : List Nat) {r : Nat}, r < 2 ^ 32 → (∀ c ∈ l, c < 256) → rsL r l < 2 ^ 32
  | [], _, h, _ => h
  | c :: l, _, h, hl => rsL_lt l (rs_lt h (hl c (.head _))) fun d hd => hl d (.tail _ hd)
theorem regL_nat : ∀ (l : List Nat) (r : Nat), (∀ c ∈ l, c < 256) → (l.map fun (c : Nat) => (c : Int)).foldl regStep (r : Int) = ((rsL r l : Nat) : Int)
  | [], _, _ => rfl
  | c :: l, r, hl => by
    simp only [List.map_cons, List.foldl_cons]
    rw [regStep_nat r c (hl c (.head _))]
    exact regL_nat l (rs r c) fun d hd => hl d (.tail _ hd)
theorem rs_xor (r r' c c' : Nat) : rs r c ^^^ rs r' c' = rs (r ^^^ r') (c ^^^ c') := by
  unfold rs
  rw [← c8_xor]
  congr 1
  rw [Nat.xor_assoc, ← Nat.xor_assoc c, Nat.xor_comm c r', Nat.xor_assoc r' c, ← Nat.xor_assoc r]
theorem rsL_xor : ∀ (l l' : List Nat) (r r' : Nat), l.length = l'.length → rsL r l ^^^ rsL r' l' = rsL (r ^^^ r') (List.zipWith (· ^^^ ·) l l')
  | [], [], _, _, _ => rfl
  | [], _ :: _, _, _, h => by simp at h
  | _ :: _, [], _, _, h => by simp at h
  | c :: l, c' :: l', r, r', h => by
    show rsL (rs r c) l ^^^ rsL (rs r' c') l' = rsL (rs (r ^^^ r') (c ^^^ c')) _
    rw [← rs_xor]
    exact rsL_xor l l' _ _ (by simpa using h)
theorem rsL_append (r : Nat) (l l' : List Nat) : rsL r (l ++ l') = rsL (rsL r l) l' := List.foldl_append ..
theorem rs_zero (r : Nat) : rs r 0 = c8 r := by unfold rs; rw [Nat.xor_zero]
theorem rsL_zeros (k : Nat) : ∀ r, rsL r (List.replicate k 0) = c8N k r := by
  induction k with
  | zero => intro r; rfl
  | succ k ih => intro r; rw [List.replicate_succ]; show rsL (rs r 0) _ = _; rw [rs_zero]; exact ih (c8 r)
theorem c8N_zero (k : Nat) : c8N k 0 = 0 := by
  induction k with
  | zero => rfl
  | succ k ih => show c8N k (c8 0) = 0; exact ih
def e3 (d0 d1 d2 : Nat) : Nat := d0 ^^^ (256 * d1) ^^^ (256 * (256 * d2))
theorem e3_lt {d0 d1 d2 : Nat} (h0 : d0 < 256) (h1 : d1 < 256) (h2 : d2 < 256) : e3 d0 d1 d2 < 2 ^ 32 := Nat.xor_lt_two_pow (Nat.xor_lt_two_pow (by omega) (by omega)) (by omega)
theorem rs3 (d0 d1 d2 : Nat) : rsL 0 [d0, d1, d2] = c8N 3 (e3 d0 d1 d2) := by
  have h1 : rsL 0 [d0, d1, d2] = rs (rs (rs 0 d0) d1) d2 := rfl
  have h2 : c8N 3 (e3 d0 d1 d2) = c8 (c8 (c8 (e3 d0 d1 d2))) := rfl
  rw [h1, h2]
  unfold rs e3
  rw [Nat.zero_xor, c8_xor (d0 ^^^ 256 * d1), c8_shift, c8_xor d0, c8_shift, c8_xor (c8 d0 ^^^ d1) (256 * d2), c8_shift]
theorem back_diff (p q d0 d1 d2 : Nat) (h0 : d0 < 256) (h1 : d1 < 256) (h2 : d2 < 256) :
    bsN (8 * (q + 3)) (rsL 0 (List.replicate p 0 ++ [d0, d1, d2] ++ List.replicate q 0)) = e3 d0 d1 d2 := by
  rw [rsL_append, rsL_append, rsL_zeros p, c8N_zero, rs3, rsL_zeros q]
  have : c8N q (c8N 3 (e3 d0 d1 d2)) = c8N (q + 3) (e3 d0 d1 d2) := by
    rw [c8N_csN, c8N_csN, c8N_csN]
    have add : ∀ a b x, csN a (csN b x) = csN (a + b) x := by
      intro a b
      induction b with
      | zero => intro x; rfl
      | succ b ih => intro x; exact ih (cs x)
    rw [add, ← Nat.mul_add]
  rw [this]
  exact bsN_c8N _ (e3_lt h0 h1 h2)
theorem e3_0 {d0 d1 d2 : Nat} (h0 : d0 < 256) : e3 d0 d1 d2 % 256 = d0 := by
  unfold e3
  have := @Nat.xor_mod_two_pow (d0 ^^^ 256 * d1) (256 * (256 * d2)) 8
  have h' := @Nat.xor_mod_two_pow d0 (256 * d1) 8
  rw [show (256 : Nat) = 2 ^ 8 by rfl] at *
  rw [this, h', Nat.mul_mod_right, Nat.mul_mod_right, Nat.xor_zero, Nat.xor_zero, Nat.mod_eq_of_lt h0]
theorem e3_div {d0 d1 d2 : Nat} (h0 : d0 < 256) : e3 d0 d1 d2 / 256 = d1 ^^^ (256 * d2) := by
  unfold e3
  have := @Nat.xor_div_two_pow (d0 ^^^ 256 * d1) (256 * (256 * d2)) 8
  have h' := @Nat.xor_div_two_pow d0 (256 * d1) 8
  have z1 : 256 * d1 / 2 ^ 8 = d1 := by omega
  have z2 : 256 * (256 * d2) / 2 ^ 8 = 256 * d2 := by omega
  have z3 : d0 / 2 ^ 8 = 0 := by omega
  rw [h', z1, z2, z3, Nat.zero_xor] at this
  exact this
theorem e3_1 {d0 d1 d2 : Nat} (h0 : d0 < 256) (h1 : d1 < 256) : e3 d0 d1 d2 / 256 % 256 = d1 := by
  rw [e3_div h0]
  have := @Nat.xor_mod_two_pow d1 (256 * d2) 8
  have z : 256 * d2 % 2 ^ 8 = 0 := by omega
  have z' : d1 % 2 ^ 8 = d1 := by omega
  rw [z, z', Nat.xor_zero] at this
  exact this
theorem e3_2 {d0 d1 d2 : Nat} (h0 : d0 < 256) (h1 : d1 < 256) : e3 d0 d1 d2 / 65536 = d2 := by
  have : e3 d0 d1 d2 / 65536 = (d1 ^^^ (256 * d2)) / 256 := by rw [← e3_div h0, Nat.div_div_eq_div_mul]
  rw [this]
  have := @Nat.xor_div_two_pow d1 (256 * d2) 8
  have z : 256 * d2 / 2 ^ 8 = d2 := by omega
  have z' : d1 / 2 ^ 8 = 0 := by omega
  rw [z, z', Nat.zero_xor] at this
  exact this
end Mine
end
section
open PySem PySem.W PyProof.Rows PySem.Calls PySem.Spec
namespace Mine
theorem ints3 {ws : List Value} {a b c : Int} (h : IntsAre ws [a, b, c]) : ∃ ta tb tc, ws = [.int a ta, .int b tb, .int c tc] := by
  cases h with
  | cons _ t h => cases h with
    | cons _ t2 h => cases h with
      | cons _ t3 h => cases h; exact ⟨_, _, _, rfl⟩
theorem fmod32 (x : Int) : 0 ≤ x.fmod (2 ^ 32) ∧ x.fmod (2 ^ 32) < 2 ^ 32 := ⟨fmod_lo x (by decide), fmod_hi x (by decide)⟩
theorem three {ws : List Value} {ns : List Int} (h : IntsAre ws (List.take 3 (List.map (fun k => k.fmod (2 ^ 32)) (List.take 3 ns) ++ [35232, 17897, 41472]))) :
    ∃ a b c ta tb tc, ws = [.int a ta, .int b tb, .int c tc] ∧ (0 ≤ a ∧ a < 2 ^ 32) ∧ (0 ≤ b ∧ b < 2 ^ 32) ∧ (0 ≤ c ∧ c < 2 ^ 32) := by
  rcases ns with _ | ⟨n0, _ | ⟨n1, _ | ⟨n2, r⟩⟩⟩
  · obtain ⟨ta, tb, tc, e⟩ := ints3 h
    exact ⟨_, _, _, ta, tb, tc, e, by decide, by decide, by decide⟩
  · obtain ⟨ta, tb, tc, e⟩ := ints3 h
    exact ⟨_, _, _, ta, tb, tc, e, fmod32 _, by decide, by decide⟩
  · obtain ⟨ta, tb, tc, e⟩ := ints3 h
    exact ⟨_, _, _, ta, tb, tc, e, fmod32 _, fmod32 _, by decide⟩
  · obtain ⟨ta, tb, tc, e⟩ := ints3 h
    exact ⟨_, _, _, ta, tb, tc, e, fmod32 _, fmod32 _, fmod32 _⟩
end Mine
namespace Mine
theorem ints_at {vs : List Value} {ns : List Int} (h : IntsAre vs ns) {i : Nat} {v : Value} (hv : vs[i]? = some v) : ∃ d t, v = .int d t := by
  induction h generalizing i with
  | nil => simp at hv
  | cons n t _ ih =>
    cases i with
    | zero => simp at hv; exact ⟨n, t, hv.symm⟩
    | succ i => exact ih (by simpa using hv)
theorem turns_bound (n : Int) (hn : 0 ≤ n) (hn2 : n < 9) : 0 ≤ 8 * (29 - n.fdiv 3 * 10 - n.fmod 3 * 3) ∧ 8 * (29 - n.fdiv 3 * 10 - n.fmod 3 * 3) < 1000 := by
  have h1 := fmod_lo n (n := 3) (by decide)
  have h2 := fmod_hi n (n := 3) (by decide)
  have h3 := Int.mul_fdiv_add_fmod n 3
  omega
end Mine
end
section
open PySem PySem.W PyProof.Rows PySem.Calls PySem.Spec
namespace Mine
def kSg (a b c d : Bool) : Nat := [63, 112, 99, 63, 100, 63, 98, 63, 45, 63, 108, 63, 115, 63, 63, 63].getD (a.toNat + 2 * b.toNat + 4 * c.toNat + 8 * d.toNat) 0
def oSg (z : Nat) (a : Bool) : Nat := if a then z else 45
def tSg (s S : Nat) (a b : Bool) : Nat := if b then (if a then s else S) else if a then 120 else 45
/-- the ten signs of a mode -/
def sg (m : Nat) : List Nat :=
  [kSg (m.testBit 12) (m.testBit 13) (m.testBit 14) (m.testBit 15),
   oSg 114 (m.testBit 8), oSg 119 (m.testBit 7), tSg 115 83 (m.testBit 6) (m.testBit 11),
   oSg 114 (m.testBit 5), oSg 119 (m.testBit 4), tSg 115 83 (m.testBit 3) (m.testBit 10),
   oSg 114 (m.testBit 2), oSg 119 (m.testBit 1), tSg 116 84 (m.testBit 0) (m.testBit 9)]
theorem sg_lt (m : Nat) : ∀ c ∈ sg m, c < 256 := by
  have hk : ∀ a b c d, kSg a b c d < 256 := by decide
  have h1 : ∀ a, oSg 114 a < 256 := by decide
  have h2 : ∀ a, oSg 119 a < 256 := by decide
  have h3 : ∀ a b, tSg 115 83 a b < 256 := by decide
  have h4 : ∀ a b, tSg 116 84 a b < 256 := by decide
  intro c hc
  simp only [sg, List.mem_cons, List.not_mem_nil, or_false] at hc
  rcases hc with h | h | h | h | h | h | h | h | h | h <;> rw [h] <;> first | exact hk .. | exact h1 .. | exact h2 .. | exact h3 .. | exact h4 ..
theorem sg_len (m : Nat) : (sg m).length = 10 := rfl
theorem app_cps (a b : Str) : (a ++ b).cps.toList = a.cps.toList ++ b.cps.toList := by
  show (a.cps ++ b.cps).toList = _
  simp
theorem join_cps : ∀ l : List Str, (Txt.join (Str.ofString "") l).cps.toList = (l.map (·.cps.toList)).flatten := by
  intro l
  show (Builtin.Str.glued (Str.ofString "") l).cps.toList = _
  rw [StrLaws.glued_eq_join]
  induction l with
  | nil => rfl
  | cons a r ih =>
    cases r with
    | nil => show a.cps.toList = _; simp
    | cons b r =>
      show (a ++ Str.ofString "" ++ Str.join (Str.ofString "") (b :: r)).cps.toList = _
      rw [app_cps, app_cps, ih]
      have : (Str.ofString "").cps.toList = [] := by decide
      rw [this]; simp
theorem and2 (m i : Nat) : m &&& 2 ^ i = (m.testBit i).toNat * 2 ^ i := by
  apply Nat.eq_of_testBit_eq
  intro j
  rw [Nat.testBit_and, Nat.testBit_two_pow, Nat.testBit_mul_two_pow]
  by_cases h : i = j
  · subst h
    simp only [decide_true, Bool.and_true, Nat.le_refl, Nat.sub_self, Bool.true_and]
    cases m.testBit i <;> rfl
  · by_cases h2 : i ≤ j
    · obtain ⟨k, hk⟩ : ∃ k, j - i = k + 1 := ⟨j - i - 1, by omega⟩
      rw [hk]
      have : (m.testBit i).toNat.testBit (k + 1) = false := by
        apply Nat.testBit_lt_two_pow
        have := Nat.one_lt_two_pow (n := k + 1) (by omega)
        cases m.testBit i
        · show 0 < _; omega
        · exact this
      simp [h, this]
    · simp [h, h2]
theorem hit1 (m i k : Nat) (hk : k ≠ 0) : fmHit k (m : Int) ((2 ^ i : Nat) : Int) = m.testBit i := by
  unfold fmHit
  rw [if_neg hk, bitAnd_nat, and2]
  have : 0 < 2 ^ i := Nat.two_pow_pos i
  cases m.testBit i
  · simp only [Bool.toNat_false, Nat.zero_mul, decide_eq_false_iff_not]; omega
  · simp
theorem hit2 (m i j k : Nat) (hk : k ≠ 0) (hij : ∀ a b : Bool, decide (((a.toNat * 2 ^ i ||| b.toNat * 2 ^ j : Nat) : Int) = ((2 ^ i ||| 2 ^ j : Nat) : Int)) = (a && b)) :
    fmHit k (m : Int) ((2 ^ i ||| 2 ^ j : Nat) : Int) = (m.testBit i && m.testBit j) := by
  unfold fmHit
  rw [if_neg hk, bitAnd_nat, Nat.and_or_distrib_left, and2, and2]
  exact hij _ _
theorem and_kind (m : Nat) : Builtin.bitAnd (m : Int) 61440 = (((m.testBit 12).toNat * 4096 ||| (m.testBit 13).toNat * 8192 ||| (m.testBit 14).toNat * 16384 ||| (m.testBit 15).toNat * 32768 : Nat) : Int) := by
  have e : (61440 : Nat) = 2 ^ 12 ||| 2 ^ 13 ||| 2 ^ 14 ||| 2 ^ 15 := by decide
  have := bitAnd_nat m 61440
  rw [show ((61440 : Nat) : Int) = 61440 by rfl] at this
  rw [this, e]
  simp only [Nat.and_or_distrib_left, and2]
theorem fm_kind (m : Nat) : (fmPick 0 (m : Int) [(40960, s1 "l"), (49152, s1 "s"), (32768, s1 "-"), (24576, s1 "b"), (16384, s1 "d"), (8192, s1 "c"), (4096, s1 "p")]).cps.toList
    = [kSg (m.testBit 12) (m.testBit 13) (m.testBit 14) (m.testBit 15)] := by
  simp only [fmPick, fmHit, if_true, and_kind]
  generalize m.testBit 12 = a
  generalize m.testBit 13 = b
  generalize m.testBit 14 = c
  generalize m.testBit 15 = d
  revert a b c d
  decide
theorem fm_one (m i k : Nat) (hk : k ≠ 0) (z : Str) (n : Nat) (hz : z.cps.toList = [n]) : (fmPick k (m : Int) [(((2 ^ i : Nat) : Int), z)]).cps.toList = [oSg n (m.testBit i)] := by
  simp only [fmPick, hit1 m i k hk, if_neg hk]
  cases m.testBit i
  · have : (s1 "-").cps.toList = [45] := by decide
    exact this
  · exact hz
theorem fm_two (m i j k : Nat) (hk : k ≠ 0) (hij : ∀ a b : Bool, decide (((a.toNat * 2 ^ i ||| b.toNat * 2 ^ j : Nat) : Int) = ((2 ^ i ||| 2 ^ j : Nat) : Int)) = (a && b))
    (z z' : Str) (n n' : Nat) (hz : z.cps.toList = [n]) (hz' : z'.cps.toList = [n']) :
    (fmPick k (m : Int) [(((2 ^ i ||| 2 ^ j : Nat) : Int), z), (((2 ^ j : Nat) : Int), z'), (((2 ^ i : Nat) : Int), s1 "x")]).cps.toList = [tSg n n' (m.testBit i) (m.testBit j)] := by
  simp only [fmPick, hit2 m i j k hk hij, hit1 m i k hk, hit1 m j k hk, if_neg hk]
  cases m.testBit i <;> cases m.testBit j
  · have : (s1 "-").cps.toList = [45] := by decide
    exact this
  · exact hz'
  · have : (s1 "x").cps.toList = [120] := by decide
    exact this
  · exact hz
theorem fm_codes (m : Nat) : (fmStr (m : Int)).cps.toList = sg m := by
  unfold fmStr
  rw [join_cps]
  have e : fmList (m : Int) = [fmPick 0 (m : Int) [(40960, s1 "l"), (49152, s1 "s"), (32768, s1 "-"), (24576, s1 "b"), (16384, s1 "d"), (8192, s1 "c"), (4096, s1 "p")],
    fmPick 1 (m : Int) [(256, s1 "r")], fmPick 2 (m : Int) [(128, s1 "w")], fmPick 3 (m : Int) [(2112, s1 "s"), (2048, s1 "S"), (64, s1 "x")],
    fmPick 4 (m : Int) [(32, s1 "r")], fmPick 5 (m : Int) [(16, s1 "w")], fmPick 6 (m : Int) [(1032, s1 "s"), (1024, s1 "S"), (8, s1 "x")],
    fmPick 7 (m : Int) [(4, s1 "r")], fmPick 8 (m : Int) [(2, s1 "w")], fmPick 9 (m : Int) [(513, s1 "t"), (512, s1 "T"), (1, s1 "x")]] := rfl
  rw [e]
  simp only [List.map_cons, List.map_nil]
  rw [fm_kind]
  have a1 := fm_one m 8 1 (by decide) (s1 "r") 114 (by decide)
  have a2 := fm_one m 7 2 (by decide) (s1 "w") 119 (by decide)
  have a3 := fm_two m 6 11 3 (by decide) (by decide) (s1 "s") (s1 "S") 115 83 (by decide) (by decide)
  have a4 := fm_one m 5 4 (by decide) (s1 "r") 114 (by decide)
  have a5 := fm_one m 4 5 (by decide) (s1 "w") 119 (by decide)
  have a6 := fm_two m 3 10 6 (by decide) (by decide) (s1 "s") (s1 "S") 115 83 (by decide) (by decide)
  have a7 := fm_one m 2 7 (by decide) (s1 "r") 114 (by decide)
  have a8 := fm_one m 1 8 (by decide) (s1 "w") 119 (by decide)
  have a9 := fm_two m 0 9 9 (by decide) (by decide) (s1 "t") (s1 "T") 116 84 (by decide) (by decide)
  rw [show ((2 ^ 8 : Nat) : Int) = 256 by rfl] at a1
  rw [show ((2 ^ 7 : Nat) : Int) = 128 by rfl] at a2
  rw [show ((2 ^ 6 ||| 2 ^ 11 : Nat) : Int) = 2112 by decide, show ((2 ^ 11 : Nat) : Int) = 2048 by rfl, show ((2 ^ 6 : Nat) : Int) = 64 by rfl] at a3
  rw [show ((2 ^ 5 : Nat) : Int) = 32 by rfl] at a4
  rw [show ((2 ^ 4 : Nat) : Int) = 16 by rfl] at a5
  rw [show ((2 ^ 3 ||| 2 ^ 10 : Nat) : Int) = 1032 by decide, show ((2 ^ 10 : Nat) : Int) = 1024 by rfl, show ((2 ^ 3 : Nat) : Int) = 8 by rfl] at a6
  rw [show ((2 ^ 2 : Nat) : Int) = 4 by rfl] at a7
  rw [show ((2 ^ 1 : Nat) : Int) = 2 by rfl] at a8
  rw [show ((2 ^ 0 ||| 2 ^ 9 : Nat) : Int) = 513 by decide, show ((2 ^ 9 : Nat) : Int) = 512 by rfl, show ((2 ^ 0 : Nat) : Int) = 1 by rfl] at a9
  rw [a1, a2, a3, a4, a5, a6, a7, a8, a9]
  rfl
theorem nrow (m : Nat) (low : Nat) : (((m : Int).fdiv (8 ^ Int.toNat (low : Int))).fmod 8) = ((m / 8 ^ low % 8 : Nat) : Int) := by
  have h1 := fdiv_nat m (8 ^ low)
  rw [show (((8 ^ low : Nat)) : Int) = (8 : Int) ^ Int.toNat (low : Int) by simp] at h1
  rw [h1]; exact fmod_nat _ 8
theorem nrow2 (m : Nat) (low : Nat) : (((m : Int).fdiv (512 * 2 ^ Int.toNat (low : Int))).fmod 2) = ((m / (512 * 2 ^ low) % 2 : Nat) : Int) := by
  have h1 := fdiv_nat m (512 * 2 ^ low)
  rw [show (((512 * 2 ^ low : Nat)) : Int) = (512 * 2 ^ Int.toNat (low : Int) : Int) by simp] at h1
  rw [h1]; exact fmod_nat _ 2
theorem row_one (x : Int) (low : Int) (third : Str) (d : Nat) (e : Nat) (hd : (x.fdiv (8 ^ low.toNat)).fmod 8 = (d : Int)) (he : (x.fdiv (512 * 2 ^ low.toNat)).fmod 2 = (e : Int))
    (a b c f : Bool) (ha : d / 4 = a.toNat) (hb : d / 2 % 2 = b.toNat) (hc : d % 2 = c.toNat) (hf : e = f.toNat) (s S : Nat) (ht : ∀ c f : Bool, (Txt.item third (((c.toNat + f.toNat * 2 : Nat)) : Int)).cps.toList = [tSg s S c f]) :
    ((sgRow x low third).1 ++ (sgRow x low third).2).cps.toList = [oSg 114 a, oSg 119 b, tSg s S c f] := by
  unfold sgRow
  simp only [hd, he]
  have e1 : (d : Int).fdiv 4 = ((a.toNat : Nat) : Int) := by rw [← ha]; exact fdiv_nat d 4
  have e2 : ((d : Int).fdiv 2).fmod 2 = ((b.toNat : Nat) : Int) := by rw [← hb]; have := fdiv_nat d 2; rw [show ((2 : Nat) : Int) = 2 by rfl] at this; rw [this]; exact fmod_nat _ 2
  have e3 : (d : Int).fmod 2 + (e : Int) * 2 = ((c.toNat + f.toNat * 2 : Nat) : Int) := by
    have := fmod_nat d 2
    rw [show ((2 : Nat) : Int) = 2 by rfl] at this
    rw [this, hc, hf]; omega
  rw [e1, e2, e3, app_cps, app_cps, ht]
  have z1 : ∀ a : Bool, (Txt.item (Str.ofString "-r") ((a.toNat : Nat) : Int)).cps.toList = [oSg 114 a] := by decide
  have z2 : ∀ a : Bool, (Txt.item (Str.ofString "-w") ((a.toNat : Nat) : Int)).cps.toList = [oSg 119 a] := by decide
  rw [z1, z2]; rfl
theorem sg_codes (m : Nat) : (sgStr (m : Int)).cps.toList = sg m := by
  unfold sgStr
  have t0 := Nat.toNat_testBit m 0
  have t1 := Nat.toNat_testBit m 1
  have t2 := Nat.toNat_testBit m 2
  have t3 := Nat.toNat_testBit m 3
  have t4 := Nat.toNat_testBit m 4
  have t5 := Nat.toNat_testBit m 5
  have t6 := Nat.toNat_testBit m 6
  have t7 := Nat.toNat_testBit m 7
  have t8 := Nat.toNat_testBit m 8
  have t9 := Nat.toNat_testBit m 9
  have t10 := Nat.toNat_testBit m 10
  have t11 := Nat.toNat_testBit m 11
  have t12 := Nat.toNat_testBit m 12
  have t13 := Nat.toNat_testBit m 13
  have t14 := Nat.toNat_testBit m 14
  have t15 := Nat.toNat_testBit m 15
  have r2 := row_one (m : Int) 2 (Str.ofString "-xSs") _ _ (nrow m 2) (nrow2 m 2) (m.testBit 8) (m.testBit 7) (m.testBit 6) (m.testBit 11) (by omega) (by omega) (by omega) (by omega) 115 83 (by decide)
  have r1 := row_one (m : Int) 1 (Str.ofString "-xSs") _ _ (nrow m 1) (nrow2 m 1) (m.testBit 5) (m.testBit 4) (m.testBit 3) (m.testBit 10) (by omega) (by omega) (by omega) (by omega) 115 83 (by decide)
  have r0 := row_one (m : Int) 0 (Str.ofString "-xTt") _ _ (nrow m 0) (nrow2 m 0) (m.testBit 2) (m.testBit 1) (m.testBit 0) (m.testBit 9) (by omega) (by omega) (by omega) (by omega) 116 84 (by decide)
  have k : ((m : Int).fdiv 4096).fmod 16 = (((m.testBit 12).toNat + 2 * (m.testBit 13).toNat + 4 * (m.testBit 14).toNat + 8 * (m.testBit 15).toNat : Nat) : Int) := by
    have := fdiv_nat m 4096
    rw [show ((4096 : Nat) : Int) = 4096 by rfl] at this
    rw [this]
    have := fmod_nat (m / 4096) 16
    rw [show ((16 : Nat) : Int) = 16 by rfl] at this
    rw [this]
    congr 1
    omega
  have kk : ∀ a b c d : Bool, (Txt.item (Str.ofString "?pc?d?b?-?l?s???") ((a.toNat + 2 * b.toNat + 4 * c.toNat + 8 * d.toNat : Nat) : Int)).cps.toList = [kSg a b c d] := by decide
  rw [app_cps] at r0 r1 r2
  rw [k]
  simp only [app_cps, kk]
  generalize (sgRow (m : Int) 2 (Str.ofString "-xSs")).1.cps.toList = A2 at *
  generalize (sgRow (m : Int) 2 (Str.ofString "-xSs")).2.cps.toList = B2 at *
  generalize (sgRow (m : Int) 1 (Str.ofString "-xSs")).1.cps.toList = A1 at *
  generalize (sgRow (m : Int) 1 (Str.ofString "-xSs")).2.cps.toList = B1 at *
  generalize (sgRow (m : Int) 0 (Str.ofString "-xTt")).1.cps.toList = A0 at *
  generalize (sgRow (m : Int) 0 (Str.ofString "-xTt")).2.cps.toList = B0 at *
  have e : ∀ (K : List Nat), K ++ A2 ++ B2 ++ A1 ++ B1 ++ A0 ++ B0 = K ++ (A2 ++ B2) ++ (A1 ++ B1) ++ (A0 ++ B0) := by intro K; simp only [List.append_assoc]
  rw [e, r0, r1, r2]
  rfl
end Mine
end
section
open PySem PySem.W PyProof.Rows PySem.Calls PySem.Spec
namespace Mine
def sgs (a b c : Nat) : List Nat := sg a ++ (sg b ++ sg c)
theorem sgs_lt (a b c : Nat) : ∀ x ∈ sgs a b c, x < 256 := by
  intro x hx
  rcases List.mem_append.mp hx with h | h
  · exact sg_lt a x h
  · rcases List.mem_append.mp h with h | h
    · exact sg_lt b x h
    · exact sg_lt c x h
theorem join3 (x y z : Str) : (Txt.join (Str.ofString "") [x, y, z]).cps.toList = x.cps.toList ++ (y.cps.toList ++ z.cps.toList) := by
  rw [join_cps]; simp
theorem top32 : (2 : Int) ^ Int.toNat 32 - 1 = ((2 ^ 32 - 1 : Nat) : Int) := by decide
theorem sumOf_nat (a b c : Nat) : sumOf (a : Int) (b : Int) (c : Int) = ((rsL (2 ^ 32 - 1) (sgs a b c) : Nat) : Int) := by
  unfold sumOf sumText listing KStt.codes
  rw [join3, fm_codes, fm_codes, fm_codes, top32]
  exact regL_nat (sgs a b c) (2 ^ 32 - 1) (sgs_lt a b c)
theorem rev_list (x : Str) (u : Tok) : (Txt.sliceBy x none none (-1, u)).cps.toList = x.cps.toList.reverse := by
  rw [step_rev_list]
  apply List.ext_getElem
  · simp [Str.length]
  · intro i h1 h2
    have hl : i < x.cps.size := by simpa [Str.length] using h1
    simp only [List.getElem_map, List.getElem_range, List.getElem_reverse, Array.length_toList, Array.getElem_toList]
    have : x.length - 1 - i < x.cps.size := by show x.cps.size - 1 - i < x.cps.size; omega
    simp only [Array.getD, this, dif_pos]
    rfl
theorem startStep_nat (r c : Nat) : startStep (r : Int) (c : Int) = ((bsN 8 r ^^^ c : Nat) : Int) := by
  unfold startStep
  have := back_natI r 8
  rw [show ((8 : Nat) : Int) = 8 by rfl] at this
  rw [this]; exact bitXor_nat _ _
theorem start_back : ∀ (l : List Nat) (r : Nat), r < 2 ^ 32 → (∀ c ∈ l, c < 256) → (l.reverse.map fun (c : Nat) => (c : Int)).foldl startStep ((rsL r l : Nat) : Int) = (r : Int)
  | [], _, _, _ => rfl
  | c :: l, r, hr, hl => by
    rw [List.reverse_cons, List.map_append, List.foldl_append]
    have hc : c < 256 := hl c (.head _)
    have h1 := start_back l (rs r c) (rs_lt hr hc) fun d hd => hl d (.tail _ hd)
    show [(c : Int)].foldl startStep (List.foldl startStep ((rsL (rs r c) l : Nat) : Int) _) = _
    rw [h1]
    show startStep ((rs r c : Nat) : Int) (c : Int) = _
    rw [startStep_nat]
    unfold rs
    rw [bs8_c8 (Nat.xor_lt_two_pow hr (by omega)), Nat.xor_assoc, Nat.xor_self, Nat.xor_zero]
theorem start_nat (a b c : Nat) : startOf (sumOf (a : Int) b c) (Txt.join (Str.ofString "") [sgStr a, sgStr b, sgStr c]) = 2 ^ Int.toNat 32 - 1 := by
  unfold startOf KStt.codes
  rw [sumOf_nat, rev_list, join3, sg_codes, sg_codes, sg_codes, top32]
  exact start_back (sgs a b c) _ (by decide) (sgs_lt a b c)
def oD (d : Nat) (e : Bool) : Nat := if e then d else 0
def tD (s S : Nat) (a b e f : Bool) : Nat := tSg s S a b ^^^ tSg s S (a ^^ e) (b ^^ f)
theorem oD_r : ∀ a e : Bool, oSg 114 a ^^^ oSg 114 (a ^^ e) = oD 95 e := by decide
theorem oD_w : ∀ a e : Bool, oSg 119 a ^^^ oSg 119 (a ^^ e) = oD 90 e := by decide
theorem tD_0 (s S : Nat) (a b : Bool) : tD s S a b false false = 0 := by unfold tD; rw [Bool.xor_false, Bool.xor_false, Nat.xor_self]
theorem sg_diff (x y : Nat) (hy : y < 4096) : List.zipWith (· ^^^ ·) (sg x) (sg (x ^^^ y)) =
    [0, oD 95 (y.testBit 8), oD 90 (y.testBit 7), tD 115 83 (x.testBit 6) (x.testBit 11) (y.testBit 6) (y.testBit 11),
     oD 95 (y.testBit 5), oD 90 (y.testBit 4), tD 115 83 (x.testBit 3) (x.testBit 10) (y.testBit 3) (y.testBit 10),
     oD 95 (y.testBit 2), oD 90 (y.testBit 1), tD 116 84 (x.testBit 0) (x.testBit 9) (y.testBit 0) (y.testBit 9)] := by
  have z : ∀ i, 12 ≤ i → y.testBit i = false := fun i hi => Nat.testBit_lt_two_pow (Nat.lt_of_lt_of_le hy (Nat.pow_le_pow_right (by decide) hi : 2 ^ 12 ≤ 2 ^ i))
  simp only [sg, Nat.testBit_xor, List.zipWith_cons_cons, List.zipWith_nil_left, z 12 (by decide), z 13 (by decide), z 14 (by decide), z 15 (by decide), Bool.xor_false, Nat.xor_self, oD_r, oD_w]
  rfl
theorem sg_same (x : Nat) : List.zipWith (· ^^^ ·) (sg x) (sg x) = List.replicate 10 0 := by
  simp only [sg, List.zipWith_cons_cons, List.zipWith_nil_left, Nat.xor_self]; rfl
/-- the rights of a third as a number -/
def rN (p r : Nat) : Nat := r % 8 * 8 ^ (2 - p) + r / 8 * 512 * 2 ^ (2 - p)
theorem rN_lt : ∀ p < 3, ∀ r < 16, rN p r < 4096 := by decide
/-- the third sign's change -/
def d2 (p x r : Nat) : Nat := if p = 0 then tD 115 83 (x.testBit 6) (x.testBit 11) (r.testBit 0) (r.testBit 3) else if p = 1 then tD 115 83 (x.testBit 3) (x.testBit 10) (r.testBit 0) (r.testBit 3)
  else tD 116 84 (x.testBit 0) (x.testBit 9) (r.testBit 0) (r.testBit 3)
theorem d2_lt (p x r : Nat) : d2 p x r < 256 := by
  have h1 : ∀ a b c d, tD 115 83 a b c d < 256 := by decide
  have h2 : ∀ a b c d, tD 116 84 a b c d < 256 := by decide
  unfold d2
  split
  · exact h1 ..
  · split
    · exact h1 ..
    · exact h2 ..
theorem oD_lt1 (e : Bool) : oD 95 e < 256 := by cases e <;> decide
theorem oD_lt2 (e : Bool) : oD 90 e < 256 := by cases e <;> decide
theorem rN_bits0 : ∀ r < 16, [(rN 0 r).testBit 8, (rN 0 r).testBit 7, (rN 0 r).testBit 6, (rN 0 r).testBit 11, (rN 0 r).testBit 5, (rN 0 r).testBit 4, (rN 0 r).testBit 3, (rN 0 r).testBit 10, (rN 0 r).testBit 2, (rN 0 r).testBit 1, (rN 0 r).testBit 0, (rN 0 r).testBit 9]
    = [r.testBit 2, r.testBit 1, r.testBit 0, r.testBit 3, false, false, false, false, false, false, false, false] := by decide
theorem rN_bits1 : ∀ r < 16, [(rN 1 r).testBit 8, (rN 1 r).testBit 7, (rN 1 r).testBit 6, (rN 1 r).testBit 11, (rN 1 r).testBit 5, (rN 1 r).testBit 4, (rN 1 r).testBit 3, (rN 1 r).testBit 10, (rN 1 r).testBit 2, (rN 1 r).testBit 1, (rN 1 r).testBit 0, (rN 1 r).testBit 9]
    = [false, false, false, false, r.testBit 2, r.testBit 1, r.testBit 0, r.testBit 3, false, false, false, false] := by decide
theorem rN_bits2 : ∀ r < 16, [(rN 2 r).testBit 8, (rN 2 r).testBit 7, (rN 2 r).testBit 6, (rN 2 r).testBit 11, (rN 2 r).testBit 5, (rN 2 r).testBit 4, (rN 2 r).testBit 3, (rN 2 r).testBit 10, (rN 2 r).testBit 2, (rN 2 r).testBit 1, (rN 2 r).testBit 0, (rN 2 r).testBit 9]
    = [false, false, false, false, false, false, false, false, r.testBit 2, r.testBit 1, r.testBit 0, r.testBit 3] := by decide
theorem one_diff (p x r : Nat) (hp : p < 3) (hr : r < 16) : List.zipWith (· ^^^ ·) (sg x) (sg (x ^^^ rN p r)) =
    List.replicate (1 + 3 * p) 0 ++ [oD 95 (r.testBit 2), oD 90 (r.testBit 1), d2 p x r] ++ List.replicate (6 - 3 * p) 0 := by
  rw [sg_diff x _ (rN_lt p hp r hr)]
  have c : p = 0 ∨ p = 1 ∨ p = 2 := by omega
  rcases c with rfl | rfl | rfl
  · have h := rN_bits0 r hr
    simp only [List.cons.injEq, and_true] at h
    obtain ⟨h1, h2, h3, h4, h5, h6, h7, h8, h9, h10, h11, h12⟩ := h
    rw [h1, h2, h3, h4, h5, h6, h7, h8, h9, h10, h11, h12, tD_0, tD_0]; rfl
  · have h := rN_bits1 r hr
    simp only [List.cons.injEq, and_true] at h
    obtain ⟨h1, h2, h3, h4, h5, h6, h7, h8, h9, h10, h11, h12⟩ := h
    rw [h1, h2, h3, h4, h5, h6, h7, h8, h9, h10, h11, h12, tD_0, tD_0]; rfl
  · have h := rN_bits2 r hr
    simp only [List.cons.injEq, and_true] at h
    obtain ⟨h1, h2, h3, h4, h5, h6, h7, h8, h9, h10, h11, h12⟩ := h
    rw [h1, h2, h3, h4, h5, h6, h7, h8, h9, h10, h11, h12, tD_0, tD_0]; rfl
theorem told_t (r : Nat) (hr : r < 16) (p x : Nat) (hp : p < 3) (th : Str) (hth : th = if p = 2 then Str.ofString "-xTt" else Str.ofString "-xSs") :
    lookI (tData th) ((d2 p x r : Nat) : Int) = some ((r % 2 + r / 8 * 8 : Nat) : Int) := by
  have hS : ∀ a b e f : Bool, lookI (tData (Str.ofString "-xSs")) ((tD 115 83 a b e f : Nat) : Int) = some ((e.toNat + f.toNat * 8 : Nat) : Int) := by decide
  have hT : ∀ a b e f : Bool, lookI (tData (Str.ofString "-xTt")) ((tD 116 84 a b e f : Nat) : Int) = some ((e.toNat + f.toNat * 8 : Nat) : Int) := by decide
  have hb : (r.testBit 0).toNat + (r.testBit 3).toNat * 8 = r % 2 + r / 8 * 8 := by
    have t0 := Nat.toNat_testBit r 0
    have t3 := Nat.toNat_testBit r 3
    omega
  have c : p = 0 ∨ p = 1 ∨ p = 2 := by omega
  rw [← hb]
  rcases c with rfl | rfl | rfl
  · rw [hth]; exact hS ..
  · rw [hth]; exact hS ..
  · rw [hth]; exact hT ..
end Mine
end
section
open PySem PySem.W PyProof.Rows PySem.Calls PySem.Spec
namespace Mine
def In32 (x : Int) : Prop := 0 ≤ x ∧ x < 2 ^ 32
theorem item_len (x : Str) (i : Int) : (Txt.item x i).length = 1 := rfl
theorem sgStr_len (x : Int) : (sgStr x).length ≤ 10 := by
  unfold sgStr sgRow
  simp only [Str.length_append, item_len]; omega
theorem sg_room (a b c : Int) : (([sgStr a, sgStr b, sgStr c]).map (·.length)).sum + ([sgStr a, sgStr b, sgStr c] : List Str).length * 64 ≤ 16777216 := by
  have h1 := sgStr_len a
  have h2 := sgStr_len b
  have h3 := sgStr_len c
  simp only [List.map_cons, List.map_nil, List.sum_cons, List.sum_nil, List.length_cons, List.length_nil]
  omega
theorem sg_join_len (a b c : Int) : (Txt.join (Str.ofString "") [sgStr a, sgStr b, sgStr c]).length ≤ 1000 := by
  have h1 := sgStr_len a
  have h2 := sgStr_len b
  have h3 := sgStr_len c
  have h := congrArg List.length (join3 (sgStr a) (sgStr b) (sgStr c))
  simp only [List.length_append, Array.length_toList] at h
  have e : ∀ x : Str, x.cps.size = x.length := fun _ => rfl
  rw [e, e, e, e] at h
  omega
theorem In32.nat {x : Int} (h : In32 x) : ∃ n : Nat, n < 2 ^ 32 ∧ x = (n : Int) := ⟨x.toNat, by have := h.1; have := h.2; omega, by have := h.1; omega⟩
theorem m_start {a b c : Int} (ha : In32 a) (hb : In32 b) (hc : In32 c) : startOf (sumOf a b c) (Txt.join (Str.ofString "") [sgStr a, sgStr b, sgStr c]) = 2 ^ Int.toNat 32 - 1 := by
  obtain ⟨a, _, rfl⟩ := ha.nat
  obtain ⟨b, _, rfl⟩ := hb.nat
  obtain ⟨c, _, rfl⟩ := hc.nat
  exact start_nat a b c
def chg (a b c n r : Int) : Int := back (Builtin.bitXor (sumOf a b c) (sumOf (afterAt n r 0 a) (afterAt n r 1 b) (afterAt n r 2 c))) (8 * (29 - n.fdiv 3 * 10 - n.fmod 3 * 3))
def thOf (n : Int) : Str := if n.fmod 3 = 2 then Str.ofString "-xTt" else Str.ofString "-xSs"
theorem div3 (n : Nat) : (n : Int).fdiv 3 = ((n / 3 : Nat) : Int) := fdiv_nat n 3
theorem mod3 (n : Nat) : (n : Int).fmod 3 = ((n % 3 : Nat) : Int) := fmod_nat n 3
theorem rights_nat (n r : Nat) : afterRights (n : Int) (r : Int) = ((rN (n % 3) r : Nat) : Int) := by
  unfold afterRights rN
  have h1 : (r : Int).fmod 8 = ((r % 8 : Nat) : Int) := fmod_nat r 8
  have h2 : (r : Int).fdiv 8 = ((r / 8 : Nat) : Int) := fdiv_nat r 8
  have hp : n % 3 < 3 := Nat.mod_lt _ (by decide)
  rw [mod3, h1, h2]
  have c : n % 3 = 0 ∨ n % 3 = 1 ∨ n % 3 = 2 := by omega
  rcases c with h | h | h <;> rw [h]
  · show ((r % 8 : Nat) : Int) * 8 ^ 2 + ((r / 8 : Nat) : Int) * 512 * 2 ^ 2 = ((r % 8 * 8 ^ 2 + r / 8 * 512 * 2 ^ 2 : Nat) : Int)
    omega
  · show ((r % 8 : Nat) : Int) * 8 ^ 1 + ((r / 8 : Nat) : Int) * 512 * 2 ^ 1 = ((r % 8 * 8 ^ 1 + r / 8 * 512 * 2 ^ 1 : Nat) : Int)
    omega
  · show ((r % 8 : Nat) : Int) * 8 ^ 0 + ((r / 8 : Nat) : Int) * 512 * 2 ^ 0 = ((r % 8 * 8 ^ 0 + r / 8 * 512 * 2 ^ 0 : Nat) : Int)
    omega
theorem after_nat (n r k x : Nat) : afterAt (n : Int) (r : Int) (k : Int) (x : Int) = ((if k = n / 3 then x ^^^ rN (n % 3) r else x : Nat) : Int) := by
  unfold afterAt
  rw [div3, rights_nat, bitXor_nat]
  by_cases h : k = n / 3
  · rw [if_pos (by omega), if_pos h]
  · rw [if_neg (by omega), if_neg h]
theorem after_in {n r k x : Int} (hx : In32 x) (hn : 0 ≤ n) (hn2 : n < 9) (hr : 0 ≤ r) (hr2 : r < 16) : In32 (afterAt n r k x) := by
  unfold afterAt
  by_cases h : k = n.fdiv 3
  · rw [if_pos h]
    obtain ⟨x, hx2, rfl⟩ := hx.nat
    obtain ⟨n, rfl⟩ : ∃ m : Nat, n = (m : Int) := ⟨n.toNat, by omega⟩
    obtain ⟨r, rfl⟩ : ∃ m : Nat, r = (m : Int) := ⟨r.toNat, by omega⟩
    rw [rights_nat, bitXor_nat]
    have hl := rN_lt (n % 3) (Nat.mod_lt _ (by decide)) r (by omega)
    have := Nat.xor_lt_two_pow hx2 (show rN (n % 3) r < 2 ^ 32 by omega)
    exact ⟨by omega, by omega⟩
  · rw [if_neg h]; exact hx
theorem zip_app (a b a' b' : List Nat) (h : a.length = a'.length) : List.zipWith (· ^^^ ·) (a ++ b) (a' ++ b') = List.zipWith (· ^^^ ·) a a' ++ List.zipWith (· ^^^ ·) b b' := List.zipWith_append h
theorem zip_sg (x y : Nat) (b b' : List Nat) : List.zipWith (· ^^^ ·) (sg x ++ b) (sg y ++ b') = List.zipWith (· ^^^ ·) (sg x) (sg y) ++ List.zipWith (· ^^^ ·) b b' := zip_app _ _ _ _ rfl
theorem sgs_len (a b c : Nat) : (sgs a b c).length = 30 := rfl
theorem rep_app (k l : Nat) : List.replicate k (0 : Nat) ++ List.replicate l 0 = List.replicate (k + l) 0 := by rw [List.replicate_append_replicate]
theorem all_diff (a b c n r : Nat) (hn : n < 9) (hr : r < 16) : ∃ x,
    List.zipWith (· ^^^ ·) (sgs a b c) (sgs (if 0 = n / 3 then a ^^^ rN (n % 3) r else a) (if 1 = n / 3 then b ^^^ rN (n % 3) r else b) (if 2 = n / 3 then c ^^^ rN (n % 3) r else c))
      = List.replicate (10 * (n / 3) + 1 + 3 * (n % 3)) 0 ++ [oD 95 (r.testBit 2), oD 90 (r.testBit 1), d2 (n % 3) x r] ++ List.replicate (26 - 10 * (n / 3) - 3 * (n % 3)) 0 := by
  have hp : n % 3 < 3 := Nat.mod_lt _ (by decide)
  have hc : n / 3 = 0 ∨ n / 3 = 1 ∨ n / 3 = 2 := by omega
  generalize n % 3 = p at *
  unfold sgs
  rcases hc with h | h | h <;> rw [h]
  · refine ⟨a, ?_⟩
    rw [if_pos rfl, if_neg (by decide), if_neg (by decide), zip_sg, zip_sg, sg_same, sg_same, one_diff p a r hp hr, rep_app, List.append_assoc, rep_app]
    congr 2 <;> (congr 1; omega)
  · refine ⟨b, ?_⟩
    rw [if_neg (by decide), if_pos rfl, if_neg (by decide), zip_sg, zip_sg, sg_same, sg_same, one_diff p b r hp hr, List.append_assoc, rep_app, List.append_assoc, ← List.append_assoc, rep_app, ← List.append_assoc]
    congr 2
    · congr 1; omega
    · congr 1; omega
  · refine ⟨c, ?_⟩
    rw [if_neg (by decide), if_neg (by decide), if_pos rfl, zip_sg, zip_sg, sg_same, sg_same, one_diff p c r hp hr, ← List.append_assoc, rep_app, ← List.append_assoc, ← List.append_assoc, rep_app]
    congr 2
    congr 1; omega
theorem chg_nat (a b c n r : Nat) (hn : n < 9) (hr : r < 16) : ∃ x, chg (a : Int) b c n r = ((e3 (oD 95 (r.testBit 2)) (oD 90 (r.testBit 1)) (d2 (n % 3) x r) : Nat) : Int) := by
  obtain ⟨x, hx⟩ := all_diff a b c n r hn hr
  refine ⟨x, ?_⟩
  unfold chg
  have h0 := after_nat n r 0 a
  have h1 := after_nat n r 1 b
  have h2 := after_nat n r 2 c
  rw [show ((0 : Nat) : Int) = 0 by rfl] at h0
  rw [show ((1 : Nat) : Int) = 1 by rfl] at h1
  rw [show ((2 : Nat) : Int) = 2 by rfl] at h2
  rw [h0, h1, h2, sumOf_nat, sumOf_nat, bitXor_nat, rsL_xor _ _ _ _ (by rw [sgs_len, sgs_len]), Nat.xor_self, hx, div3, mod3]
  have hk : (8 : Int) * (29 - ((n / 3 : Nat) : Int) * 10 - ((n % 3 : Nat) : Int) * 3) = ((8 * (26 - 10 * (n / 3) - 3 * (n % 3) + 3) : Nat) : Int) := by omega
  rw [hk, back_natI, back_diff _ _ _ _ _ (oD_lt1 _) (oD_lt2 _) (d2_lt _ _ _)]
theorem told_nat {a b c n r : Int} (ha : In32 a) (hb : In32 b) (hc : In32 c) (hn : 0 ≤ n) (hn2 : n < 9) (hr : 0 ≤ r) (hr2 : r < 16) :
    ∃ (m s x : Nat), n = (m : Int) ∧ r = (s : Int) ∧ m < 9 ∧ s < 16 ∧ chg a b c n r = ((e3 (oD 95 (s.testBit 2)) (oD 90 (s.testBit 1)) (d2 (m % 3) x s) : Nat) : Int) := by
  obtain ⟨a, _, rfl⟩ := ha.nat
  obtain ⟨b, _, rfl⟩ := hb.nat
  obtain ⟨c, _, rfl⟩ := hc.nat
  obtain ⟨n, rfl⟩ : ∃ m : Nat, n = (m : Int) := ⟨n.toNat, by omega⟩
  obtain ⟨r, rfl⟩ : ∃ m : Nat, r = (m : Int) := ⟨r.toNat, by omega⟩
  obtain ⟨x, hx⟩ := chg_nat a b c n r (by omega) (by omega)
  exact ⟨n, r, x, rfl, rfl, by omega, by omega, hx⟩
theorem look1 : ∀ s < 16, lookI [(0, 0), (95, 4)] ((oD 95 (s.testBit 2) : Nat) : Int) = some (((s : Nat) : Int).fdiv 4 |>.fmod 2 |> (· * 4)) := by decide
theorem look2 : ∀ s < 16, lookI [(0, 0), (90, 2)] ((oD 90 (s.testBit 1) : Nat) : Int) = some (((s : Nat) : Int).fdiv 2 |>.fmod 2 |> (· * 2)) := by decide
theorem m_told1 {a b c n r : Int} (ha : In32 a) (hb : In32 b) (hc : In32 c) (hn : 0 ≤ n) (hn2 : n < 9) (hr : 0 ≤ r) (hr2 : r < 16) : lookI [(0, 0), (95, 4)] ((chg a b c n r).fmod 256) = some ((r.fdiv 4).fmod 2 * 4) := by
  obtain ⟨m, s, x, rfl, rfl, _, hs, e⟩ := told_nat ha hb hc hn hn2 hr hr2
  rw [e]
  have := fmod_nat (e3 (oD 95 (s.testBit 2)) (oD 90 (s.testBit 1)) (d2 (m % 3) x s)) 256
  rw [show ((256 : Nat) : Int) = 256 by rfl] at this
  rw [this, e3_0 (oD_lt1 _)]
  exact look1 s hs
theorem m_told2 {a b c n r : Int} (ha : In32 a) (hb : In32 b) (hc : In32 c) (hn : 0 ≤ n) (hn2 : n < 9) (hr : 0 ≤ r) (hr2 : r < 16) : lookI [(0, 0), (90, 2)] (((chg a b c n r).fdiv 256).fmod 256) = some ((r.fdiv 2).fmod 2 * 2) := by
  obtain ⟨m, s, x, rfl, rfl, _, hs, e⟩ := told_nat ha hb hc hn hn2 hr hr2
  rw [e]
  have h1 := fdiv_nat (e3 (oD 95 (s.testBit 2)) (oD 90 (s.testBit 1)) (d2 (m % 3) x s)) 256
  rw [show ((256 : Nat) : Int) = 256 by rfl] at h1
  rw [h1]
  have := fmod_nat (e3 (oD 95 (s.testBit 2)) (oD 90 (s.testBit 1)) (d2 (m % 3) x s) / 256) 256
  rw [show ((256 : Nat) : Int) = 256 by rfl] at this
  rw [this, e3_1 (oD_lt1 _) (oD_lt2 _)]
  exact look2 s hs
theorem m_told3 {a b c n r : Int} (ha : In32 a) (hb : In32 b) (hc : In32 c) (hn : 0 ≤ n) (hn2 : n < 9) (hr : 0 ≤ r) (hr2 : r < 16) : lookI (tData (thOf n)) ((chg a b c n r).fdiv 65536) = some (r.fmod 2 + r.fdiv 8 * 8) := by
  obtain ⟨m, s, x, rfl, rfl, _, hs, e⟩ := told_nat ha hb hc hn hn2 hr hr2
  rw [e]
  have h1 := fdiv_nat (e3 (oD 95 (s.testBit 2)) (oD 90 (s.testBit 1)) (d2 (m % 3) x s)) 65536
  rw [show ((65536 : Nat) : Int) = 65536 by rfl] at h1
  rw [h1, e3_2 (oD_lt1 _) (oD_lt2 _)]
  have ht : thOf (m : Int) = if m % 3 = 2 then Str.ofString "-xTt" else Str.ofString "-xSs" := by
    unfold thOf
    rw [mod3]
    by_cases h : m % 3 = 2
    · rw [if_pos (by omega), if_pos h]
    · rw [if_neg (by omega), if_neg h]
  rw [told_t s hs (m % 3) x (Nat.mod_lt _ (by decide)) (thOf (m : Int)) ht]
  have e1 : (s : Int).fmod 2 = ((s % 2 : Nat) : Int) := fmod_nat s 2
  have e2 : (s : Int).fdiv 8 = ((s / 8 : Nat) : Int) := fdiv_nat s 8
  rw [e1, e2]
  congr 1
end Mine
end
section
open PySem PySem.W PyProof.Rows
set_option maxHeartbeats 8000000
namespace Mine
open_top hd for PySem.Challenge.rw_mq0142_03
end Mine
end
section
open PySem PySem.W PyProof.Rows PySem.Calls PySem.Spec
set_option maxHeartbeats 8000000
namespace Mine
abbrev PC3 (d : Nat) (w : World) (mean : ExcName → Option Value) (mg mb : Str → Option Value) (f : Addr) (vs : List Value) (pre : Heap → Prop) (Post : Value → Heap → Heap → Prop) : Prop :=
  PC d Challenge.rw_mq0142_03.row.prog w (Mine.hd.heap_39 w.params) Mine.hd.view_39 (looseW Mine.hd.view_39 [Str.ofString "_filemode_table"]) mean mg mb f vs pre Post
def fmRefs : List Value := [.ref 29, .ref 31, .ref 33, .ref 37, .ref 39, .ref 41, .ref 45, .ref 47, .ref 49, .ref 53]
theorem fm_table {w : World} {h : Heap} (X : (Mine.hd.heap_39 w.params).In h) : h.IsTuple 54 fmRefs.toArray := ⟨_, X 54 _ rfl, rfl, _, rfl⟩
theorem fm_ent {w : World} {h : Heap} (X : (Mine.hd.heap_39 w.params).In h) (e : Addr) (b : Int) (tb : Tok) (c : Str) (tc : Tok) (o : Obj) (ho : (Mine.hd.heap_39 w.params).lookup e = some o) (h1 : o.cls = .type "tuple") (h2 : o.data = .seq #[.int b tb, .str c tc] 0) : Ent h (.ref e) (b, c) := ⟨e, tb, tc, rfl, _, X e _ ho, h1, _, h2⟩
theorem fm_tbl1 {w : World} {h : Heap} (X : (Mine.hd.heap_39 w.params).In h) (T e0 : Addr) (o : Obj) (p : Int × Str) (ho : (Mine.hd.heap_39 w.params).lookup T = some o) (h1 : o.cls = .type "tuple") (h2 : o.data = .seq #[.ref e0] 0) (he : Ent h (.ref e0) p) : Tbl h (.ref T) [p] := by
  refine ⟨T, [.ref e0], rfl, ⟨_, X T _ ho, h1, _, h2⟩, rfl, ?_⟩
  intro j v q hv hq
  match j with
  | 0 => cases hv; cases hq; exact he
  | j + 1 => simp at hv
theorem fm_tbl3 {w : World} {h : Heap} (X : (Mine.hd.heap_39 w.params).In h) (T e0 e1 e2 : Addr) (o : Obj) (p q r : Int × Str) (ho : (Mine.hd.heap_39 w.params).lookup T = some o) (h1 : o.cls = .type "tuple") (h2 : o.data = .seq #[.ref e0, .ref e1, .ref e2] 0)
    (he0 : Ent h (.ref e0) p) (he1 : Ent h (.ref e1) q) (he2 : Ent h (.ref e2) r) : Tbl h (.ref T) [p, q, r] := by
  refine ⟨T, [.ref e0, .ref e1, .ref e2], rfl, ⟨_, X T _ ho, h1, _, h2⟩, rfl, ?_⟩
  intro j v q hv hq
  match j, hv, hq with
  | 0, hv, hq => cases hv; cases hq; exact he0
  | 1, hv, hq => cases hv; cases hq; exact he1
  | 2, hv, hq => cases hv; cases hq; exact he2
  | j + 3, hv, hq => simp at hv
theorem fm_tables {w : World} {h : Heap} (X : (Mine.hd.heap_39 w.params).In h) : ∀ (i : Nat) v t, fmRefs[i]? = some v → fmTabs[i]? = some t → Tbl h v t := by
  intro i v t hv ht
  have key : ∀ (T : Addr) (vs : List Value) (ents : List (Int × Str)), h.IsTuple T vs.toArray → vs.length = ents.length → (∀ (j : Nat) v p, vs[j]? = some v → ents[j]? = some p → Ent h v p) → Tbl h (.ref T) ents := fun T vs ents a b c => ⟨T, vs, rfl, a, b, c⟩
  match i, hv, ht with
  | 0, hv, ht =>
    cases hv; cases ht
    refine key 29 [.ref 22, .ref 23, .ref 24, .ref 25, .ref 26, .ref 27, .ref 28] _ ⟨_, X 29 _ rfl, rfl, _, rfl⟩ rfl ?_
    intro j v p hv hp
    match j, hv, hp with
    | 0, hv, hp => cases hv; cases hp; exact fm_ent X 22 _ _ _ _ _ rfl rfl rfl
    | 1, hv, hp => cases hv; cases hp; exact fm_ent X 23 _ _ _ _ _ rfl rfl rfl
    | 2, hv, hp => cases hv; cases hp; exact fm_ent X 24 _ _ _ _ _ rfl rfl rfl
    | 3, hv, hp => cases hv; cases hp; exact fm_ent X 25 _ _ _ _ _ rfl rfl rfl
    | 4, hv, hp => cases hv; cases hp; exact fm_ent X 26 _ _ _ _ _ rfl rfl rfl
    | 5, hv, hp => cases hv; cases hp; exact fm_ent X 27 _ _ _ _ _ rfl rfl rfl
    | 6, hv, hp => cases hv; cases hp; exact fm_ent X 28 _ _ _ _ _ rfl rfl rfl
    | j + 7, hv, hp => simp at hv
  | 1, hv, ht => cases hv; cases ht; exact fm_tbl1 X 31 30 _ _ rfl rfl rfl (fm_ent X 30 _ _ _ _ _ rfl rfl rfl)
  | 2, hv, ht => cases hv; cases ht; exact fm_tbl1 X 33 32 _ _ rfl rfl rfl (fm_ent X 32 _ _ _ _ _ rfl rfl rfl)
  | 3, hv, ht => cases hv; cases ht; exact fm_tbl3 X 37 34 35 36 _ _ _ _ rfl rfl rfl (fm_ent X 34 _ _ _ _ _ rfl rfl rfl) (fm_ent X 35 _ _ _ _ _ rfl rfl rfl) (fm_ent X 36 _ _ _ _ _ rfl rfl rfl)
  | 4, hv, ht => cases hv; cases ht; exact fm_tbl1 X 39 38 _ _ rfl rfl rfl (fm_ent X 38 _ _ _ _ _ rfl rfl rfl)
  | 5, hv, ht => cases hv; cases ht; exact fm_tbl1 X 41 40 _ _ rfl rfl rfl (fm_ent X 40 _ _ _ _ _ rfl rfl rfl)
  | 6, hv, ht => cases hv; cases ht; exact fm_tbl3 X 45 42 43 44 _ _ _ _ rfl rfl rfl (fm_ent X 42 _ _ _ _ _ rfl rfl rfl) (fm_ent X 43 _ _ _ _ _ rfl rfl rfl) (fm_ent X 44 _ _ _ _ _ rfl rfl rfl)
  | 7, hv, ht => cases hv; cases ht; exact fm_tbl1 X 47 46 _ _ rfl rfl rfl (fm_ent X 46 _ _ _ _ _ rfl rfl rfl)
  | 8, hv, ht => cases hv; cases ht; exact fm_tbl1 X 49 48 _ _ rfl rfl rfl (fm_ent X 48 _ _ _ _ _ rfl rfl rfl)
  | 9, hv, ht => cases hv; cases ht; exact fm_tbl3 X 53 50 51 52 _ _ _ _ rfl rfl rfl (fm_ent X 50 _ _ _ _ _ rfl rfl rfl) (fm_ent X 51 _ _ _ _ _ rfl rfl rfl) (fm_ent X 52 _ _ _ _ _ rfl rfl rfl)
  | i + 10, hv, ht => simp [fmRefs] at hv
end Mine
end
section
open PySem PySem.W PyProof.Rows PySem.Calls PySem.Spec
set_option maxHeartbeats 8000000
namespace Mine
theorem ifmt_pc (w : World) (mean : ExcName → Option Value) (mg mb : Str → Option Value) {x : Int} {t : Tok} : PC3 2 w mean mg mb 21 [.int x t] AnyH (IntP (Builtin.bitAnd x 61440)) := by
  w_top off
  k_with_none
  unfold PC3 PC
  k_fill
  intros
  rename_i hpre hret
  refine wpAny_call ?_
  k_dflt (refine' code_defG ?k1 ?k2 ?k3 News.nil ?k5 ?kA ?kF ?kK ?k6 ?k7 ?k8 ?k9 ?kB ?_ ?c2 ?c3 ?c4 ?c5; (case kA => exact rfl); (case kF => exact rfl); (case kK => assumption); (case k1 => k_asm); (case k2 => k_asm); (case k3 => k_asm); (case k5 => k_asm); (case k6 => k_is); (case k7 => k_is); (case k8 => ktr_room); (case k9 => exact BindsTo.of_eq rfl); (case c5 => decide); (case kB => exact locs rfl); (case c2 => exact rfl); (case c3 => exact rfl); (case c4 => exact rfl); k_whole; intro g' L' h' FG' F' N' B' X' T' G'; (try dsimp only); (try k_lift B'); (try k_fold))
  k_steps
  exact retI hret G' (by assumption) rfl
theorem genCrc_pc (w : World) (mean : ExcName → Option Value) (mg mb : Str → Option Value) {x : Int} {t : Tok} : PC3 2 w mean mg mb 68 [.int x t] AnyH (IntP (genCrc x)) := by
  w_top off
  k_with_none
  unfold PC3 PC
  k_fill
  intros
  rename_i hpre hret
  refine wpAny_call ?_
  k_dflt (refine' code_defG ?k1 ?k2 ?k3 News.nil ?k5 ?kA ?kF ?kK ?k6 ?k7 ?k8 ?k9 ?kB ?_ ?c2 ?c3 ?c4 ?c5; (case kA => exact rfl); (case kF => exact rfl); (case kK => assumption); (case k1 => k_asm); (case k2 => k_asm); (case k3 => k_asm); (case k5 => k_asm); (case k6 => k_is); (case k7 => k_is); (case k8 => ktr_room); (case k9 => exact BindsTo.of_eq rfl); (case c5 => decide); (case kB => exact locs rfl); (case c2 => exact rfl); (case c3 => exact rfl); (case c4 => exact rfl); k_whole; intro g' L' h' FG' F' N' B' X' T' G'; (try dsimp only); (try k_lift B'); (try k_fold))
  k_with "exec For Name Call cons nil" => kpr_for
  k_with "pyIter ref" => kpr_short
  k_steps
  exact retI hret G' (by assumption) rfl
end Mine
end
section
open PySem PySem.W PyProof.Rows PySem.Calls PySem.Spec
set_option maxHeartbeats 8000000
namespace Mine
local macro_rules | `(tactic| walk_at "call ref") => `(tactic| (k_here; (with_reducible show wpAny _ _ (call (Value.ref 21) _) _ _ _); k_dflt (refine' PC.use (ifmt_pc _ _ _ _) ?k1 ?k2 ?k3 ?k4 ?k5 ?kK ?kd ?ku ?kp ?_); (case k1 => k_asm); (case k2 => k_asm); (case k3 => k_asm); (case k4 => k_asm); (case k5 => k_asm); (case kK => first | exact rfl | assumption); (case kd => ktr_room); (case ku => ktr_units); (case kp => exact trivial); intro v9 h9 tk9 F9 N9 hk9 hp9; (obtain ⟨t9, e9⟩ := hp9; subst e9); clear hk9; (try dsimp only); (try k_fold)))
theorem filemode_pc (w : World) (mean : ExcName → Option Value) (mg mb : Str → Option Value) {x : Int} {t : Tok} : PC3 4 w mean mg mb 61 [.int x t] AnyH (StrP (fmStr x)) := by
  w_top off
  k_with_none
  unfold PC3 PC
  k_fill
  intros
  rename_i hpre hret
  refine wpAny_call ?_
  k_dflt (refine' code_defG ?k1 ?k2 ?k3 News.nil ?k5 ?kA ?kF ?kK ?k6 ?k7 ?k8 ?k9 ?kB ?_ ?c2 ?c3 ?c4 ?c5; (case kA => exact rfl); (case kF => exact rfl); (case kK => assumption); (case k1 => k_asm); (case k2 => k_asm); (case k3 => k_asm); (case k5 => k_asm); (case k6 => k_is); (case k7 => k_is); (case k8 => ktr_room); (case k9 => exact BindsTo.of_eq rfl); (case c5 => decide); (case kB => exact locs rfl); (case c2 => exact rfl); (case c3 => exact rfl); (case c4 => exact rfl); k_whole; intro g' L' h' FG' F' N' B' X' T' G'; (try dsimp only); (try k_lift B'); (try k_fold))
  k_with "exec For Tuple Call cons nil" => (with_unfolding_all refine wpAny_For ?_ (by intro _; rfl))
  k_with "exec For Tuple Name cons cons" => (with_unfolding_all refine wpAny_For ?_ (by intro _; rfl))
  k_steps
  rename Fr _ _ _ _ => F1
  rename News _ _ _ _ => N1
  obtain ⟨lp, rfl⟩ := news_head N1
  refine enumT_loop (items := fmRefs.toArray) (FmJ x t lp []) rfl (fm_table X') F1 N1 ?h0 ?turn ?done (by passes_own)
  case h0 => exact ⟨[], 0, by simp; exact StrsAre.nil, rfl, rfl, rfl⟩
  case turn =>
    intro i xv T ti m₁ news₁ h₁ tk₁ own hi hx hT ha ho hJ F₁ N₁
    obtain ⟨vs, n, hs, rfl, hp, hm⟩ := hJ
    have hi' : i < fmTabs.length := hi
    obtain ⟨ents, hents⟩ : ∃ e, fmTabs[i]? = some e := ⟨fmTabs[i], List.getElem?_eq_getElem hi'⟩
    obtain ⟨Tt, evs, rfl, hTt, hlen, hev⟩ := fm_tables X' i xv ents (by simpa using hx) hents
    have F2 := fr_know2 F₁ hp hm
    clear F₁ F1 N1
    k_steps
    rename Fr _ _ _ _ => F3
    rename News _ _ _ _ => N3
    have hoff : OwnOff ([] ++ own) [lp] := by
      intro p hp b hb
      rw [List.mem_singleton.mp hb]
      exact ho p hp lp (List.mem_cons_self ..)
    refine tupT_loop (FmK x t lp (W.listOf vs.toArray n) ([] ++ own) i ti ents) rfl hTt F3 N3 ?k0 ?kturn ?kdone (by passes_own)
    case k0 => exact ⟨rfl, rfl, rfl, rfl, rfl⟩
    case kturn =>
      intro j ev m₂ news₂ h₂ tk₂ own₂ hj hev' ha₂ ho₂ hJ₂ F₂ N₂
      obtain ⟨hpick, rfl, hp2, hm2, hi2⟩ := hJ₂
      have hj' : j < ents.length := by rw [← hlen]; simpa using hj
      obtain ⟨⟨b, c⟩, hbc⟩ : ∃ e, ents[j]? = some e := ⟨ents[j], List.getElem?_eq_getElem hj'⟩
      obtain ⟨e, tb, tc, rfl, hT2⟩ := hev j ev (b, c) (by simpa using hev') hbc
      have hT3 : IsTup h₂ e #[.int b tb, .str c tc] := hT2.at (fun o ho => F₂.keep _ _ ho)
      have F4 := fr_know3 F₂ hp2 hm2 hi2
      have hoff2 : OwnOff ([] ++ own ++ own₂) [lp] := by
        intro p hp b hb
        rcases List.mem_append.mp hp with h1 | h1
        · exact hoff p h1 b hb
        · rw [List.mem_singleton.mp hb]; exact ho₂ p h1 lp (List.mem_cons_self ..)
      clear F₂ F3 N3
      have hvl : vs.length ≤ 10 := by rw [hs.length, List.length_take]; rw [fmList_len]; exact Nat.min_le_right _ _
      rw [List.cons_append] at N₂
      generalize hown3 : [] ++ own ++ own₂ = own3 at N₂ hoff2
      k_steps
      · rename Builtin.bitAnd x 61440 = b => hq
        rename (i : Int) = 0 => hz
        have hc : fmPick i x ents = c := by rw [hpick, fmPick_at hbc, fmHit_zero hz, decide_eq_true hq]; rfl
        dsimp only [MPost]
        k_steps
        dsimp only [MPost]
        exact FmJ_next hs hents hc (by k_asm) rfl rfl (by k_asm) (by rw [← hown3]; intro p hp; exact List.mem_append.mpr (.inl hp))
      · rename Builtin.bitAnd x 61440 ≠ b => hq
        rename (i : Int) = 0 => hz
        dsimp only [MPost]
        exact FmK_next (by rw [hpick, fmPick_at hbc, fmHit_zero hz, decide_eq_false hq]; rfl) (by k_asm) rfl rfl rfl (by k_asm) (by rw [← hown3]; intro p hp; exact hp)
      · rename Builtin.bitAnd x b = b => hq
        rename (i : Int) ≠ 0 => hz
        have hc : fmPick i x ents = c := by rw [hpick, fmPick_at hbc, fmHit_pos hz, decide_eq_true hq]; rfl
        dsimp only [MPost]
        k_steps
        dsimp only [MPost]
        exact FmJ_next hs hents hc (by k_asm) rfl rfl (by k_asm) (by rw [← hown3]; intro p hp; exact List.mem_append.mpr (.inl hp))
      · rename Builtin.bitAnd x b ≠ b => hq
        rename (i : Int) ≠ 0 => hz
        dsimp only [MPost]
        exact FmK_next (by rw [hpick, fmPick_at hbc, fmHit_pos hz, decide_eq_false hq]; rfl) (by k_asm) rfl rfl rfl (by k_asm) (by rw [← hown3]; intro p hp; exact hp)
    case kdone =>
      intro m₂ news₂ h₂ tk₂ hJ₂ ha₂ F₂ N₂
      obtain ⟨hpick, rfl, hp2, hm2, hi2⟩ := hJ₂
      have F4 := fr_know3 F₂ hp2 hm2 hi2
      clear F₂ F3 N3
      have hvl : vs.length ≤ 10 := by rw [hs.length, List.length_take]; rw [fmList_len]; exact Nat.min_le_right _ _
      have hnil : ents.drop evs.toArray.size = [] := List.drop_eq_nil_of_le (by simp [hlen])
      rw [hnil] at hpick
      generalize hown3 : [] ++ own = own3 at N₂ hoff
      k_steps
      · rename (i : Int) = 0 => hz
        have hc : fmPick i x ents = Str.ofString "?" := by rw [hpick]; have : i = 0 := by omega
                                                           rw [this]; rfl
        dsimp only [MPost]
        exact FmJ_next hs hents hc (by k_asm) rfl rfl (by k_asm) (by rw [← hown3]; intro p hp; exact hp)
      · rename (i : Int) ≠ 0 => hz
        have hc : fmPick i x ents = Str.ofString "-" := by rw [hpick]; have : i ≠ 0 := by omega
                                                           simp only [fmPick, if_neg this]; rfl
        dsimp only [MPost]
        exact FmJ_next hs hents hc (by k_asm) rfl rfl (by k_asm) (by rw [← hown3]; intro p hp; exact hp)
  case done =>
    intro m₁ news₁ h₁ tk₁ hJ ha F₁ N₁
    obtain ⟨vs, n, hs, rfl, hp, hm⟩ := hJ
    have hs' : StrsAre vs (fmList x) := by
      have e : (fmList x).take fmRefs.toArray.size = fmList x := List.take_of_length_le (by rw [fmList_len]; decide)
      rw [e] at hs; exact hs
    have F2 := fr_know2 F₁ hp hm
    clear F₁ F1 N1 hs
    k_steps
    refine join_listC (News.isList (by k_asm) (.head _)) (by simpa using hs') (by decide) (fmList_sum x) ?_
    intro t' k'
    k_steps
    exact retS hret G' (by assumption) rfl
end Mine
end
section
open PySem PySem.W PyProof.Rows PySem.Calls PySem.Spec
set_option maxHeartbeats 8000000
namespace Mine
theorem back_pc (w : World) (mean : ExcName → Option Value) (mg mb : Str → Option Value) {x n : Int} {t u : Tok} (hn : 0 ≤ n) (hn2 : n < 1000) : PC3 2 w mean mg mb 80 [.int x t, .int n u] AnyH (IntP (back x n)) := by
  w_top off
  k_with_none
  unfold PC3 PC
  k_fill
  intros
  rename_i hpre hret
  refine wpAny_call ?_
  k_dflt (refine' code_defG ?k1 ?k2 ?k3 News.nil ?k5 ?kA ?kF ?kK ?k6 ?k7 ?k8 ?k9 ?kB ?_ ?c2 ?c3 ?c4 ?c5; (case kA => exact rfl); (case kF => exact rfl); (case kK => assumption); (case k1 => k_asm); (case k2 => k_asm); (case k3 => k_asm); (case k5 => k_asm); (case k6 => k_is); (case k7 => k_is); (case k8 => ktr_room); (case k9 => exact BindsTo.of_eq rfl); (case c5 => decide); (case kB => exact locs rfl); (case c2 => exact rfl); (case c3 => exact rfl); (case c4 => exact rfl); k_whole; intro g' L' h' FG' F' N' B' X' T' G'; (try dsimp only); (try k_lift B'); (try k_fold))
  k_with "exec For Name Call cons nil" => kpr_for
  k_with "pyIter ref" => kpr_short
  k_steps
  exact retI hret G' (by assumption) rfl
end Mine
end
section
open PySem PySem.W PyProof.Rows PySem.Calls PySem.Spec
set_option maxHeartbeats 8000000
namespace Mine
theorem signs_pc (w : World) (mean : ExcName → Option Value) (mg mb : Str → Option Value) {x : Int} {t : Tok} : PC3 2 w mean mg mb 87 [.int x t] AnyH (StrP (sgStr x)) := by
  w_top off
  k_with_none
  unfold PC3 PC
  k_fill
  intros
  rename_i hpre hret
  refine wpAny_call ?_
  k_dflt (refine' code_defG ?k1 ?k2 ?k3 News.nil ?k5 ?kA ?kF ?kK ?k6 ?k7 ?k8 ?k9 ?kB ?_ ?c2 ?c3 ?c4 ?c5; (case kA => exact rfl); (case kF => exact rfl); (case kK => assumption); (case k1 => k_asm); (case k2 => k_asm); (case k3 => k_asm); (case k5 => k_asm); (case k6 => k_is); (case k7 => k_is); (case k8 => ktr_room); (case k9 => exact BindsTo.of_eq rfl); (case c5 => decide); (case kB => exact locs rfl); (case c2 => exact rfl); (case c3 => exact rfl); (case c4 => exact rfl); k_whole; intro g' L' h' FG' F' N' B' X' T' G'; (try dsimp only); (try k_lift B'); (try k_fold))
  k_steps
  exact retS hret G' (by assumption) rfl
end Mine
end
section
open PySem PySem.W PyProof.Rows PySem.Calls PySem.Spec
set_option maxHeartbeats 8000000
namespace Mine
local macro_rules | `(tactic| walk_at "call ref") => `(tactic| (k_here; (with_reducible show wpAny _ _ (call (Value.ref 61) _) _ _ _); k_dflt (refine' PC.use (filemode_pc _ _ _ _) ?k1 ?k2 ?k3 ?k4 ?k5 ?kK ?kd ?ku ?kp ?_); (case k1 => k_asm); (case k2 => k_asm); (case k3 => k_asm); (case k4 => k_asm); (case k5 => k_asm); (case kK => first | exact rfl | assumption); (case kd => ktr_room); (case ku => ktr_units); (case kp => exact trivial); intro v9 h9 tk9 F9 N9 hk9 hp9; (obtain ⟨t9, e9⟩ := hp9; subst e9); clear hk9; (try dsimp only); (try k_fold)))
local macro_rules | `(tactic| walk_at "call ref") => `(tactic| (k_here; (with_reducible show wpAny _ _ (call (Value.ref 68) _) _ _ _); k_dflt (refine' PC.use (genCrc_pc _ _ _ _) ?k1 ?k2 ?k3 ?k4 ?k5 ?kK ?kd ?ku ?kp ?_); (case k1 => k_asm); (case k2 => k_asm); (case k3 => k_asm); (case k4 => k_asm); (case k5 => k_asm); (case kK => first | exact rfl | assumption); (case kd => ktr_room); (case ku => ktr_units); (case kp => exact trivial); intro v9 h9 tk9 F9 N9 hk9 hp9; (obtain ⟨t9, e9⟩ := hp9; subst e9); clear hk9; (try dsimp only); (try k_fold)))
theorem sum_pc (w : World) (mean : ExcName → Option Value) (mg mb : Str → Option Value) {l : Addr} {a b c : Int} {ta tb tc : Tok} : PC3 6 w mean mg mb 73 [.ref l] (fun h => h.IsList l #[.int a ta, .int b tb, .int c tc]) (IntP (sumOf a b c)) := by
  w_top off
  k_with_none
  unfold PC3 PC
  k_fill
  intros
  rename_i hpre hret
  refine wpAny_call ?_
  k_dflt (refine' code_defG ?k1 ?k2 ?k3 News.nil ?k5 ?kA ?kF ?kK ?k6 ?k7 ?k8 ?k9 ?kB ?_ ?c2 ?c3 ?c4 ?c5; (case kA => exact rfl); (case kF => exact rfl); (case kK => assumption); (case k1 => k_asm); (case k2 => k_asm); (case k3 => k_asm); (case k5 => k_asm); (case k6 => k_is); (case k7 => k_is); (case k8 => ktr_room); (case k9 => exact BindsTo.of_eq rfl); (case c5 => decide); (case kB => exact locs rfl); (case c2 => exact rfl); (case c3 => exact rfl); (case c4 => exact rfl); k_whole; intro g' L' h' FG' F' N' B' X' T' G'; (try dsimp only); (try k_lift B'); (try k_fold))
  have hl : g'.IsList l #[.int a ta, .int b tb, .int c tc] := hpre.at fun o e => G' l o e (by simp)
  k_with "state" => first | rfl | exact regStep_next (by assumption) rfl
  k_with "pyIter str" => k_state (fun pre r => r = pre.foldl regStep (2 ^ Int.toNat 32 - 1)) "register"
  k_steps
  refine join_listC (News.isList (by k_asm) (.head _)) (StrsAre.cons _ _ (.cons _ _ (.cons _ _ .nil))) (by decide) (listing_room a b c) ?_
  intro t' k'
  k_steps
  rename _ = List.foldl regStep _ _ => he
  exact retI hret G' (by assumption) he
end Mine
end
section
open PySem PySem.W PyProof.Rows PySem.Calls PySem.Spec
set_option maxHeartbeats 8000000
namespace Mine
local macro_rules | `(tactic| walk_at "call ref") => `(tactic| (k_here; (with_reducible show wpAny _ _ (call (Value.ref 80) _) _ _ _); k_dflt (refine' PC.use (back_pc _ _ _ _ (by decide) (by decide)) ?k1 ?k2 ?k3 ?k4 ?k5 ?kK ?kd ?ku ?kp ?_); (case k1 => k_asm); (case k2 => k_asm); (case k3 => k_asm); (case k4 => k_asm); (case k5 => k_asm); (case kK => first | exact rfl | assumption); (case kd => ktr_room); (case ku => ktr_units); (case kp => exact trivial); intro v9 h9 tk9 F9 N9 hk9 hp9; (obtain ⟨t9, e9⟩ := hp9; subst e9); clear hk9; (try dsimp only); (try k_fold)))
theorem start_pc (w : World) (mean : ExcName → Option Value) (mg mb : Str → Option Value) {r₀ : Int} {x : Str} {t u : Tok} (hx : x.length ≤ 1000) : PC3 4 w mean mg mb 94 [.int r₀ t, .str x u] AnyH (IntP (startOf r₀ x)) := by
  w_top off
  k_with_none
  unfold PC3 PC
  k_fill
  intros
  rename_i hpre hret
  refine wpAny_call ?_
  k_dflt (refine' code_defG ?k1 ?k2 ?k3 News.nil ?k5 ?kA ?kF ?kK ?k6 ?k7 ?k8 ?k9 ?kB ?_ ?c2 ?c3 ?c4 ?c5; (case kA => exact rfl); (case kF => exact rfl); (case kK => assumption); (case k1 => k_asm); (case k2 => k_asm); (case k3 => k_asm); (case k5 => k_asm); (case k6 => k_is); (case k7 => k_is); (case k8 => ktr_room); (case k9 => exact BindsTo.of_eq rfl); (case c5 => decide); (case kB => exact locs rfl); (case c2 => exact rfl); (case c3 => exact rfl); (case c4 => exact rfl); k_whole; intro g' L' h' FG' F' N' B' X' T' G'; (try dsimp only); (try k_lift B'); (try k_fold))
  k_with "exec For Name Subscript cons nil" => (with_unfolding_all refine wpAny_For ?_ (by intro _; rfl))
  k_steps
  rename Fr _ _ _ _ => F1
  rename News _ _ _ _ => N1
  refine strT_loop (IntJ (Str.ofString "register") [] fun i => ((KStt.codes (Txt.sliceBy x none none (-1, 0))).take i).foldl startStep r₀) rfl F1 N1 ⟨rfl, _, rfl⟩ ?turn ?done (by passes_own)
  case turn =>
    intro i c uc m₁ news₁ h₁ tk₁ own hi hc ha ho hJ F₁ N₁
    obtain ⟨rfl, tr, hr⟩ := hJ
    have F2 := fr_know F₁ hr
    clear F₁ F1 N1
    k_steps
    dsimp only [MPost]
    exact IntJ_next (by k_asm) (by k_asm) rfl (foldl_code hc).symm (List.forall_mem_nil _) (fun p hp => hp)
  case done =>
    intro m₁ news₁ h₁ tk₁ hJ ha F₁ N₁
    obtain ⟨rfl, tr, hr⟩ := hJ
    have F2 := fr_know F₁ hr
    clear F₁ F1 N1
    k_steps
    exact retI hret G' (by assumption) foldl_codes
end Mine
end
section
open PySem PySem.W PyProof.Rows PySem.Calls PySem.Spec
set_option maxHeartbeats 8000000
namespace Mine
local macro_rules | `(tactic| walk_at "CompSrc") => `(tactic| (k_here; k_dflt (refine LCg.CompSrc.range (by rfl) (by k_asm) (by k_asm) (by assumption) (by first | decide | rfl) (by first | rfl | decide) (by first | size_fits | exact Nat.le_of_ble_eq_true rfl) ?_; intro g'; lcg_lit)))
local macro_rules | `(tactic| walk_at "binaryOp Pow int int") => `(tactic| (k_here; (with_reducible refine pow_int_small ?kb1 ?kb2 ?kb3 ?_); (case kb1 => assumption); (case kb2 => assumption); (case kb3 => decide)))
theorem after_pc (w : World) (mean : ExcName → Option Value) (mg mb : Str → Option Value) {l : Addr} {a b c n r : Int} {ta tb tc tn tr : Tok} (hn : 0 ≤ n) (hn2 : n < 9) (hr : 0 ≤ r) (hr2 : r < 16) : PC3 2 w mean mg mb 104 [.ref l, .int n tn, .int r tr] (fun h => h.IsList l #[.int a ta, .int b tb, .int c tc]) (ObjP (L3 (afterAt n r 0 a) (afterAt n r 1 b) (afterAt n r 2 c))) := by
  have hlo : 0 ≤ 2 - n.fmod 3 := by have := fmod_hi n (n := 3) (by decide); omega
  have hhi : 2 - n.fmod 3 ≤ 1000000 := by have := fmod_lo n (n := 3) (by decide); omega
  w_top off
  k_with_none
  unfold PC3 PC
  k_fill
  intros
  rename_i hpre hret
  refine wpAny_call ?_
  k_dflt (refine' enterC ?k1 ?k2 ?k3 ?k5 ?kA ?kF ?kK ?k6 ?k7 ?k8 ?k9 ?kB ?kD ?_ ?c2 ?c3 ?c4; (case kA => exact rfl); (case kF => exact rfl); (case kK => assumption); (case k1 => k_asm); (case k2 => k_asm); (case k3 => k_asm); (case k5 => k_asm); (case k6 => k_is); (case k7 => k_is); (case k8 => ktr_room); (case k9 => exact BindsTo.of_eq rfl); (case kB => exact rfl); (case kD => decide +kernel); (case c2 => exact rfl); (case c3 => exact rfl); (case c4 => exact rfl); k_whole; intro g' L' h' tk' cells' FG' F' N' Y' B' X' T' G'; k_cells Y'; (try simp only [List.cons_append, List.nil_append] at N'); (try dsimp only); (try k_lift B'); (try k_fold))
  have hl : g'.IsList l #[.int a ta, .int b tb, .int c tc] := hpre.at fun o e => G' l o e (by simp)
  k_steps
  all_goals (refine retO hret G' (by assumption) (by assumption) (L3.of ?_ ?_ ?_))
  all_goals (unfold afterAt; first | (rw [if_pos (by omega)]; rfl) | (rw [if_neg (by omega)]; rfl))
end Mine
end
section
open PySem PySem.W PyProof.Rows PySem.Calls PySem.Spec
set_option maxHeartbeats 8000000
namespace Mine
local macro_rules | `(tactic| walk_at "eval Dict") => `(tactic| (k_here; k_dflt (refine' kdn_eval (knd := intKind _ _) ?F ?N ?b ?a ?l ?e ?n ?_; (case F => k_asm); (case N => first | k_asm | exact News.nil); (case b => exact Top.nolimit (by k_asm)); (case a => rfl); (case l => rfl); (case e => exact List.cons_ne_nil _ _); (case n => exact Nat.le_of_ble_eq_true rfl)); intro d' h' o' F' N' l1 lo' hd'; (try k_lt l1)))
local macro_rules | `(tactic| walk_at "subscriptTail") => `(tactic| (k_here; (with_reducible show wpAny _ _ (subscriptTail _ _ (Value.str _ _) (Value.int _ _)) _ _ _); (refine KXi.item (n := 4) (by assumption) (by omega) (by omega) (by decide) ?_); intro kxiE))
local macro_rules | `(tactic| walk_at "call builtin:ord") => `(tactic| (k_here; refine ord_of_one (by assumption) ?_))
theorem xor4' : ∀ i j : Fin 4, 0 ≤ Builtin.bitXor (0 + (i.1 : Int)) (0 + (j.1 : Int)) ∧ Builtin.bitXor (0 + (i.1 : Int)) (0 + (j.1 : Int)) < 4 := by decide
theorem xor4 (i j : Nat) (hi : i < 4) (hj : j < 4) : 0 ≤ Builtin.bitXor (0 + (i : Int)) (0 + (j : Int)) ∧ Builtin.bitXor (0 + (i : Int)) (0 + (j : Int)) < 4 := xor4' ⟨i, hi⟩ ⟨j, hj⟩
local macro_rules | `(tactic| walk_at "call builtin:dict.get") => `(tactic| (k_here; k_dflt (refine dget (News.get (by k_asm) (by k_mem)) (by assumption) (by assumption) ?_)))
def ToldP (x : Int) (th : Str) : Obj → Prop := fun o => ∃ k1 k2 k3 n, KvI k1 [(0, 0), (95, 4)] ∧ KvI k2 [(0, 0), (90, 2)] ∧ KvI k3 (tData th) ∧ o = W.listOf #[(valueAt k1 (x.fmod 256)).getD .none, (valueAt k2 ((x.fdiv 256).fmod 256)).getD .none, (valueAt k3 (x.fdiv 65536)).getD .none] n
theorem told_pc0 (w : World) (mean : ExcName → Option Value) (mg mb : Str → Option Value) {x : Int} {th : Str} {tx tt : Tok} (hth : th.length = 4) :
    PC3 2 w mean mg mb 99 [.int x tx, .str th tt] AnyH (ObjP (ToldP x th)) := by
  w_top off
  k_with_none
  unfold PC3 PC
  k_fill
  intros
  rename_i hpre hret
  refine wpAny_call ?_
  k_dflt (refine' enterC ?k1 ?k2 ?k3 ?k5 ?kA ?kF ?kK ?k6 ?k7 ?k8 ?k9 ?kB ?kD ?_ ?c2 ?c3 ?c4; (case kA => exact rfl); (case kF => exact rfl); (case kK => assumption); (case k1 => k_asm); (case k2 => k_asm); (case k3 => k_asm); (case k5 => k_asm); (case k6 => k_is); (case k7 => k_is); (case k8 => ktr_room); (case k9 => exact BindsTo.of_eq rfl); (case kB => exact rfl); (case kD => decide +kernel); (case c2 => exact rfl); (case c3 => exact rfl); (case c4 => exact rfl); k_whole; intro g' L' h' tk' cells' FG' F' N' Y' B' X' T' G'; k_cells Y'; (try simp only [List.cons_append, List.nil_append] at N'); (try dsimp only); (try k_lift B'); (try k_fold))
  k_with "exec Assign cons DictComp" => (with_unfolding_all refine Assign_open rfl rfl rfl (by decide) (by intro _; rfl) ?_)
  k_steps
  rename Fr _ _ _ _ => F1
  rename News _ _ _ _ => N1
  rename IsRange _ _ _ _ _ _ _ _ => R1
  refine rangeDict2 (a2 := 0) (n2 := 4) (n1 := 4) (IntD (tKey th) tVal 4 4) rfl F1 N1 (Top.nolimit T') R1 ?r1 ?r2 ?e1 ?e2 ?e3 ?e4 ?e5 ?e6 ?e7 ?e8 ⟨Nat.zero_le _, Nat.zero_le _, rfl, KvI.nil⟩ ?len ?next ?hs2 ?it2 ?turn ?fin
  case r1 => rfl
  case r2 => rfl
  case e1 => rfl
  case e2 => rfl
  case e3 => rfl
  case e4 => decide
  case e5 => rfl
  case e6 => rfl
  case e7 => rfl
  case e8 => decide
  case hs2 => intro _ _; rfl
  case len => rintro i j kvs ex ⟨h1, h2, _, h3⟩; rw [h3.length]; exact Nat.le_trans (dataAt_len _ _ _ _ _) (by have : sizeLine = 16777216 := sizeLine_eq; omega)
  case next => rintro i kvs ex hlt ⟨h1, h2, h3, h4⟩; exact ⟨hlt, Nat.zero_le _, h3, by rw [← dataAt_row]; exact h4⟩
  case it2 =>
    intro C oC m₁ h tk led Q₂ E₂ hoC F2 N2 hQ
    clear F1 N1 R1
    k_steps
    exact hQ _ _ _ _ _ _ _ (by assumption) rfl rfl (by assumption)
  case turn =>
    intro i j ti tj kvs ex h tk I oI I2 oI2 C oC D oD m₂ E₂ hi hj hJ hoC hmk hmn hoD F2 N2 off
    clear F1 N1 R1
    obtain ⟨hb0, hb1⟩ := xor4 i j hi hj
    obtain ⟨_, _, rfl, hkv⟩ := hJ
    k_steps
    exact EmitEnd.intro ((I, oI) :: ([] ++ _)) (by k_asm) (by k_asm) (fun p hp => hp) off ⟨[], rfl, ⟨Nat.le_of_lt hi, hj, rfl, by rw [dataAt_next _ _ hj]; exact hkv.stored _ _ _⟩, List.forall_mem_nil _⟩
  case fin =>
    intro D h tk oD kvs ex hJ F2 N2 hoD hsys hne
    clear F1 N1 R1
    obtain ⟨_, _, rfl, hkv⟩ := hJ
    k_with "getMethod ref" => (refine dgetM (News.get (by k_asm) (by k_mem)) (by assumption) ?_)
    k_steps
    refine retO hret G' (by assumption) (by assumption) ⟨_, _, kvs, _, ⟨[_, _], rfl, rfl⟩, ⟨[_, _], rfl, rfl⟩, hkv, rfl⟩
theorem told_pc (w : World) (mean : ExcName → Option Value) (mg mb : Str → Option Value) {x r v z : Int} {th : Str} {tx tt : Tok} (hth : th.length = 4) (hr : lookI [(0, 0), (95, 4)] (x.fmod 256) = some r) (hv : lookI [(0, 0), (90, 2)] ((x.fdiv 256).fmod 256) = some v) (hz : lookI (tData th) (x.fdiv 65536) = some z) :
    PC3 2 w mean mg mb 99 [.int x tx, .str th tt] AnyH (ObjP (L3 r v z)) := by
  refine PC.mono (told_pc0 w mean mg mb hth) ?_
  rintro q h1 h2 ⟨D, o, rfl, hn, ho, k1, k2, k3, n, hk1, hk2, hk3, rfl⟩
  obtain ⟨t1, e1⟩ := hk1.get hr
  obtain ⟨t2, e2⟩ := hk2.get hv
  obtain ⟨t3, e3⟩ := hk3.get hz
  exact ⟨D, _, rfl, hn, ho, t1, t2, t3, n, by rw [e1, e2, e3]⟩
end Mine
end
section
open PySem PySem.W PyProof.Rows PySem.Calls PySem.Spec
set_option maxHeartbeats 8000000
namespace Mine
local macro_rules | `(tactic| walk_at "call ref") => `(tactic| (k_here; (with_reducible show wpAny _ _ (call (Value.ref 87) _) _ _ _); k_dflt (refine' PC.use (signs_pc _ _ _ _) ?k1 ?k2 ?k3 ?k4 ?k5 ?kK ?kd ?ku ?kp ?_); (case k1 => k_asm); (case k2 => k_asm); (case k3 => k_asm); (case k4 => k_asm); (case k5 => k_asm); (case kK => first | exact rfl | assumption); (case kd => ktr_room); (case ku => ktr_units); (case kp => exact trivial); intro v9 h9 tk9 F9 N9 hk9 hp9; (obtain ⟨t9, e9⟩ := hp9; subst e9); clear hk9; (try dsimp only); (try k_fold)))
def L3J (_ : Nat) (m : Str → Option Value) (nx : List (Addr × Obj)) : Prop :=
  ∃ a b c ta tb tc n tl D, In32 a ∧ In32 b ∧ In32 c ∧ nx = [(D, W.listOf #[.int a ta, .int b tb, .int c tc] n)] ∧ m (Str.ofString "modes") = some (.ref D) ∧ m (Str.ofString "left") = some (.int (sumOf a b c) tl)
theorem law3 : Challenge.rw_mq0142_03.Holds := Mine.hd (by
  w_top off
  k_with_none
  k_go0; (all_goals try k_fold)
  (repeat' ((fail_if_success (with_reducible show wpAny _ _ (call (Value.ref 73) _) _ _ _)); (first | (k_unfold; (try dsimp only)) | (k_end; kc_close) | walk1 | (dsimp only; walk1) | (leave1; walk_say "STEP leave1"; (try dsimp only)) | fail "no step")))
  rename IntsAre _ (List.take 3 (_ ++ _)) => hI3
  obtain ⟨a, b, c, ta, tb, tc, rfl, ha, hb, hc⟩ := three hI3
  rename News _ _ _ _ => N1
  rename Fr _ _ _ _ => F1
  k_dflt (refine' PC.use (sum_pc (a := a) (b := b) (c := c) (ta := ta) (tb := tb) (tc := tc) _ _ _ _) ?k1 ?k2 ?k3 ?k4 ?k5 ?kK ?kd ?ku ?kp ?_)
  (case k1 => k_asm)
  (case k2 => k_asm)
  (case k3 => k_asm)
  (case k4 => exact news_sub N1 (b := [_]) (fun p hp => by rw [List.mem_singleton.mp hp]; exact .head _))
  (case k5 => k_asm)
  (case kK => exact rfl)
  (case kd => ktr_room)
  (case ku => ktr_units)
  (case kp => exact News.isList N1 (.head _))
  intro v9 h9 tk9 F9 N9 hk9 hp9
  obtain ⟨t9, rfl⟩ := hp9
  clear hk9 N1 F1
  dsimp only
  (repeat' ((fail_if_success (with_reducible show wpAny _ _ (call (Value.builtin "str.join") _) _ _ _)); (first | (k_unfold; (try dsimp only)) | (k_end; kc_close) | walk1 | (dsimp only; walk1) | (leave1; walk_say "STEP leave1"; (try dsimp only)) | fail "no step")))
  rename News _ _ _ _ => N2
  rename Fr _ _ _ _ => F2
  refine join_listC (News.isList N2 (.head _)) (StrsAre.cons _ _ (.cons _ _ (.cons _ _ .nil))) (by decide) (sg_room a b c) ?_
  intro t8 k8
  replace N2 := news_sub N2 (b := [_]) (fun p hp => by rw [List.mem_singleton.mp hp]; exact .tail _ (.head _))
  (repeat' ((fail_if_success (with_reducible show wpAny _ _ (call (Value.ref 94) _) _ _ _)); (first | (k_unfold; (try dsimp only)) | (k_end; kc_close) | walk1 | (dsimp only; walk1) | (leave1; walk_say "STEP leave1"; (try dsimp only)) | fail "no step")))
  k_dflt (refine' PC.use (start_pc _ _ _ _ (sg_join_len a b c)) ?q1 ?q2 ?q3 ?q4 ?q5 ?qK ?qd ?qu ?qp ?_)
  (case q1 => k_asm)
  (case q2 => k_asm)
  (case q3 => k_asm)
  (case q4 => k_asm)
  (case q5 => k_asm)
  (case qK => exact rfl)
  (case qd => ktr_room)
  (case qu => ktr_units)
  (case qp => exact trivial)
  intro v7 h7 tk7 F7 N7 hk7 hp7
  obtain ⟨t7, rfl⟩ := hp7
  rw [m_start ha hb hc]
  clear hk7 N2 F2
  dsimp only
  k_with "exec For Name BinOp cons nil" => (with_unfolding_all refine wpAny_For ?_ (by intro _; rfl))
  (repeat' ((fail_if_success (with_reducible show wpAny _ _ (pyIter _) _ _ _)); (first | (k_unfold; (try dsimp only)) | (k_end; kc_close) | walk1 | (dsimp only; walk1) | (leave1; walk_say "STEP leave1"; (try dsimp only)) | fail "no step")))
  rename News _ _ _ _ => N3
  rename Fr _ _ _ _ => F3
  rename IntsAre _ ([139] ++ _) => hI4
  rename _ ∧ _ ∧ _ => hlt3
  refine listF_loop L3J rfl F3 N3 (.head _) rfl rfl (news := [_]) (fun p hp => by rw [List.mem_singleton.mp hp]; exact .tail _ (.tail _ (.tail _ (.head _)))) (fun p hp => by rw [List.mem_singleton.mp hp]; exact Nat.ne_of_lt hlt3.2.2) ⟨a, b, c, ta, tb, tc, _, _, _, ha, hb, hc, rfl, rfl, rfl⟩ ?turn ?done (by passes_own)
  case done =>
    intro m₁ news₁ h₁ tk₁ hJ F₁ N₁
    clear F3 N3
    k_steps
  case turn =>
    intro i v m₁ news₁ h₁ tk₁ own hi hv hne hJ F₁ N₁
    clear ha hb hc
    obtain ⟨a, b, c, ta, tb, tc, n, tl, D, ha, hb, hc, rfl, hmo, hle⟩ := hJ
    obtain ⟨d, td, rfl⟩ := ints_at hI4 hv
    have F5 := fr_know2 F₁ hmo hle
    rw [List.singleton_append] at N₁
    clear F₁ F3 N3
    (repeat' ((fail_if_success (with_reducible show wpAny _ _ (call (Value.ref 104) _) _ _ _)); (first | (k_unfold; (try dsimp only)) | (k_end; kc_close) | walk1 | (dsimp only; walk1) | (leave1; walk_say "STEP leave1"; (try dsimp only)) | fail "no step")))
    have hn := fmod_lo d (n := 9) (by decide)
    have hn2 := fmod_hi d (n := 9) (by decide)
    have hr := fmod_lo (d.fdiv 9) (n := 16) (by decide)
    have hr2 := fmod_hi (d.fdiv 9) (n := 16) (by decide)
    rename News _ _ _ _ => N6
    rename Fr _ _ _ _ => F6
    k_dflt (refine' PC.useO (after_pc (a := a) (b := b) (c := c) (ta := ta) (tb := tb) (tc := tc) _ _ _ _ hn hn2 hr hr2) ?a1 ?a2 ?a3 ?a4 ?a5 ?aK ?ad ?au ?ap ?_)
    (case a1 => k_asm)
    (case a2 => exact F6)
    (case a3 => k_asm)
    (case a4 => exact N6)
    (case a5 => k_asm)
    (case aK => exact rfl)
    (case ad => ktr_room)
    (case au => ktr_units)
    (case ap => exact News.isList N6 (.head _))
    intro D2 o2 h2 tk2 F7 N7 hne7 hP7
    obtain ⟨t1, t2, t3, n3, rfl⟩ := hP7
    have hown : ∀ p ∈ own, p.1 ≠ D2 := fun p hp => hne7 p (.tail _ hp)
    clear N6 F6 F5 N₁
    replace N7 := news_sub N7 (b := (D2, _) :: own) (fun p hp => by rcases List.mem_cons.mp hp with rfl | hp; exact .head _; exact .tail _ (.tail _ hp))
    clear hne7 hne
    dsimp only
    (repeat' ((fail_if_success (with_reducible show wpAny _ _ (call (Value.ref 73) _) _ _ _)); (first | (k_unfold; (try dsimp only)) | (k_end; kc_close) | walk1 | (dsimp only; walk1) | (leave1; walk_say "STEP leave1"; (try dsimp only)) | fail "no step")))
    rename News _ _ _ _ => N8
    rename Fr _ _ _ _ => F8
    k_dflt (refine' PC.use (sum_pc (a := afterAt (d.fmod 9) ((d.fdiv 9).fmod 16) 0 a) (b := afterAt (d.fmod 9) ((d.fdiv 9).fmod 16) 1 b) (c := afterAt (d.fmod 9) ((d.fdiv 9).fmod 16) 2 c) (ta := t1) (tb := t2) (tc := t3) _ _ _ _) ?b1 ?b2 ?b3 ?b4 ?b5 ?bK ?bd ?bu ?bp ?_)
    (case b1 => k_asm)
    (case b2 => exact F8)
    (case b3 => k_asm)
    (case b4 => exact N8)
    (case b5 => k_asm)
    (case bK => exact rfl)
    (case bd => ktr_room)
    (case bu => ktr_units)
    (case bp => exact News.isList N8 (.head _))
    intro v9 h9 tk9 F9 N9 hk9 hp9
    obtain ⟨t9, rfl⟩ := hp9
    clear hk9 N8 F8
    dsimp only
    (repeat' ((fail_if_success (with_reducible show wpAny _ _ (call (Value.ref 80) _) _ _ _)); (first | (k_unfold; (try dsimp only)) | (k_end; kc_close) | walk1 | (dsimp only; walk1) | (leave1; walk_say "STEP leave1"; (try dsimp only)) | fail "no step")))
    rename News _ _ _ _ => N10
    rename Fr _ _ _ _ => F10
    k_dflt (refine' PC.use (back_pc _ _ _ _ (turns_bound _ hn hn2).1 (turns_bound _ hn hn2).2) ?c1 ?c2 ?c3 ?c4 ?c5 ?cK ?cd ?cu ?cp ?_)
    (case c1 => k_asm)
    (case c2 => exact F10)
    (case c3 => k_asm)
    (case c4 => exact N10)
    (case c5 => k_asm)
    (case cK => exact rfl)
    (case cd => ktr_room)
    (case cu => ktr_units)
    (case cp => exact trivial)
    intro v11 h11 tk11 F11 N11 hk11 hp11
    obtain ⟨t11, e11⟩ := hp11
    have e12 : v11 = .int (chg a b c (d.fmod 9) ((d.fdiv 9).fmod 16)) t11 := e11
    clear e11
    subst e12
    clear hk11 N10 F10
    dsimp only
    (repeat' ((fail_if_success (with_reducible show wpAny _ _ (call (Value.ref 99) _) _ _ _)); (first | (k_unfold; (try dsimp only)) | (k_end; kc_close) | walk1 | (dsimp only; walk1) | (leave1; walk_say "STEP leave1"; (try dsimp only)) | fail "no step")))
    · rename Int.fmod (Int.fmod d 9) 3 = 2 => hq
      have e3 : thOf (d.fmod 9) = Str.ofString "-xTt" := if_pos hq
      k_dflt (refine' PC.useO (told_pc _ _ _ _ (by decide) (m_told1 ha hb hc hn hn2 hr hr2) (m_told2 ha hb hc hn hn2 hr hr2) (e3 ▸ m_told3 ha hb hc hn hn2 hr hr2)) ?d1 ?d2 ?d3 ?d4 ?d5 ?dK ?dd ?du ?dp ?_)
      (case d1 => k_asm)
      (case d2 => k_asm)
      (case d3 => k_asm)
      (case d4 => k_asm)
      (case d5 => k_asm)
      (case dK => exact rfl)
      (case dd => ktr_room)
      (case du => ktr_units)
      (case dp => exact trivial)
      intro D3 o3 h3 tk3 Fb Nb hneb hPb
      obtain ⟨u1, u2, u3, n4, rfl⟩ := hPb
      dsimp only
      k_steps
      rename News _ _ _ _ => Nz
      rename Fr _ _ _ _ => Fz
      dsimp only [FPost]
      exact ⟨_, _, _, _, [(D2, _)], rfl, Fz, Nz, (fun p hp => by rw [List.mem_singleton.mp hp]; exact .tail _ (.tail _ (.head _))), (fun p hp => .tail _ (.tail _ (.tail _ hp))), (fun p hp q hq => by rw [List.mem_singleton.mp hp]; exact (hown q hq).symm),
        ⟨_, _, _, t1, t2, t3, n3, t9, D2, after_in ha hn hn2 hr hr2, after_in hb hn hn2 hr hr2, after_in hc hn hn2 hr hr2, rfl, rfl, rfl⟩⟩
    · rename Int.fmod (Int.fmod d 9) 3 ≠ 2 => hq
      have e3 : thOf (d.fmod 9) = Str.ofString "-xSs" := if_neg hq
      k_dflt (refine' PC.useO (told_pc _ _ _ _ (by decide) (m_told1 ha hb hc hn hn2 hr hr2) (m_told2 ha hb hc hn hn2 hr hr2) (e3 ▸ m_told3 ha hb hc hn hn2 hr hr2)) ?d1 ?d2 ?d3 ?d4 ?d5 ?dK ?dd ?du ?dp ?_)
      (case d1 => k_asm)
      (case d2 => k_asm)
      (case d3 => k_asm)
      (case d4 => k_asm)
      (case d5 => k_asm)
      (case dK => exact rfl)
      (case dd => ktr_room)
      (case du => ktr_units)
      (case dp => exact trivial)
      intro D3 o3 h3 tk3 Fb Nb hneb hPb
      obtain ⟨u1, u2, u3, n4, rfl⟩ := hPb
      dsimp only
      k_steps
      rename News _ _ _ _ => Nz
      rename Fr _ _ _ _ => Fz
      dsimp only [FPost]
      exact ⟨_, _, _, _, [(D2, _)], rfl, Fz, Nz, (fun p hp => by rw [List.mem_singleton.mp hp]; exact .tail _ (.tail _ (.head _))), (fun p hp => .tail _ (.tail _ (.tail _ hp))), (fun p hp q hq => by rw [List.mem_singleton.mp hp]; exact (hown q hq).symm),
        ⟨_, _, _, t1, t2, t3, n3, t9, D2, after_in ha hn hn2 hr hr2, after_in hb hn hn2 hr hr2, after_in hc hn hn2 hr hr2, rfl, rfl, rfl⟩⟩
)
end Mine
end
theorem PySem.Challenge.cw_mq0142_03_holds : PySem.Challenge.rw_mq0142_03.Holds :=
  Mine.law3
