import PyProof.Rows.All
import Wide.All
import OpenK.AllK
import Wide.FinOn
import PySem.Challenge.RW_dz0107_01
open PySem PySem.W PyProof.Rows
set_option Elab.async false
section
open Sem (wp)
open AutoSeq1 (wpAny_loadPart')
set_option maxRecDepth 100000
namespace Mine
/- enumerate over a tuple: the next item, the end, the making -/
section
variable {prog : Program} {w : World} {A : Around} {E : Value → Shared → Prop} {s : Shared}

theorem nextOf_tup_item {it t : Addr} {i : Nat} {items : Array Value} {x : Value} {Q : Value → Shared → Prop} (hit : s.heap.IsTupleIter it t i)
    (ht : s.heap.IsTuple t items) (hx : items[i]? = some x)
    (hQ : ∀ h', h'.IsTupleIter it t (i + 1) → Heap.SameBut it s.heap h' → Q x { s with heap := h' }) :
    wpAny (model prog w) A (Builtin.SmallTypes.nextOf (.ref it)) Q E s := by
  obtain ⟨oi, hoi, hci, hdi⟩ := id hit
  obtain ⟨ot, hot, _, nt, hdt⟩ := ht
  unfold Builtin.SmallTypes.nextOf
  refine wpAny_bind (wpAny_callSpecial?_slot (name := Str.ofString "__next__") hit.typeIs F.slot_tuple_iterator_next
    (wpAny_call_entry F.slot_tuple_iterator_next hit.typeIs F.entry_tuple_iterator_next ?_ (F.args_tuple_iterator_next_1 _)))
  show wpAny _ _ (field (.ref it) 0 >>= _) _ _ s
  refine wpAny_bind (wpAny_field hoi hdi (x := .ref t) rfl ?_)
  show wpAny _ _ (if (Value.ref t == Value.none) = true then _ else _) _ _ s
  rw [if_neg (show ¬ ((Value.ref t == Value.none) = true) from Bool.false_ne_true)]
  show wpAny _ _ (field (.ref it) 1 >>= _) _ _ s
  refine wpAny_bind (wpAny_field hoi hdi (x := .int i 0) rfl ?_)
  show wpAny _ _ (seqItems? (.ref t) >>= _) _ _ s
  refine wpAny_bind (wpAny_seqItems hot hdt ?_)
  simp only [Int.toNat_natCast, hx]
  refine wpAny_bind (wpAny_setField hoi hdi (by simp) (wpAny_pure ⟨x, rfl, wpAny_pure (hQ _ ?_ (Heap.SameBut.update ..))⟩))
  exact ⟨_, Heap.get?_update_self _ hoi (Obj.isFreed_of_fields (Obj.data_mapFields hdi _)), (Obj.cls_mapFields ..).trans hci, by
    rw [Obj.data_mapFields hdi]; simp [rawInt]⟩

theorem nextOf_tup_end {it t : Addr} {i : Nat} {items : Array Value} {Q : Value → Shared → Prop} (hh : A.handled = none)
    (hit : s.heap.IsTupleIter it t i) (ht : s.heap.IsTuple t items) (hx : items[i]? = none)
    (hE : ∀ h' e, Heap.ExtBut it s.heap h' → (∃ o, h'.get? e = some o ∧ o.cls = .type "StopIteration") → E (.ref e) { s with heap := h' }) :
    wpAny (model prog w) A (Builtin.SmallTypes.nextOf (.ref it)) Q E s := by
  obtain ⟨oi, hoi, hci, hdi⟩ := id hit
  obtain ⟨ot, hot, _, nt, hdt⟩ := ht
  unfold Builtin.SmallTypes.nextOf
  refine wpAny_bind (wpAny_callSpecial?_slot (name := Str.ofString "__next__") hit.typeIs F.slot_tuple_iterator_next
    (wpAny_call_entry F.slot_tuple_iterator_next hit.typeIs F.entry_tuple_iterator_next ?_ (F.args_tuple_iterator_next_1 _)))
  show wpAny _ _ (field (.ref it) 0 >>= _) _ _ s
  refine wpAny_bind (wpAny_field hoi hdi (x := .ref t) rfl ?_)
  show wpAny _ _ (if (Value.ref t == Value.none) = true then _ else _) _ _ s
  rw [if_neg (show ¬ ((Value.ref t == Value.none) = true) from Bool.false_ne_true)]
  show wpAny _ _ (field (.ref it) 1 >>= _) _ _ s
  refine wpAny_bind (wpAny_field hoi hdi (x := .int i 0) rfl ?_)
  show wpAny _ _ (seqItems? (.ref t) >>= _) _ _ s
  refine wpAny_bind (wpAny_seqItems hot hdt ?_)
  simp only [Int.toNat_natCast, hx]
  refine wpAny_bind (wpAny_rule (wpAny_bind (wpAny_setField hoi hdi (by simp) ?_)))
  show wpAny _ _ (newExc (.type "StopIteration") [] >>= _) _ _ _
  refine wpAny_bind ?_
  simp only [newExc, newTuple]
  refine wpAny_bind (wpAny_newObj_type ?_ (by size_fits))
  refine wpAny_bind (m := firstArgMember _ _) (wpAny_of_eq (a := Value.none) (by first | rfl | (simp only [firstArgMember]; rfl)) ?_)
  refine wpAny_newObj_type ?_ (by size_fits)
  simp only [raiseNew]
  refine wpAny_bind (wpAny_handled ?_)
  first | rw [show A.in1.handled = none from hh] | rw [hh]
  refine wpAny_bind (wpAny_pure (wpAny_throw ?_))
  exact hE _ _ (((Heap.SameBut.update ..).extBut.push _).push _) ⟨_, Heap.get?_push_size _ rfl, rfl⟩
end

theorem draws_tup {prog : Program} {w : World} {A : Around} (hh : A.handled = none) (it l : Addr) (hne : l ≠ it) (items : Array Value) :
    Draws prog w A it [it, l] items.size (fun i x => items[i]? = some x) (fun i h => h.IsTupleIter it l i ∧ h.IsTuple l items) where
  live := fun _ _ st => by obtain ⟨⟨o, ho, _⟩, _⟩ := st; exact ⟨o, ho⟩
  frame := fun _ _ _ st hk => ⟨st.1.at fun o e => hk it (by simp) o e, st.2.at fun o e => hk l (by simp) o e⟩
  item := fun i s Q E hi st hQ => nextOf_tup_item st.1 st.2 (x := items[i]) (by simp [hi]) fun h' hit' hs' =>
    hQ _ h' s.toks (by simp [hi]) ⟨hit', st.2.extBut hs'.extBut hne⟩ hs'
  done := fun s Q E st hE => nextOf_tup_end hh st.1 st.2 (by simp) hE

theorem meets_enum_tup (l : Addr) (items : Array Value) (n : Nat) (dct : Option Addr) (sl : Array (Option Value)) :
    Meets (Builtin.«enumerate.__new__» ⟨[.type "enumerate", .ref l], []⟩) (fun _ R s => s.heap.get? l = some { cls := .type "tuple", dict := dct, data := .seq items n, slots := sl } ∧
      R (.ok (.ret (.ref (s.heap.push { cls := .type "tuple_iterator", data := .fields #[.ref l, .int 0 0] }).objs.size)))
        { s with heap := (s.heap.push { cls := .type "tuple_iterator", data := .fields #[.ref l, .int 0 0] }).push { cls := .type "enumerate", data := .fields #[.none, .bool false, .ref s.heap.objs.size, rawInt 0, .none, .none] } }) :=
  .of_wp fun prog w A R s h => by
    obtain ⟨hp, g, d, tk, os⟩ := s; obtain ⟨hl, h⟩ := h
    have hsub := sub_enumerate
    have hT : Heap.IsTuple (Shared.heap ⟨hp, g, d, tk, os⟩) l items := ⟨_, hl, rfl, n, rfl⟩
    wp_walk using wpAny_loadPart' hl
    refine wpAny_stack_any fun st => wpAny_pure ?_
    split
    · rename_i c _ _ _ _ _
      cases (c == Value.type "enumerate")
      · wp_walk using wpAny_loadPart' hl, wpAny_pyIter_tuple hT
        exact ⟨_, rfl, h⟩
      · wp_walk using wpAny_loadPart' hl, wpAny_pyIter_tuple hT
        exact ⟨_, rfl, h⟩
    · wp_walk using wpAny_loadPart' hl, wpAny_pyIter_tuple hT
      exact ⟨_, rfl, h⟩

section
variable {prog : Program} {w : World} {A : Around} {E : Value → Shared → Prop} {s : Shared}
theorem call_enum_tup {l : Addr} {items : Array Value} {Q : Value → Shared → Prop} (hL : s.heap.IsTuple l items)
    (h : ∀ h', IsEnum h' (s.heap.objs.size + 1) s.heap.objs.size 0 .none → h'.IsTupleIter s.heap.objs.size l 0 → h'.objs.size = s.heap.objs.size + 2 →
      (∀ b o, s.heap.get? b = some o → h'.get? b = some o) → Q (.ref (s.heap.objs.size + 1)) { s with heap := h' }) :
    wpAny (model prog w) A (call (.type "enumerate") [.ref l]) Q E s := by
  obtain ⟨⟨c, dct, dt, sl⟩, hl, hc, n, hd⟩ := hL
  replace hc : c = .type "tuple" := hc
  replace hd : dt = .seq items n := hd
  subst hc hd
  refine callType_new F.called_enumerate (by decide) (F.typeCall_enumerate_1 _) (F.newCall_enumerate_1 _) (fun obj => F.args_object_init_2 obj _) F.entry_enumerate_new
    (meets_enum_tup l items n dct sl) ⟨hl, ?_⟩
  have hz : (s.heap.push { cls := .type "tuple_iterator", data := .fields #[.ref l, .int 0 0] }).objs.size = s.heap.objs.size + 1 := Heap.size_push ..
  show _ ∧ _
  rw [hz]
  have he : IsEnum ((s.heap.push { cls := .type "tuple_iterator", data := .fields #[.ref l, .int 0 0] }).push
      { cls := .type "enumerate", data := .fields #[.none, .bool false, .ref s.heap.objs.size, rawInt 0, .none, .none] }) (s.heap.objs.size + 1) s.heap.objs.size 0 .none := by
    have := Heap.get?_push_size (s.heap.push { cls := .type "tuple_iterator", data := .fields #[.ref l, .int 0 0] })
      (o := { cls := .type "enumerate", data := .fields #[.none, .bool false, .ref s.heap.objs.size, rawInt 0, .none, .none] }) rfl
    rw [hz] at this; exact this
  refine ⟨⟨_, he, rfl⟩, h _ he ⟨_, Heap.get?_push_of_some _ (Heap.get?_push_size _ rfl), rfl, rfl⟩ (by rw [Heap.size_push, hz]) fun b o x => Heap.get?_push_of_some _ (Heap.get?_push_of_some _ x)⟩
end
end Mine
end
section
set_option maxRecDepth 100000
namespace Mine
section
variable {prog : Program} {w : World} {A : Around} {E : Value → Shared → Prop} {s : Shared} {env : Env} {h₀ : Heap}

def anyItem : ItemKind Value := ⟨fun a v => v = a, fun v => some v, fun _ _ h => by rw [h]⟩

/-- for i, x in enumerate(t): t a tuple that stood before the call -/
theorem enum_loop {ax : Addr} {vs : List Value} {m : Str → Option Value} {news : List (Addr × Obj)} {xi xc : Str} {body : List Stmt} {Q : Flow → Shared → Prop}
    (hh : A.handled = none) (ht : h₀.IsTuple ax vs.toArray) (F : Fr h₀ env.locals s.heap m) (N : News h₀ env.locals s.heap news)
    (J : Nat → (Str → Option Value) → List (Addr × Obj) → Prop) (h0 : J 0 m news)
    (step : ∀ (i : Nat) t v m₁ news₁ h tk own, vs[i]? = some v → J i m₁ news₁ → (∀ p ∈ own, ∀ q ∈ news, p.1 ≠ q.1) →
      Fr h₀ env.locals h (fun y => if y = xc then some v else if y = xi then some (.int i t) else m₁ y) → News h₀ env.locals h (own ++ news₁) →
      wpAny (model prog w) A (execs body env) (LoopStep3 h₀ env.locals own news₁ (J (i + 1)) { s with heap := h, toks := tk } (fun v s' => Q (.ret v) s') fun s' => Q .next s') E { s with heap := h, toks := tk })
    (done : ∀ h' tk m' news', Fr h₀ env.locals h' m' → News h₀ env.locals h' news' → J vs.length m' news' → Q .next { s with heap := h', toks := tk }) :
    wpAny (model prog w) A (call (.type "enumerate") [.ref ax]) (fun xv s₁ => wpAny (model prog w) A (pyIter xv) (fun it s₂ => PairAt3 prog w A h₀ env xi xc body Q E it s₂) E s₁) E s := by
  have hts : s.heap.IsTuple ax vs.toArray := ht.at fun o e => F.keep _ o e
  obtain ⟨ot, hot, _⟩ := id ht
  have hlt0 : ax < h₀.objs.size := Heap.lt_size hot
  have hlt : ax < s.heap.objs.size := Nat.lt_trans (Nat.lt_of_lt_of_le hlt0 F.above) F.ns.lt
  have hLs : env.locals < s.heap.objs.size := F.ns.lt
  refine call_enum_tup hts fun h' hE hI hsz hk => ?_
  have fresh : ∀ b, s.heap.objs.size ≤ b → h₀.get? b = none := fun b hb => ktu_new F hb
  have S : PairSrc prog w A E h₀ env anyItem vs (.ref (s.heap.objs.size + 1)) { s with heap := h' } m news := by
    refine enumSrc (n := vs.toArray.size) (draws_tup (A := A.in1) (by simpa using hh) s.heap.objs.size ax (Nat.ne_of_lt hlt) vs.toArray) hE ⟨hI, hts.at fun o e => hk _ o e⟩ (Nat.succ_ne_self _) ?_ (by simp) ?_ (fresh _ (Nat.le_add_right _ _)) (fresh _ (Nat.le_refl _)) ?_ (by simp) ?_ (F.keeps hk) (N.grown hk)
    · intro hm
      have hm' : s.heap.objs.size + 1 = s.heap.objs.size ∨ s.heap.objs.size + 1 = ax := by simpa using hm
      rcases hm' with e | e
      · exact Nat.succ_ne_self _ e
      · exact ktu_ne 1 hlt e.symm
    · intro hm
      have hm' : env.locals = s.heap.objs.size + 1 ∨ env.locals = s.heap.objs.size ∨ env.locals = ax := by simpa using hm
      rcases hm' with e | e | e
      · exact ktu_ne 1 hLs e
      · exact Nat.ne_of_lt hLs e
      · exact absurd (Nat.lt_of_lt_of_le hlt0 F.above) (e ▸ Nat.lt_irrefl _)
    · intro b hb q hq e
      have hb' : b = s.heap.objs.size + 1 ∨ b = s.heap.objs.size ∨ b = ax := by simpa using hb
      have hq1 := Heap.lt_size (N q hq).1
      rcases hb' with e1 | e1 | e1
      · exact ktu_ne 1 hq1 (e.symm.trans e1)
      · exact Nat.ne_of_lt hq1 (e.symm.trans e1)
      · have h3 := (N q hq).2.2
        rw [← e, e1, hot] at h3
        cases h3
    · intro i x hx
      exact ⟨x, by simpa using hx, rfl⟩
  refine S xi xc body Q J h0 (fun i a t v m₁ news₁ s₁ own hs₁ ha hv hJ hadr hoff F₁ N₁ => ?_) fun h'' tk m' news' F' N' _ hJ => done h'' tk m' news' F' N' hJ
  obtain ⟨hh₁, tk₁, rfl⟩ := hs₁
  have e : v = a := hv
  subst e
  exact step i t v m₁ news₁ hh₁ tk₁ own ha hJ hoff F₁ N₁

/-- where a for with an else stands -/
def ElseAt (prog : Program) (w : World) (A : Around) (env : Env) (target : PySem.Expr) (body orelse : List Stmt) (Q : Flow → Shared → Prop) (E : Value → Shared → Prop) (it : Value) (s₂ : Shared) : Prop :=
  codeAny (model prog w) A (.forLoop target it body orelse env) (fun r s' => match r with | .ok f => Q f s' | .error e => cameBackBy (model prog w) A env E e s') s₂

theorem for_else {target iter : PySem.Expr} {body orelse : List Stmt} {pos : Pos} {Q : Flow → Shared → Prop}
    (h : wpAny (model prog w) A (eval iter env) (fun xv s₁ => wpAny (model prog w) A (pyIter xv) (fun it s₂ => ElseAt prog w A env target body orelse Q E it s₂) E s₁) E s)
    (hs : ∀ x, foldedSetIterable iter env x = pure x := by intro _; rfl) :
    wpAny (model prog w) A (exec (.For target iter body orelse pos) env) Q E s := wpAny_For h hs

def ElsePost (h₀ : Heap) (L : Addr) (led : List (Addr × Obj)) (J : (Str → Option Value) → Prop) (s : Shared) (Q : Flow → Shared → Prop) (f : Flow) (s₂ : Shared) : Prop :=
  match f with
  | .ret v => Q (.ret v) s₂
  | .brk => Q .next s₂
  | _ => ∃ h' tk m', s₂ = { s with heap := h', toks := tk } ∧ Fr h₀ L h' m' ∧ News h₀ L h' led ∧ J m'

/-- a for with an else over a tuple that stood before the call; a turn that goes on changes names alone -/
theorem else_loop {target : PySem.Expr} {body orelse : List Stmt} {ax : Addr} {vs : List Value} {m : Str → Option Value} {news : List (Addr × Obj)} {Q : Flow → Shared → Prop}
    (hh : A.handled = none) (ht : h₀.IsTuple ax vs.toArray) (F : Fr h₀ env.locals s.heap m) (N : News h₀ env.locals s.heap news)
    (J : Nat → (Str → Option Value) → Prop) (h0 : J 0 m) (hE : PassesOwn (model prog w) A env E)
    (turn : ∀ (I : Addr) (o : Obj) (i : Nat) v m₁ h tk, (∀ p ∈ news, p.1 < I) → vs[i]? = some v → J i m₁ → Fr h₀ env.locals h m₁ → News h₀ env.locals h ((I, o) :: news) →
      wpAny (model prog w) A (assign target env v) (fun _ s₂ => wpAny (model prog w) A (execs body env) (ElsePost h₀ env.locals ((I, o) :: news) (J (i + 1)) s Q) E s₂) E { s with heap := h, toks := tk })
    (els : ∀ m₁ h tk, J vs.length m₁ → Fr h₀ env.locals h m₁ → News h₀ env.locals h news → wpAny (model prog w) A (execs orelse env) Q E { s with heap := h, toks := tk }) :
    wpAny (model prog w) A (pyIter (.ref ax)) (fun it s₂ => ElseAt prog w A env target body orelse Q E it s₂) E s := by
  have hts : s.heap.IsTuple ax vs.toArray := ht.at fun o e => F.keep _ o e
  obtain ⟨ot, hot, _⟩ := id ht
  have hlt0 : ax < h₀.objs.size := Heap.lt_size hot
  have hlt : ax < s.heap.objs.size := Nat.lt_trans (Nat.lt_of_lt_of_le hlt0 F.above) F.ns.lt
  have hne : ax ≠ s.heap.objs.size := Nat.ne_of_lt hlt
  have hLn : env.locals ≠ s.heap.objs.size := Nat.ne_of_lt F.ns.lt
  have hI0 : h₀.get? s.heap.objs.size = none := ktu_new F (Nat.le_refl _)
  have hnews : ∀ p ∈ news, p.1 < s.heap.objs.size := fun p hp => Heap.lt_size (N p hp).1
  refine wpAny_pyIter_tuple hts ?_
  unfold ElseAt
  have W := Walks.tuple (prog := prog) (w := w) hh s.heap.objs.size ax hne vs.toArray
  refine codeAny_forLoop_any
    (fun k s' => ∃ h' tk m' i, s' = { s with heap := h', toks := tk } ∧ (h'.IsTupleIter s.heap.objs.size ax i ∧ h'.IsTuple ax vs.toArray) ∧ Fr h₀ env.locals h' m' ∧ News h₀ env.locals h' news ∧ J i m' ∧ i ≤ vs.length ∧ k = vs.length + 1 - i) ?_ (vs.length + 1)
    ⟨_, s.toks, m, 0, rfl, ⟨⟨_, Heap.get?_push_size _ rfl, rfl, rfl⟩, hts.push _⟩, F.push _, fun p hp => ⟨Heap.get?_push_of_some _ (N p hp).1, (N p hp).2⟩, h0, Nat.zero_le _, rfl⟩
  rintro k s' ⟨h', tk, m', i, rfl, hst, F', N', hJ, hi, rfl⟩
  have up : ∀ h₁ : Heap, (∀ b o, b ∉ [s.heap.objs.size] → h'.get? b = some o → h₁.get? b = some o) → Fr h₀ env.locals h₁ m' ∧ News h₀ env.locals h₁ news := fun h₁ hk =>
    ⟨⟨F'.ns.at' fun o e => hk _ o (by simpa using hLn) e, fun b o e => hk b o (fun hb => by rw [List.mem_singleton.mp hb, hI0] at e; cases e) (F'.keep b o e), F'.above⟩,
      fun p hp => ⟨hk _ _ (fun hb => Nat.ne_of_lt (hnews p hp) (List.mem_singleton.mp hb)) (N' p hp).1, (N' p hp).2⟩⟩
  by_cases hlt' : i < vs.length
  · refine W.item i _ _ _ (by simpa using hlt') hst fun v h₁ tk₁ hv hst₁ hk₁ => ?_
    obtain ⟨F₁, N₁⟩ := up h₁ hk₁
    obtain ⟨oi, hoi, _⟩ := id hst₁.1
    have NI : News h₀ env.locals h₁ ((s.heap.objs.size, oi) :: news) := fun p hp => by
      rcases List.mem_cons.mp hp with rfl | hp
      · exact ⟨hoi, fun e => hLn e.symm, hI0⟩
      · exact N₁ p hp
    refine letGo_tupleiter hst₁.1 ?_
    refine wpAny_mono (turn _ oi i v m' h₁ tk₁ hnews (by simpa using hv) hJ F₁ NI) (fun _ s₂ h₂ => wpAny_passesOwn hE (wpAny_mono h₂ (fun f s₃ h₃ => ?_) fun _ _ e => e)) hE
    have fin : (∃ h' tk m', s₃ = { s with heap := h', toks := tk } ∧ Fr h₀ env.locals h' m' ∧ News h₀ env.locals h' ((s.heap.objs.size, oi) :: news) ∧ J (i + 1) m') →
        ∃ k', k' < vs.length + 1 - i ∧ ∃ h' tk m' i', s₃ = { s with heap := h', toks := tk } ∧ (h'.IsTupleIter s.heap.objs.size ax i' ∧ h'.IsTuple ax vs.toArray) ∧ Fr h₀ env.locals h' m' ∧ News h₀ env.locals h' news ∧ J i' m' ∧ i' ≤ vs.length ∧ k' = vs.length + 1 - i' := by
      rintro ⟨h₄, tk₄, m₄, rfl, F₄, N₄, hJ₄⟩
      refine ⟨vs.length + 1 - (i + 1), by omega, h₄, tk₄, m₄, i + 1, rfl, ⟨?_, ?_⟩, F₄, fun p hp => N₄ p (.tail _ hp), hJ₄, hlt', rfl⟩
      · exact hst₁.1.at fun o e => by
          have e2 := (N₄ _ (.head _)).1
          rw [hoi] at e
          exact (Option.some.inj e) ▸ e2
      · exact ht.at fun o e => F₄.keep _ o e
    cases f with
    | ret v => exact h₃
    | brk => exact h₃
    | next => exact fin h₃
    | cont => exact fin h₃
  · have hin : i = vs.length := by omega
    subst hin
    have hst' : h'.IsTupleIter s.heap.objs.size ax vs.toArray.size ∧ h'.IsTuple ax vs.toArray := by simpa using hst
    refine W.done _ _ _ hst' fun h₁ tk₁ hk₁ => ?_
    obtain ⟨F₁, N₁⟩ := up h₁ hk₁
    exact wpAny_passesOwn hE (els m' h₁ tk₁ hJ F₁ N₁)
end
end Mine
end
namespace Mine
set_option maxRecDepth 100000 in
set_option maxHeartbeats 8000000 in
open_top hd for PySem.Challenge.rw_dz0107_01
end Mine
namespace Mine
/- the table as data, and what filemode picks -/
def tabs : List (List (Int × Str)) :=
  [[(40960, Str.ofString "l"), (49152, Str.ofString "s"), (32768, Str.ofString "-"), (24576, Str.ofString "b"), (16384, Str.ofString "d"), (8192, Str.ofString "c"), (4096, Str.ofString "p")],
   [(256, Str.ofString "r")], [(128, Str.ofString "w")], [(2112, Str.ofString "s"), (2048, Str.ofString "S"), (64, Str.ofString "x")],
   [(32, Str.ofString "r")], [(16, Str.ofString "w")], [(1032, Str.ofString "s"), (1024, Str.ofString "S"), (8, Str.ofString "x")],
   [(4, Str.ofString "r")], [(2, Str.ofString "w")], [(513, Str.ofString "t"), (512, Str.ofString "T"), (1, Str.ofString "x")]]
def pick (z : Nat) (md : Int) : List (Int × Str) → Str
  | [] => if z = 0 then Str.ofString "?" else Str.ofString "-"
  | p :: r => if (if z = 0 then Builtin.bitAnd md 61440 = p.1 else Builtin.bitAnd md p.1 = p.1) then p.2 else pick z md r
def picks (md : Int) : Nat → List (List (Int × Str)) → List Str
  | _, [] => []
  | i, ps :: r => pick i md ps :: picks md (i + 1) r
def fm (md : Int) : Str := Txt.join (Str.ofString "") (picks md 0 tabs)

inductive AllIs {β : Type} (R : Value → β → Prop) : List Value → List β → Prop
  | nil : AllIs R [] []
  | cons {v : Value} {b : β} {vs : List Value} {bs : List β} : R v b → AllIs R vs bs → AllIs R (v :: vs) (b :: bs)
theorem AllIs.at {β : Type} {R : Value → β → Prop} {vs : List Value} {bs : List β} (h : AllIs R vs bs) : ∀ {i : Nat} {v : Value}, vs[i]? = some v → ∃ b, bs[i]? = some b ∧ R v b := by
  induction h with
  | nil => intro i v e; simp at e
  | cons hr _ ih =>
    intro i v e
    cases i with
    | zero => have e' := Option.some.inj (by simpa using e); exact ⟨_, rfl, e' ▸ hr⟩
    | succ j => simpa using ih (by simpa using e)
theorem AllIs.len {β : Type} {R : Value → β → Prop} {vs : List Value} {bs : List β} (h : AllIs R vs bs) : vs.length = bs.length := by
  induction h with
  | nil => rfl
  | cons _ _ ih => simp [ih]
def PairIs (h : Heap) (v : Value) (p : Int × Str) : Prop := ∃ r tb tc, v = .ref r ∧ h.IsTuple r #[.int p.1 tb, .str p.2 tc]
def TabIs (h : Heap) (v : Value) (ps : List (Int × Str)) : Prop := ∃ a vs, v = .ref a ∧ h.IsTuple a vs.toArray ∧ AllIs (PairIs h) vs ps

theorem tup_ground {K : Frag} {h : Heap} (X : K.In h) {a : Addr} {items : Array Value} (hk : K.lookup a = some { cls := .type "tuple", data := .seq items }) : h.IsTuple a items :=
  ⟨_, X _ _ hk, rfl, _, rfl⟩
theorem pair_ground {K : Frag} {h : Heap} (X : K.In h) {a : Addr} {b : Int} {c : Str} {tb tc : Tok} (hk : K.lookup a = some { cls := .type "tuple", data := .seq #[.int b tb, .str c tc] }) : PairIs h (.ref a) (b, c) :=
  ⟨a, tb, tc, rfl, tup_ground X hk⟩
theorem tab_ground {K : Frag} {h : Heap} (X : K.In h) {a : Addr} {vs : List Value} {ps : List (Int × Str)} (hk : K.lookup a = some { cls := .type "tuple", data := .seq vs.toArray }) (hp : AllIs (PairIs h) vs ps) : TabIs h (.ref a) ps :=
  ⟨a, vs, rfl, tup_ground X hk, hp⟩
def tabRefs : List Value := [.ref 106, .ref 108, .ref 110, .ref 114, .ref 116, .ref 118, .ref 122, .ref 124, .ref 126, .ref 130]
set_option maxRecDepth 100000 in
theorem tabs_ground {w : World} {h : Heap} (X : (hd.heap_39 w.params).In h) : h.IsTuple 131 tabRefs.toArray ∧ AllIs (TabIs h) tabRefs tabs := by
  refine ⟨tup_ground X rfl, ?_⟩
  unfold tabRefs tabs
  refine .cons (tab_ground X (vs := [.ref 99, .ref 100, .ref 101, .ref 102, .ref 103, .ref 104, .ref 105]) rfl ?_) <| .cons (tab_ground X (vs := [.ref 107]) rfl ?_) <| .cons (tab_ground X (vs := [.ref 109]) rfl ?_) <|
    .cons (tab_ground X (vs := [.ref 111, .ref 112, .ref 113]) rfl ?_) <| .cons (tab_ground X (vs := [.ref 115]) rfl ?_) <| .cons (tab_ground X (vs := [.ref 117]) rfl ?_) <|
    .cons (tab_ground X (vs := [.ref 119, .ref 120, .ref 121]) rfl ?_) <| .cons (tab_ground X (vs := [.ref 123]) rfl ?_) <| .cons (tab_ground X (vs := [.ref 125]) rfl ?_) <|
    .cons (tab_ground X (vs := [.ref 127, .ref 128, .ref 129]) rfl ?_) .nil
  all_goals (repeat' (first | exact AllIs.nil | (refine AllIs.cons ?_ ?_) | exact pair_ground X rfl))
end Mine
namespace Mine
/-- between the turns of filemode's loop -/
def OutJ (md : Int) (tm : Tok) (lp : Addr) (news : List (Addr × Obj)) (i : Nat) (m₁ : Str → Option Value) (led : List (Addr × Obj)) : Prop :=
  m₁ (Str.ofString "mode") = some (.int md tm) ∧ m₁ (Str.ofString "perm") = some (.ref lp) ∧ ∃ us n, led = (lp, W.listOf us.toArray n) :: news ∧ StrsAre us ((picks md 0 tabs).take i)
theorem fr_seen {h₀ : Heap} {L : Addr} {h : Heap} {m₁ m₂ : Str → Option Value} (F : Fr h₀ L h m₁) (e : ∀ y, m₂ y = m₁ y) : Fr h₀ L h m₂ := by
  rw [show m₂ = m₁ from funext e]; exact F
theorem fr_loc {h₀ h : Heap} {q : Str} {sc : Scope} {L a : Addr} {cd : Value} {m : Str → Option Value} (F : Fr h₀ (envOf q sc L a cd).locals h m) : Fr h₀ L h m := F
theorem news_loc {h₀ h : Heap} {q : Str} {sc : Scope} {L a : Addr} {cd : Value} {led : List (Addr × Obj)} (N : News h₀ (envOf q sc L a cd).locals h led) : News h₀ L h led := N
theorem picks_len (md : Int) : ∀ (ts : List (List (Int × Str))) (i : Nat), (picks md i ts).length = ts.length
  | [], _ => rfl
  | _ :: r, i => congrArg (· + 1) (picks_len md r (i + 1))
theorem pick_len {z : Nat} {md : Int} : ∀ {ps : List (Int × Str)}, (∀ p ∈ ps, p.2.length = 1) → (pick z md ps).length = 1
  | [], _ => by
    unfold pick
    split <;> decide
  | p :: r, h => by
    have h1 := h p (.head _)
    have h2 := pick_len (z := z) (md := md) (ps := r) fun q hq => h q (.tail _ hq)
    unfold pick
    by_cases hc : (if z = 0 then Builtin.bitAnd md 61440 = p.1 else Builtin.bitAnd md p.1 = p.1)
    · rw [if_pos hc]; exact h1
    · rw [if_neg hc]; exact h2
theorem picks_ones {md : Int} : ∀ {ts : List (List (Int × Str))} (k : Nat), (∀ ps ∈ ts, ∀ p ∈ ps, p.2.length = 1) → ∀ x ∈ picks md k ts, x.length = 1
  | [], _, _, x, hx => nomatch hx
  | ps :: r, k, h, x, hx => by
    rcases List.mem_cons.mp hx with rfl | hx
    · exact pick_len (h ps (.head _))
    · exact picks_ones (k + 1) (fun q hq => h q (.tail _ hq)) x hx
theorem tabs_ones : ∀ ps ∈ tabs, ∀ p ∈ ps, p.2.length = 1 := by decide +kernel
theorem sum_ones : ∀ {l : List Str}, (∀ x ∈ l, x.length = 1) → (l.map (·.length)).sum = l.length
  | [], _ => rfl
  | x :: r, h => by
    rw [List.map_cons, List.sum_cons, h x (.head _), sum_ones fun y hy => h y (.tail _ hy), List.length_cons]
    omega
theorem small_list {md : Int} {us : List Value} {i : Nat} (h : StrsAre us ((picks md 0 tabs).take i)) : us.toArray.size ≤ sizeLine := by
  have h1 := h.length
  rw [List.length_take, picks_len] at h1
  have h2 : tabs.length = 10 := rfl
  rw [List.size_toArray, sizeLine_eq]
  omega
theorem picks_get (md : Int) : ∀ (ts : List (List (Int × Str))) (k i : Nat) {ps : List (Int × Str)}, ts[i]? = some ps → (picks md k ts)[i]? = some (pick (k + i) md ps)
  | [], _, _, _, h => by simp at h
  | x :: r, k, 0, ps, h => by
    have e : x = ps := by simpa using h
    subst e; rfl
  | x :: r, k, i + 1, ps, h => by
    have q := picks_get md r (k + 1) i (ps := ps) (by simpa using h)
    have e : k + 1 + i = k + (i + 1) := by omega
    rw [e] at q
    simpa [picks] using q
theorem pick_at {z : Nat} {md : Int} {ps : List (Int × Str)} {j : Nat} {b : Int} {c : Str} (h : ps[j]? = some (b, c)) :
    pick z md (ps.drop j) = if (if z = 0 then Builtin.bitAnd md 61440 = b else Builtin.bitAnd md b = b) then c else pick z md (ps.drop (j + 1)) := by
  obtain ⟨hj, e⟩ := List.getElem?_eq_some_iff.mp h
  rw [List.drop_eq_getElem_cons hj, e]
  rfl
theorem else_brk {h₀ : Heap} {L : Addr} {led : List (Addr × Obj)} {J : (Str → Option Value) → Prop} {s s₂ : Shared} {Q : Flow → Shared → Prop} (h : Q .next s₂) : ElsePost h₀ L led J s Q .brk s₂ := h
theorem else_next {h₀ h' : Heap} {L : Addr} {led : List (Addr × Obj)} {m' : Str → Option Value} {J : (Str → Option Value) → Prop} {s : Shared} {tk : Nat} {Q : Flow → Shared → Prop} (F : Fr h₀ L h' m') (N : News h₀ L h' led) (hJ : J m') :
    ElsePost h₀ L led J s Q .next { s with heap := h', toks := tk } := ⟨h', tk, m', rfl, F, N, hJ⟩
theorem out_end {h₀ h' : Heap} {L lp : Addr} {m' : Str → Option Value} {own news led' : List (Addr × Obj)} {us : List Value} {n n' i tk : Nat} {md : Int} {t tc : Tok} {ps : List (Int × Str)} {c : Str} {s₁ : Shared} {Qr : Value → Shared → Prop} {Qb : Shared → Prop}
    (F : Fr h₀ L h' m') (N : News h₀ L h' led') (h1 : (lp, W.listOf (us.toArray.push (Value.str c tc)) n') ∈ led') (h2 : ∀ p ∈ own ++ news, p ∈ led')
    (hm1 : m' (Str.ofString "mode") = some (.int md t)) (hm2 : m' (Str.ofString "perm") = some (.ref lp)) (hus : StrsAre us ((picks md 0 tabs).take i)) (hps : tabs[i]? = some ps) (hc : c = pick i md ps) :
    LoopStep3 h₀ L own ((lp, W.listOf us.toArray n) :: news) (OutJ md t lp news (i + 1)) s₁ Qr Qb .next { s₁ with heap := h', toks := tk } := by
  refine ⟨rfl, h', tk, m', (lp, W.listOf (us ++ [Value.str c tc]).toArray n') :: news, rfl, F, ?_, rfl, hm1, hm2, us ++ [Value.str c tc], n', rfl, ?_⟩
  · intro p hp
    refine N p ?_
    rcases List.mem_append.mp hp with h | h
    · exact h2 p (List.mem_append_left _ h)
    · rcases List.mem_cons.mp h with rfl | h
      · simpa using h1
      · exact h2 p (List.mem_append_right _ h)
  · have q := picks_get md tabs 0 i hps
    rw [Nat.zero_add, ← hc] at q
    rw [List.take_add_one, q]
    exact hus.append' (StrsAre.cons _ _ StrsAre.nil)
set_option maxRecDepth 100000 in
set_option maxHeartbeats 8000000 in
theorem fm_claim (w : World) (mean : ExcName → Option Value) (mg mb : Str → Option Value) (news : List (Addr × Obj)) (md : Int) (t : Tok) :
    CbClaim Challenge.rw_dz0107_01.row.prog w (hd.heap_39 w.params) hd.view_39 (looseW hd.view_39 [Str.ofString "_filemode_table"]) mean mg mb 138 news [] True [.int md t] (fun t => .str (fm md) t) := by
  w_top off
  k_fill
  k_with_none
  k_with "call builtin:list.append" => (k_here; k_dflt (first | (refine' append_K ?k1 ?k2 (Upd.tail ?k3 (Upd.head ?k4)) ?_ ?z; (case k1 => k_asm); (case k2 => k_asm); (case k3 => exact hIl); (case k4 => exact hne)) | (refine' append_K ?k1 ?k2 (Upd.head ?k4) ?_ ?z; (case k1 => k_asm); (case k2 => k_asm); (case k4 => exact hne))); (case z => exact hsz); intro h' F' N'; (try k_sweep))
  dsimp only [CbClaim, CbLists, CbRet]
  intro dp un gd cn cs ad ccd cl outer A₀ base h₀ L m s Q E B₀ F₀ X₀ N₀ T₀ hk hpre hdp hun hret
  k_with "call ref" => (k_here; k_dflt (refine wpAny_call ?_; (refine' code_def ?k1 ?k2 ?k3 ?k4 ?k5 ?kA ?kF ?kK ?k6 ?k7 ?k8 ?k9 ?kB ?_ ?c2 ?c3 ?c4 ?c5; (case kA => exact rfl); (case kF => exact rfl); (case kK => exact rfl); (case k1 => k_asm); (case k2 => k_asm); (case k3 => k_asm); (case k4 => k_asm); (case k5 => k_asm); (case k6 => k_is); (case k7 => k_is); (case k8 => exact hdp); (case k9 => exact BindsTo.of_eq rfl); (case c5 => decide); (case kB => exact locs rfl); (case c2 => exact rfl); (case c3 => exact rfl); (case c4 => exact rfl); k_whole; intro g' L' h' FG' F' N' B' X' T'; (try dsimp only); (try k_lift B'); (try k_fold))))
  refine wpAny_call ?_
  k_dflt cell_enter
  k_steps
  rename Fr _ _ _ _ => F
  rename News _ _ _ _ => N
  rename Frag.In _ _ => X
  rename ∀ p ∈ news, _ => hlt
  rename_i lp _ _
  obtain ⟨ht, hall⟩ := tabs_ground X
  refine enum_loop rfl ht F N (OutJ md t lp news) ⟨rfl, rfl, [], 0, rfl, .nil⟩ ?_ ?_
  · intro i ti v m₁ led h tk own hv hJ hoff F₁ N₁
    obtain ⟨hm1, hm2, us, n, rfl, hus⟩ := hJ
    obtain ⟨ps, hps, ax, ws, rfl, hws, hpairs⟩ := hall.at hv
    have F₂ := fr_seen (m₂ := fun y => if y = Str.ofString "table" then some (.ref ax) else if y = Str.ofString "index" then some (.int i ti) else if y = Str.ofString "perm" then some (.ref lp) else if y = Str.ofString "mode" then some (.int md t) else m₁ y) F₁ (by
      intro y
      by_cases h1 : y = Str.ofString "perm"
      · subst h1; simp only [hm2]; rfl
      · by_cases h2 : y = Str.ofString "mode"
        · subst h2; simp only [hm1]; rfl
        · simp only [if_neg h1, if_neg h2])
    clear F₁ F N hv
    have N₂ : News _ _ h ((lp, W.listOf us.toArray n) :: (own ++ news)) := fun p hp => N₁ p (by simp only [List.mem_cons, List.mem_append] at hp ⊢; rcases hp with h | h | h <;> simp [h])
    have hne : ∀ p ∈ own ++ news, p.1 ≠ lp := fun p hp => by
      rcases List.mem_append.mp hp with h | h
      · exact hoff p h _ (.head _)
      · exact Nat.ne_of_lt (hlt p h)
    clear N₁
    replace F₂ := fr_loc F₂
    replace N₂ := news_loc N₂
    have hsz := small_list hus
    generalize hrest : own ++ news = rest at N₂ hne
    k_steps
    refine for_else ?_
    k_steps
    refine else_loop (vs := ws) rfl hws F₂ N₂ (fun j m₂ => (m₂ (Str.ofString "mode") = some (.int md t) ∧ m₂ (Str.ofString "perm") = some (.ref lp) ∧ m₂ (Str.ofString "index") = some (.int i ti)) ∧ pick i md ps = pick i md (ps.drop j)) ⟨⟨rfl, rfl, rfl⟩, rfl⟩ ?_ ?_ ?_
    · k_steps
    · intro I o j v m₂ h₂ tk₂ hI hv hJ F₃ N₃
      obtain ⟨⟨hn1, hn2, hn3⟩, hpk⟩ := hJ
      obtain ⟨⟨b, c⟩, hbc, r, tb, tc, rfl, hr⟩ := hpairs.at hv
      have F₄ := fr_seen (m₂ := fun y => if y = Str.ofString "index" then some (.int i ti) else if y = Str.ofString "perm" then some (.ref lp) else if y = Str.ofString "mode" then some (.int md t) else m₂ y) F₃ (by
        intro y
        by_cases h1 : y = Str.ofString "perm"
        · subst h1; simp only [hn2]; rfl
        · by_cases h2 : y = Str.ofString "mode"
          · subst h2; simp only [hn1]; rfl
          · by_cases h3 : y = Str.ofString "index"
            · subst h3; simp only [hn3]; rfl
            · simp only [if_neg h1, if_neg h2, if_neg h3])
      clear F₂ N₂ F₃
      replace F₄ := fr_loc F₄
      replace N₃ := news_loc N₃
      have hIl : I ≠ lp := Nat.ne_of_gt (hI _ (.head _))
      have hT : IsTup h₂ r #[.int b tb, .str c tc] := hr.at fun o e => F₄.keep _ o e
      have hpa := pick_at (z := i) (md := md) hbc
      k_steps
      all_goals (try (dsimp only; refine else_brk ?_; k_steps))
      all_goals (rename Fr _ _ _ _ => Fe; rename News _ _ _ _ => Ne)
      · rename ((i : Int) = 0) => hi0
        rename (Builtin.bitAnd md 61440 = b) => hc0
        refine out_end Fe Ne (.tail _ (.head _)) (fun p hp => .tail _ (.tail _ (hrest ▸ hp))) rfl rfl hus hps ?_
        rw [hpk, hpa, if_pos (by rw [if_pos (by omega)]; exact hc0)]
      · rename ((i : Int) = 0) => hi0
        rename (Builtin.bitAnd md 61440 ≠ b) => hc0
        refine else_next Fe Ne ⟨⟨rfl, rfl, rfl⟩, ?_⟩
        rw [hpk, hpa, if_neg (by rw [if_pos (by omega)]; exact hc0)]
      · rename ((i : Int) ≠ 0) => hi0
        rename (Builtin.bitAnd md b = b) => hc0
        refine out_end Fe Ne (.tail _ (.head _)) (fun p hp => .tail _ (.tail _ (hrest ▸ hp))) rfl rfl hus hps ?_
        rw [hpk, hpa, if_pos (by rw [if_neg (by omega)]; exact hc0)]
      · rename ((i : Int) ≠ 0) => hi0
        rename (Builtin.bitAnd md b ≠ b) => hc0
        refine else_next Fe Ne ⟨⟨rfl, rfl, rfl⟩, ?_⟩
        rw [hpk, hpa, if_neg (by rw [if_neg (by omega)]; exact hc0)]
    · intro m₂ h₂ tk₂ hJ F₃ N₃
      obtain ⟨⟨hn1, hn2, hn3⟩, hpk⟩ := hJ
      clear F₂ N₂
      have F₄ := fr_seen (m₂ := fun y => if y = Str.ofString "index" then some (.int i ti) else if y = Str.ofString "perm" then some (.ref lp) else if y = Str.ofString "mode" then some (.int md t) else m₂ y) F₃ (by
        intro y
        by_cases h1 : y = Str.ofString "perm"
        · subst h1; simp only [hn2]; rfl
        · by_cases h2 : y = Str.ofString "mode"
          · subst h2; simp only [hn1]; rfl
          · by_cases h3 : y = Str.ofString "index"
            · subst h3; simp only [hn3]; rfl
            · simp only [if_neg h1, if_neg h2, if_neg h3])
      clear F₃
      replace F₄ := fr_loc F₄
      replace N₃ := news_loc N₃
      have hdr : pick i md ps = if i = 0 then Str.ofString "?" else Str.ofString "-" := by
        rw [hpk, hpairs.len, List.drop_length]; rfl
      k_steps
      all_goals (rename Fr _ _ _ _ => Fe; rename News _ _ _ _ => Ne)
      · rename ((i : Int) = 0) => hi0
        refine out_end Fe Ne (.head _) (fun p hp => .tail _ (hrest ▸ hp)) rfl rfl hus hps ?_
        rw [hdr, if_pos (by omega)]
      · rename ((i : Int) ≠ 0) => hi0
        refine out_end Fe Ne (.head _) (fun p hp => .tail _ (hrest ▸ hp)) rfl rfl hus hps ?_
        rw [hdr, if_neg (by omega)]
  · intro h' tk m' led F' N' hJ
    obtain ⟨hm1, hm2, us, n, rfl, hus⟩ := hJ
    have F₂ := fr_seen (m₂ := fun y => if y = Str.ofString "perm" then some (.ref lp) else if y = Str.ofString "mode" then some (.int md t) else m' y) F' (by
      intro y
      by_cases h1 : y = Str.ofString "perm"
      · subst h1; simp only [hm2]; rfl
      · by_cases h2 : y = Str.ofString "mode"
        · subst h2; simp only [hm1]; rfl
        · simp only [if_neg h1, if_neg h2])
    clear F'
    replace F₂ := fr_loc F₂
    replace N' := news_loc N'
    k_steps
    have hall10 : List.take tabRefs.length (picks md 0 tabs) = picks md 0 tabs := List.take_of_length_le (by rw [picks_len]; decide)
    rw [hall10] at hus
    have hones := sum_ones (picks_ones (md := md) 0 tabs_ones)
    have h10 : (picks md 0 tabs).length = 10 := by rw [picks_len]; rfl
    refine join_list (items := us.toArray) (News.isList N' (.head _)) (by simpa using hus) (by rw [hones, h10]; decide) ?_
    intro tj kj
    k_steps
    rename Fr _ _ _ _ => Fe
    rename News _ _ _ _ => Ne
    exact hret tj h' kj Fe (fun p hp => Ne p (.tail _ hp))
end Mine
namespace Mine
theorem unr_end {h₀ h' : Heap} {L I : Addr} {o : Obj} {tail : List (Addr × Obj)} {m' : Str → Option Value} {s₁ : Shared} {tk : Nat} {rest : (Str → Option Value) → List (Addr × Obj) → Prop}
    (F : Fr h₀ L h' m') (N : News h₀ L h' ((I, o) :: tail)) (off : ∀ p ∈ tail, p.1 < I) (r : rest m' tail) : UnrEndW h₀ L s₁ [(I, o)] rest { s₁ with heap := h', toks := tk } :=
  ⟨h', tk, m', tail, rfl, F, N, fun p hp q hq e => Nat.ne_of_lt (off p hp) (by rw [e, List.mem_singleton.mp hq]), r⟩
/-- the three signs of one figure -/
def tri (md size special : Int) (last : Str) (x : Str) : Str :=
  x ++ Txt.item (Str.ofString "-r") (((md.fdiv size).fmod 8).fdiv 4) ++ Txt.item (Str.ofString "-w") ((((md.fdiv size).fmod 8).fdiv 2).fmod 2) ++ Txt.item last (2 * special + ((md.fdiv size).fmod 8).fmod 2)
def ls (md : Int) : Str :=
  tri md 1 (((md.fdiv 512).fmod 8).fmod 2) (Str.ofString "-xTt") (tri md 8 ((((md.fdiv 512).fmod 8).fdiv 2).fmod 2) (Str.ofString "-xSs") (tri md 64 (((md.fdiv 512).fmod 8).fdiv 4) (Str.ofString "-xSs") (Txt.item (Str.ofString "?pc?d?b?-?l?s???") ((md.fdiv 4096).fmod 16))))
set_option maxRecDepth 100000 in
set_option maxHeartbeats 8000000 in
theorem ls_claim (w : World) (mean : ExcName → Option Value) (mg mb : Str → Option Value) (news : List (Addr × Obj)) (md : Int) (t : Tok) :
    CbClaim Challenge.rw_dz0107_01.row.prog w (hd.heap_39 w.params) hd.view_39 (looseW hd.view_39 [Str.ofString "_filemode_table"]) mean mg mb 145 news [] True [.int md t] (fun t => .str (ls md) t) := by
  w_top off
  k_fill
  k_with_none
  k_with "table" => skip
  dsimp only [CbClaim, CbLists, CbRet]
  intro dp un gd cn cs ad ccd cl outer A₀ base h₀ L m s Q E B₀ F₀ X₀ N₀ T₀ hk hpre hdp hun hret
  refine wpAny_call ?_
  k_dflt cell_enter
  have q1 : 0 ≤ ((md.fdiv 512).fmod 8).fmod 2 := fmod_lo _ (by decide)
  have q2 : ((md.fdiv 512).fmod 8).fmod 2 < 2 := fmod_hi _ (by decide)
  have q3 : 0 ≤ ((md.fdiv 1).fmod 8).fmod 2 := fmod_lo _ (by decide)
  have q4 : ((md.fdiv 1).fmod 8).fmod 2 < 2 := fmod_hi _ (by decide)
  repeat' (first | (k_unfold; (try dsimp only)) | ((fail_if_success (with_reducible show wpAny _ _ (pyIter _) _ _ _)); first | walk1 | (dsimp only; walk1)))
  rename Fr _ _ _ _ => F
  rename News _ _ _ _ => N
  refine iter_listTurns rfl F N (.head _) rfl rfl ?_
  clear F N
  intro I hI
  k_with "UnrEndW" => (refine unr_end (by assumption) (by assumption) hI ⟨⟨.head _, trivial⟩, ?_⟩)
  k_steps
  rename Fr _ _ _ _ => Fe
  rename News _ _ _ _ => Ne
  exact hret _ _ _ Fe (fun p hp => Ne p (.tail _ (.tail _ (.tail _ (.tail _ hp)))))
end Mine
namespace Mine
theorem band_nat (n k : Nat) : Builtin.bitAnd (n : Int) (k : Int) = ((n &&& k : Nat) : Int) := by
  unfold Builtin.bitAnd
  rw [decide_eq_true (Int.natCast_nonneg n), decide_eq_true (Int.natCast_nonneg k)]
  simp only [Int.toNat_natCast]
theorem and_mul_pow (n k p : Nat) : n &&& (k * 2 ^ p) = ((n / 2 ^ p) &&& k) * 2 ^ p := by
  apply Nat.eq_of_testBit_eq
  intro i
  rw [Nat.testBit_and, Nat.testBit_mul_two_pow, Nat.testBit_mul_two_pow, Nat.testBit_and, Nat.testBit_div_two_pow]
  by_cases h : p ≤ i
  · simp [h]
  · simp [h]
theorem and_pow (n p : Nat) : n &&& 2 ^ p = (n / 2 ^ p % 2) * 2 ^ p := by
  have h := and_mul_pow n 1 p
  rw [Nat.one_mul, Nat.and_one_is_mod] at h
  exact h
theorem fd_nat (n k : Nat) : (n : Int).fdiv (k : Int) = ((n / k : Nat) : Int) := by
  rw [Int.fdiv_eq_ediv_of_nonneg _ (Int.natCast_nonneg k)]; rfl
theorem fm_nat (n k : Nat) : (n : Int).fmod (k : Int) = ((n % k : Nat) : Int) := by
  rw [Int.fmod_eq_emod_of_nonneg _ (Int.natCast_nonneg k)]; rfl
theorem bit_hit (n p b : Nat) (hb : b = 2 ^ p) : (Builtin.bitAnd (n : Int) (b : Int) = (b : Int)) ↔ n / b % 2 = 1 := by
  subst hb
  rw [band_nat, and_pow]
  have h0 : 0 < 2 ^ p := Nat.two_pow_pos p
  constructor
  · intro h
    have h1 : (n / 2 ^ p % 2) * 2 ^ p = 2 ^ p := Int.ofNat.inj h
    rcases Nat.mod_two_eq_zero_or_one (n / 2 ^ p) with e | e
    · rw [e, Nat.zero_mul] at h1; omega
    · exact e
  · intro h
    rw [h, Nat.one_mul]
theorem two_hit (n p q a b c : Nat) (ha : a = 2 ^ p) (hb : b = 2 ^ q) (hc : c = a ||| b) (h1 : (a ||| 0 : Nat) ≠ c) (h2 : (0 ||| b : Nat) ≠ c) (h3 : c ≠ 0) :
    (Builtin.bitAnd (n : Int) (c : Int) = (c : Int)) ↔ n / a % 2 = 1 ∧ n / b % 2 = 1 := by
  have e : n &&& c = ((n / a % 2) * a) ||| ((n / b % 2) * b) := by
    rw [hc, Nat.and_or_distrib_left, ha, hb, and_pow, and_pow]
  rw [band_nat, e]
  constructor
  · intro h
    have h' := Int.ofNat.inj h
    rcases Nat.mod_two_eq_zero_or_one (n / a) with ea | ea <;> rcases Nat.mod_two_eq_zero_or_one (n / b) with eb | eb <;> rw [ea, eb] at h' <;> simp only [Nat.zero_mul, Nat.one_mul] at h'
    · exact absurd h'.symm (by simpa using h3)
    · exact absurd h' h2
    · exact absurd h' h1
    · exact ⟨ea, eb⟩
  · rintro ⟨ea, eb⟩
    rw [ea, eb, Nat.one_mul, Nat.one_mul, ← hc]
theorem fmt_val (n : Nat) : Builtin.bitAnd (n : Int) 61440 = ((n / 4096 % 16 * 4096 : Nat) : Int) := by
  have h := band_nat n 61440
  rw [show (61440 : Nat) = 15 * 2 ^ 12 from rfl, and_mul_pow, show (15 : Nat) = 2 ^ 4 - 1 from rfl, Nat.and_two_pow_sub_one_eq_mod] at h
  exact h
theorem imode_val (n : Nat) : Builtin.bitAnd (n : Int) 4095 = ((n % 4096 : Nat) : Int) := by
  have h := band_nat n 4095
  rw [show (4095 : Nat) = 2 ^ 12 - 1 from rfl, Nat.and_two_pow_sub_one_eq_mod] at h
  exact h
end Mine
namespace Mine
theorem pick_hit {k : Nat} {md b : Int} {c : Str} {r : List (Int × Str)} (hk : k ≠ 0) (h : Builtin.bitAnd md b = b) : pick k md ((b, c) :: r) = c := by
  unfold pick; exact if_pos (by rw [if_neg hk]; exact h)
theorem pick_miss {k : Nat} {md b : Int} {c : Str} {r : List (Int × Str)} (hk : k ≠ 0) (h : ¬ Builtin.bitAnd md b = b) : pick k md ((b, c) :: r) = pick k md r := by
  rw [pick]; exact if_neg (by rw [if_neg hk]; exact h)
theorem pick_end {k : Nat} {md : Int} (hk : k ≠ 0) : pick k md [] = Str.ofString "-" := by
  unfold pick; exact if_neg hk
theorem one_sign (n k b : Nat) (p : Nat) (hk : k ≠ 0) (hb : b = 2 ^ p) (c s : Str) (x : Int) (hx : x = ((n / b % 2 : Nat) : Int)) (h0 : Txt.item s 0 = Str.ofString "-") (h1 : Txt.item s 1 = c) :
    pick k (n : Int) [((b : Int), c)] = Txt.item s x := by
  have t := bit_hit n p b hb
  rw [hx]
  rcases Nat.mod_two_eq_zero_or_one (n / b) with e | e
  · rw [pick_miss hk (fun h => by rw [t] at h; omega), pick_end hk, e]; exact h0.symm
  · rw [pick_hit hk (t.mpr e), e]; exact h1.symm
theorem three_signs (n k a b c p q : Nat) (hk : k ≠ 0) (ha : a = 2 ^ p) (hb : b = 2 ^ q) (hc : c = a ||| b) (h1 : (a ||| 0 : Nat) ≠ c) (h2 : (0 ||| b : Nat) ≠ c) (h3 : c ≠ 0) (s s1 s2 s3 : Str) (x y : Int)
    (hx : x = ((n / a % 2 : Nat) : Int)) (hy : y = ((n / b % 2 : Nat) : Int)) (i0 : Txt.item s 0 = Str.ofString "-") (i1 : Txt.item s 1 = s1) (i2 : Txt.item s 2 = s2) (i3 : Txt.item s 3 = s3) :
    pick k (n : Int) [((c : Int), s3), ((a : Int), s2), ((b : Int), s1)] = Txt.item s (2 * x + y) := by
  have t := two_hit n p q a b c ha hb hc h1 h2 h3
  have ta := bit_hit n p a ha
  have tb := bit_hit n q b hb
  rw [hx, hy]
  rcases Nat.mod_two_eq_zero_or_one (n / a) with ea | ea <;> rcases Nat.mod_two_eq_zero_or_one (n / b) with eb | eb <;> rw [ea, eb]
  · rw [pick_miss hk (fun h => by rw [t] at h; omega), pick_miss hk (fun h => by rw [ta] at h; omega), pick_miss hk (fun h => by rw [tb] at h; omega), pick_end hk]; exact i0.symm
  · rw [pick_miss hk (fun h => by rw [t] at h; omega), pick_miss hk (fun h => by rw [ta] at h; omega), pick_hit hk (tb.mpr eb)]; exact i1.symm
  · rw [pick_miss hk (fun h => by rw [t] at h; omega), pick_hit hk (ta.mpr ea)]; exact i2.symm
  · rw [pick_hit hk (t.mpr ⟨ea, eb⟩)]; exact i3.symm
def kinds : Str := Str.ofString "?pc?d?b?-?l?s???"
def pk (v : Nat) : Str :=
  if ((v * 4096 : Nat) : Int) = 40960 then Str.ofString "l" else if ((v * 4096 : Nat) : Int) = 49152 then Str.ofString "s" else if ((v * 4096 : Nat) : Int) = 32768 then Str.ofString "-" else
  if ((v * 4096 : Nat) : Int) = 24576 then Str.ofString "b" else if ((v * 4096 : Nat) : Int) = 16384 then Str.ofString "d" else if ((v * 4096 : Nat) : Int) = 8192 then Str.ofString "c" else
  if ((v * 4096 : Nat) : Int) = 4096 then Str.ofString "p" else Str.ofString "?"
theorem pk_item : ∀ v : Fin 16, pk v.val = Txt.item kinds (v.val : Int) := by decide +kernel
def tab0 : List (Int × Str) := [(40960, Str.ofString "l"), (49152, Str.ofString "s"), (32768, Str.ofString "-"), (24576, Str.ofString "b"), (16384, Str.ofString "d"), (8192, Str.ofString "c"), (4096, Str.ofString "p")]
theorem kind_pk (n : Nat) : pick 0 (n : Int) tab0 = pk (n / 4096 % 16) := by
  unfold tab0 pick pick pick pick pick pick pick pick pk
  rw [fmt_val]
  rfl
theorem kind_sign (n : Nat) : pick 0 (n : Int) tab0 = Txt.item kinds ((n / 4096 % 16 : Nat) : Int) := by
  rw [kind_pk]
  exact pk_item ⟨n / 4096 % 16, Nat.mod_lt _ (by decide)⟩
theorem join10 (a0 a1 a2 a3 a4 a5 a6 a7 a8 a9 : Str) : Txt.join (Str.ofString "") [a0, a1, a2, a3, a4, a5, a6, a7, a8, a9] = a0 ++ a1 ++ a2 ++ a3 ++ a4 ++ a5 ++ a6 ++ a7 ++ a8 ++ a9 := by
  show (⟨_⟩ : Str) = ⟨_⟩
  congr 1
theorem fm_ls (n : Nat) : fm (n : Int) = ls (n : Int) := by
  unfold fm
  show Txt.join (Str.ofString "") [pick 0 (n : Int) tab0, pick 1 (n : Int) [(((256 : Nat) : Int), Str.ofString "r")], pick 2 (n : Int) [(((128 : Nat) : Int), Str.ofString "w")],
    pick 3 (n : Int) [(((2112 : Nat) : Int), Str.ofString "s"), (((2048 : Nat) : Int), Str.ofString "S"), (((64 : Nat) : Int), Str.ofString "x")],
    pick 4 (n : Int) [(((32 : Nat) : Int), Str.ofString "r")], pick 5 (n : Int) [(((16 : Nat) : Int), Str.ofString "w")],
    pick 6 (n : Int) [(((1032 : Nat) : Int), Str.ofString "s"), (((1024 : Nat) : Int), Str.ofString "S"), (((8 : Nat) : Int), Str.ofString "x")],
    pick 7 (n : Int) [(((4 : Nat) : Int), Str.ofString "r")], pick 8 (n : Int) [(((2 : Nat) : Int), Str.ofString "w")],
    pick 9 (n : Int) [(((513 : Nat) : Int), Str.ofString "t"), (((512 : Nat) : Int), Str.ofString "T"), (((1 : Nat) : Int), Str.ofString "x")]] = _
  rw [join10, kind_sign]
  unfold ls tri
  have r0 : Txt.item (Str.ofString "-r") 0 = Str.ofString "-" := by decide +kernel
  have r1 : Txt.item (Str.ofString "-r") 1 = Str.ofString "r" := by decide +kernel
  have w0 : Txt.item (Str.ofString "-w") 0 = Str.ofString "-" := by decide +kernel
  have w1 : Txt.item (Str.ofString "-w") 1 = Str.ofString "w" := by decide +kernel
  have d4096 : (n : Int).fdiv 4096 = ((n / 4096 : Nat) : Int) := fd_nat n 4096
  have d512 : (n : Int).fdiv 512 = ((n / 512 : Nat) : Int) := fd_nat n 512
  have d64 : (n : Int).fdiv 64 = ((n / 64 : Nat) : Int) := fd_nat n 64
  have d8 : (n : Int).fdiv 8 = ((n / 8 : Nat) : Int) := fd_nat n 8
  have d1 : (n : Int).fdiv 1 = ((n / 1 : Nat) : Int) := fd_nat n 1
  have f16 (x : Nat) : (x : Int).fmod 16 = ((x % 16 : Nat) : Int) := fm_nat x 16
  have f8 (x : Nat) : (x : Int).fmod 8 = ((x % 8 : Nat) : Int) := fm_nat x 8
  have f2 (x : Nat) : (x : Int).fmod 2 = ((x % 2 : Nat) : Int) := fm_nat x 2
  have v4 (x : Nat) : (x : Int).fdiv 4 = ((x / 4 : Nat) : Int) := fd_nat x 4
  have v2 (x : Nat) : (x : Int).fdiv 2 = ((x / 2 : Nat) : Int) := fd_nat x 2
  rw [d4096, d512, d64, d8, d1, f16, f8, f8, f8, f8, v4, v4, v4, v4, v2, v2, v2, v2, f2, f2, f2, f2, f2, f2, f2, f2]
  rw [one_sign n 1 256 8 (by decide) rfl _ (Str.ofString "-r") ((n / 64 % 8 / 4 : Nat) : Int) (by congr 1; omega) r0 r1,
    one_sign n 2 128 7 (by decide) rfl _ (Str.ofString "-w") ((n / 64 % 8 / 2 % 2 : Nat) : Int) (by congr 1; omega) w0 w1,
    three_signs n 3 2048 64 2112 11 6 (by decide) rfl rfl rfl (by decide) (by decide) (by decide) (Str.ofString "-xSs") _ _ _ ((n / 512 % 8 / 4 : Nat) : Int) ((n / 64 % 8 % 2 : Nat) : Int) (by congr 1; omega) (by congr 1; omega) (by decide +kernel) (by decide +kernel) (by decide +kernel) (by decide +kernel),
    one_sign n 4 32 5 (by decide) rfl _ (Str.ofString "-r") ((n / 8 % 8 / 4 : Nat) : Int) (by congr 1; omega) r0 r1,
    one_sign n 5 16 4 (by decide) rfl _ (Str.ofString "-w") ((n / 8 % 8 / 2 % 2 : Nat) : Int) (by congr 1; omega) w0 w1,
    three_signs n 6 1024 8 1032 10 3 (by decide) rfl rfl rfl (by decide) (by decide) (by decide) (Str.ofString "-xSs") _ _ _ ((n / 512 % 8 / 2 % 2 : Nat) : Int) ((n / 8 % 8 % 2 : Nat) : Int) (by congr 1; omega) (by congr 1; omega) (by decide +kernel) (by decide +kernel) (by decide +kernel) (by decide +kernel),
    one_sign n 7 4 2 (by decide) rfl _ (Str.ofString "-r") ((n / 1 % 8 / 4 : Nat) : Int) (by congr 1; omega) r0 r1,
    one_sign n 8 2 1 (by decide) rfl _ (Str.ofString "-w") ((n / 1 % 8 / 2 % 2 : Nat) : Int) (by congr 1; omega) w0 w1,
    three_signs n 9 512 1 513 9 0 (by decide) rfl rfl rfl (by decide) (by decide) (by decide) (Str.ofString "-xTt") _ _ _ ((n / 512 % 8 % 2 : Nat) : Int) ((n / 1 % 8 % 2 : Nat) : Int) (by congr 1; omega) (by congr 1; omega) (by decide +kernel) (by decide +kernel) (by decide +kernel) (by decide +kernel)]
  rfl
end Mine
namespace Mine
theorem nat_of {md : Int} (h : 0 ≤ md) : ∃ n : Nat, md = (n : Int) := ⟨md.toNat, by omega⟩
theorem ls_fm {md : Int} (h : 0 ≤ md) : ls md = fm md := by
  obtain ⟨n, rfl⟩ := nat_of h
  exact (fm_ls n).symm
theorem fm_len (md : Int) : (fm md).length = 10 := by
  unfold fm
  rw [KT.join_ones _ (picks_ones 0 tabs_ones), picks_len]
  rfl
theorem pk_one : ∀ v : Fin 16, pk v.val = ⟨[(pk v.val).cps.getD 0 0].toArray⟩ := by decide +kernel
theorem fm_first (n : Nat) : Txt.item (fm (n : Int)) 0 = pk (n / 4096 % 16) := by
  have h1 := pk_one ⟨n / 4096 % 16, Nat.mod_lt _ (by decide)⟩
  have h2 : fm (n : Int) = Txt.join (Str.ofString "") [pick 0 (n : Int) tab0, pick 1 (n : Int) [(256, Str.ofString "r")], pick 2 (n : Int) [(128, Str.ofString "w")],
    pick 3 (n : Int) [(2112, Str.ofString "s"), (2048, Str.ofString "S"), (64, Str.ofString "x")],
    pick 4 (n : Int) [(32, Str.ofString "r")], pick 5 (n : Int) [(16, Str.ofString "w")],
    pick 6 (n : Int) [(1032, Str.ofString "s"), (1024, Str.ofString "S"), (8, Str.ofString "x")],
    pick 7 (n : Int) [(4, Str.ofString "r")], pick 8 (n : Int) [(2, Str.ofString "w")],
    pick 9 (n : Int) [(513, Str.ofString "t"), (512, Str.ofString "T"), (1, Str.ofString "x")]] := rfl
  rw [h2, join10, kind_pk]
  simp only [Str.append_assoc]
  have h1' : pk (n / 4096 % 16) = ⟨[(pk (n / 4096 % 16)).cps.getD 0 0].toArray⟩ := h1
  rw [h1']
  exact item_zero_left _ [] _
theorem kind_tab : ∀ v : Fin 16, ((((v.val * 4096 : Nat) : Int) = 4096 ↔ pk v.val = Str.ofString "p") ∧ (((v.val * 4096 : Nat) : Int) = 8192 ↔ pk v.val = Str.ofString "c") ∧ (((v.val * 4096 : Nat) : Int) = 16384 ↔ pk v.val = Str.ofString "d") ∧
    (((v.val * 4096 : Nat) : Int) = 24576 ↔ pk v.val = Str.ofString "b") ∧ (((v.val * 4096 : Nat) : Int) = 32768 ↔ pk v.val = Str.ofString "-") ∧ (((v.val * 4096 : Nat) : Int) = 40960 ↔ pk v.val = Str.ofString "l") ∧
    (((v.val * 4096 : Nat) : Int) = 49152 ↔ pk v.val = Str.ofString "s")) := by decide +kernel
theorem kind_iff {md : Int} (h : 0 ≤ md) : ((Builtin.bitAnd md 61440 = 4096 ↔ Txt.item (fm md) 0 = Str.ofString "p") ∧ (Builtin.bitAnd md 61440 = 8192 ↔ Txt.item (fm md) 0 = Str.ofString "c") ∧ (Builtin.bitAnd md 61440 = 16384 ↔ Txt.item (fm md) 0 = Str.ofString "d") ∧
    (Builtin.bitAnd md 61440 = 24576 ↔ Txt.item (fm md) 0 = Str.ofString "b") ∧ (Builtin.bitAnd md 61440 = 32768 ↔ Txt.item (fm md) 0 = Str.ofString "-") ∧ (Builtin.bitAnd md 61440 = 40960 ↔ Txt.item (fm md) 0 = Str.ofString "l") ∧
    (Builtin.bitAnd md 61440 = 49152 ↔ Txt.item (fm md) 0 = Str.ofString "s")) := by
  obtain ⟨n, rfl⟩ := nat_of h
  rw [fm_first, fmt_val]
  exact kind_tab ⟨n / 4096 % 16, Nat.mod_lt _ (by decide)⟩
theorem imode_eq {md : Int} (h : 0 ≤ md) : Builtin.bitAnd md 4095 = md.fmod 4096 := by
  obtain ⟨n, rfl⟩ := nat_of h
  rw [imode_val]
  exact (fm_nat n 4096).symm
theorem ifmt_eq {md : Int} (h : 0 ≤ md) : Builtin.bitAnd md 61440 = md.fmod 65536 - md.fmod 4096 := by
  obtain ⟨n, rfl⟩ := nat_of h
  have h1 : (n : Int).fmod 65536 = ((n % 65536 : Nat) : Int) := fm_nat n 65536
  have h2 : (n : Int).fmod 4096 = ((n % 4096 : Nat) : Int) := fm_nat n 4096
  rw [fmt_val, h1, h2]
  omega
end Mine
namespace Mine
/- the two contracts as rules -/
section
variable {w : World} {mean : ExcName → Option Value} {mg mb : Str → Option Value} {news : List (Addr × Obj)} {md : Int} {t : Tok} {dp un : Nat} {gd : Option (List Code)} {cn : Str} {cs : Scope} {a : Addr} {ccd : Value} {cl : List (Str × Addr)} {outer : List Env} {A₀ : Around} {base h₀ : Heap} {L : Addr} {m : Str → Option Value} {s : Shared} {Q E : Value → Shared → Prop}
theorem fm_use (B : Below A₀ base outer h₀) (F : Fr h₀ L s.heap m) (X : (hd.heap_39 w.params).In h₀) (N : News h₀ L s.heap news) (T : Top hd.view_39 (looseW hd.view_39 [Str.ofString "_filemode_table"]) mean mg mb h₀) (hk : cs.kind = .function)
    (hdp : dp + 1 < recursionLimit) (hun : un + 8 < cLine) (ret : ∀ (t : Tok) (h' : Heap) (tk' : Nat), Fr h₀ L h' m → News h₀ L h' news → Q (.str (fm md) t) { s with heap := h', toks := tk' }) :
    wpAny (model Challenge.rw_dz0107_01.row.prog w) (ktrTop dp un gd cn cs L a ccd cl outer) (call (.ref 138) [.int md t]) Q E s :=
  fm_claim w mean mg mb news md t dp un gd cn cs a ccd cl outer A₀ base h₀ L m s Q E B F X N T hk trivial hdp hun ret
theorem ls_use (hmd : 0 ≤ md) (B : Below A₀ base outer h₀) (F : Fr h₀ L s.heap m) (X : (hd.heap_39 w.params).In h₀) (N : News h₀ L s.heap news) (T : Top hd.view_39 (looseW hd.view_39 [Str.ofString "_filemode_table"]) mean mg mb h₀) (hk : cs.kind = .function)
    (hdp : dp + 1 < recursionLimit) (hun : un + 8 < cLine) (ret : ∀ (t : Tok) (h' : Heap) (tk' : Nat), Fr h₀ L h' m → News h₀ L h' news → Q (.str (fm md) t) { s with heap := h', toks := tk' }) :
    wpAny (model Challenge.rw_dz0107_01.row.prog w) (ktrTop dp un gd cn cs L a ccd cl outer) (call (.ref 145) [.int md t]) Q E s :=
  ls_claim w mean mg mb news md t dp un gd cn cs a ccd cl outer A₀ base h₀ L m s Q E B F X N T hk trivial hdp hun (by rw [ls_fm hmd]; exact ret)
end
theorem beq_of_iff {α β : Type} [BEq α] [LawfulBEq α] [BEq β] [LawfulBEq β] {a b : α} {c d : β} (h : a = b ↔ c = d) : (a == b) = (c == d) := by
  rw [Bool.eq_iff_iff, beq_iff_eq, beq_iff_eq]; exact h
theorem kind_eqs {md : Int} (h : 0 ≤ md) : ((Builtin.bitAnd md 61440 == 4096) = (Txt.item (fm md) 0 == Str.ofString "p")) ∧ ((Builtin.bitAnd md 61440 == 8192) = (Txt.item (fm md) 0 == Str.ofString "c")) ∧ ((Builtin.bitAnd md 61440 == 16384) = (Txt.item (fm md) 0 == Str.ofString "d")) ∧
    ((Builtin.bitAnd md 61440 == 24576) = (Txt.item (fm md) 0 == Str.ofString "b")) ∧ ((Builtin.bitAnd md 61440 == 32768) = (Txt.item (fm md) 0 == Str.ofString "-")) ∧ ((Builtin.bitAnd md 61440 == 40960) = (Txt.item (fm md) 0 == Str.ofString "l")) ∧
    ((Builtin.bitAnd md 61440 == 49152) = (Txt.item (fm md) 0 == Str.ofString "s")) := by
  obtain ⟨h1, h2, h3, h4, h5, h6, h7⟩ := kind_iff h
  exact ⟨beq_of_iff h1, beq_of_iff h2, beq_of_iff h3, beq_of_iff h4, beq_of_iff h5, beq_of_iff h6, beq_of_iff h7⟩
/- the law's loop -/
section
variable {prog : Program} {w : World} {A : Around} {E : Value → Shared → Prop} {s : Shared} {env : Env} {h₀ : Heap} {target : PySem.Expr} {body : List Stmt} {Q : Flow → Shared → Prop}
theorem law_items {I : Addr} {news keep : List (Addr × Obj)} (hlt : ∀ p ∈ news, p.1 < I) (hkeep : SubL keep news)
    (turn : ∀ (n : Int) (t : Tok) m₁ h tk o, o.cls = .type "list_iterator" → Fr h₀ env.locals h m₁ → News h₀ env.locals h ((I, o) :: news) →
      wpAny (model prog w) A (assign target env (.int n t)) (fun _ s₂ => wpAny (model prog w) A (execs body env) (ElsePost h₀ env.locals ((I, o) :: news) (fun _ => True) { s with heap := h, toks := tk } Q) E s₂) E { s with heap := h, toks := tk })
    (done : ∀ m₁ h tk, Fr h₀ env.locals h m₁ → News h₀ env.locals h news → Q .next { s with heap := h, toks := tk }) :
    ∀ {vs : List Value} {ns : List Int}, IntsAre vs ns → ∀ m₁, ItemsRest prog w A E h₀ env target body Q s [(I, "list_iterator")] keep (vs.map .val) m₁ news := by
  intro vs ns hi
  induction hi with
  | nil => exact fun m₁ => ItemsRest.zero fun h tk F N => done m₁ h tk F N
  | @cons n t us ns' hr ih =>
    intro m₁
    refine ItemsRest.val fun h tk F => AllObj.cons fun o hc => AllObj.nil fun N => ?_
    refine wpAny_mono (turn n t m₁ h tk o hc F N) (fun _ s₂ h₂ => wpAny_mono h₂ (fun f s₃ h₃ => ?_) fun _ _ e => e) fun _ _ e => e
    have fin : (∃ h' tk' m', s₃ = { s with heap := h', toks := tk' } ∧ Fr h₀ env.locals h' m' ∧ News h₀ env.locals h' ((I, o) :: news) ∧ True) →
        UnrEndW h₀ env.locals { s with heap := h, toks := tk } [(I, o)] (fun m' n' => SubL keep n' ∧ ItemsRest prog w A E h₀ env target body Q s [(I, "list_iterator")] keep (us.map .val) m' n') s₃ := by
      rintro ⟨h', tk', m', rfl, F', N', _⟩
      exact unr_end (s₁ := { s with heap := h, toks := tk }) F' N' hlt ⟨hkeep, ih m'⟩
    cases f with
    | ret v => exact h₃
    | brk => exact h₃
    | next => exact fin h₃
    | cont => exact fin h₃
end
set_option maxRecDepth 100000 in
set_option maxHeartbeats 8000000 in
theorem t1 : PySem.Challenge.rw_dz0107_01.Holds := hd (by
  k_with_none
  k_with "exec For Name BinOp cons nil" => (k_here; (rename Fr _ _ _ _ => lF'); (with_unfolding_all refine' For_turns lF' ?_; k_whole))
  k_go0
  all_goals try k_fold
  repeat' (first | (k_unfold; (try dsimp only)) | ((fail_if_success (with_reducible show wpAny _ _ (pyIter _) _ _ _)); first | walk1 | (dsimp only; walk1)))
  rename Fr _ _ _ _ => F
  rename News _ _ _ _ => N
  rename IntsAre _ (_ ++ _) => hInts
  refine iter_listTurns rfl F N (.head _) rfl rfl ?_
  clear F N
  intro I hI
  refine law_items hI ?hk ?_ ?_ hInts _
  case hk => exact ⟨.head _, trivial⟩
  · intro n t m₁ h tk o ho F₁ N₁
    replace F₁ := fr_loc F₁
    replace N₁ := news_loc N₁
    have hmd : 0 ≤ n.fmod 4294967296 := fmod_lo _ (by decide)
    have e1 := imode_eq hmd
    have e2 := ifmt_eq hmd
    have e3 := fm_len (n.fmod 4294967296)
    obtain ⟨k1, k2, k3, k4, k5, k6, k7⟩ := kind_eqs hmd
    k_with "exec For Tuple Call cons nil" => (k_here; (rename Fr _ _ _ _ => lF'); (with_unfolding_all refine' For_turns lF' ?_; k_whole))
    k_with "call ref" => (k_here; k_dflt (first | (refine' fm_use ?k1 ?k2 ?k3 ?k4 ?k5 ?kK ?kd ?ku ?_) | (refine' ls_use hmd ?k1 ?k2 ?k3 ?k4 ?k5 ?kK ?kd ?ku ?_)); (case k1 => k_asm); (case k2 => k_asm); (case k3 => k_asm); (case k4 => k_asm); (case k5 => k_asm); (case kK => exact rfl); (case kd => ktr_room); (case ku => ktr_units); intro t9 h9 tk9 F9 N9; (try dsimp only); (try k_fold))
    k_steps
    all_goals try (exfalso; rename ((_ != _) = true) => hx; simp only [k1, k2, k3, k4, k5, k6, k7, bne_self_eq_false] at hx; exact Bool.noConfusion hx)
    all_goals try (exfalso; first | exact absurd e1 (by assumption) | exact absurd e2 (by assumption))
    rename Fr _ _ _ _ => Fe
    rename News _ _ _ _ => Ne
    refine else_next Fe (fun p hp => Ne p ?_) trivial
    repeat (first | exact hp | refine List.Mem.tail _ ?_)
  · intro m₁ h tk F₁ N₁
    k_steps)
end Mine
theorem PySem.Challenge.cw_dz0107_01_holds : PySem.Challenge.rw_dz0107_01.Holds :=
  Mine.t1
