import PyProof.Rows.All
import Wide.All
import OpenK.AllK
import Wide.FinOn
import PySem.Challenge.RW_au0024_01
set_option Elab.async false
set_option rowWalk.seconds 0
set_option linter.all false

section
open PySem PySem.W PyProof.Rows
namespace Mine
set_option maxRecDepth 100000 in
set_option maxHeartbeats 8000000 in
open_top hd for PySem.Challenge.rw_au0024_01
end Mine
end

section
open PySem PySem.W PyProof.Rows PySem.Calls PySem.Spec
namespace Mine
set_option maxRecDepth 100000

/-- the ground of a call: the frames below, the caller's frame, the written part, the ledger, the top -/
structure Cx (w : World) (p : Program) (loose : List Str) (mean : ExcName → Option Value) (mg mb : Str → Option Value) (dp un : Nat) (cs : Scope) (outer : List Env) (A₀ : Around) (base h₀ : Heap) (L : Addr) (m : Str → Option Value) (h : Heap) (news : List (Addr × Obj)) : Prop where
  B : Below A₀ base outer h₀
  F : Fr h₀ L h m
  X : (Mine.hd.heap_39 w.params).In h₀
  N : News h₀ L h news
  T : Top p loose mean mg mb h₀
  hk : cs.kind = .function

abbrev stOb (b : Addr) (x y : Int) (tx ty : Tok) (n : Nat) : Obj := listOf [Value.ref b, .int x tx, .int y ty].toArray n
end Mine
end

section
open PySem PySem.W PyProof.Rows PySem.Calls PySem.Spec
namespace Mine
set_option maxRecDepth 100000

/-- a tuple or a list with these items -/
def SeqOb (o : Obj) (vs : List Value) : Prop := (o.cls = .type "tuple" ∨ o.cls = .type "list") ∧ ∃ n, o.data = .seq vs.toArray n
theorem SeqOb.tup {vs : List Value} {n : Nat} : SeqOb { cls := .type "tuple", data := .seq vs.toArray n } vs := ⟨.inl rfl, n, rfl⟩
theorem SeqOb.lst {vs : List Value} {n : Nat} : SeqOb (listOf vs.toArray n) vs := ⟨.inr rfl, n, rfl⟩

section
variable {prog : Program} {w : World} {A : Around} {E : Value → Shared → Prop} {s : Shared} {env : Env} {h₀ : Heap} {x : Str} {body : List Stmt} {Q : Flow → Shared → Prop}

/-- a for over one iterator object of its own and one sequence of the ledger -/
theorem seq_core {l : Addr} {o oI : Obj} {vs : List Value} {m₀ : Str → Option Value} {news : List (Addr × Obj)} {St : Nat → Heap → Prop} (J : Nat → (Str → Option Value) → List (Addr × Obj) → Prop)
    (W : Walks prog w A s.heap.objs.size [s.heap.objs.size, l] [s.heap.objs.size] vs.length (fun i v => vs[i]? = some v) St) (hob : ∀ i h, St i h → ∃ ob, h.get? s.heap.objs.size = some ob)
    (hl : (l, o) ∈ news) (F : Fr h₀ env.locals s.heap m₀) (N : News h₀ env.locals s.heap news) (hst : St 0 (s.heap.push oI)) (hj : J 0 m₀ news)
    (turn : ∀ i v m₁ nx own h tk, vs[i]? = some v → OwnOff own (nx.map (·.1)) → (l, o) ∈ nx → J i m₁ nx → Fr h₀ env.locals h (fun y => if y = x then some v else m₁ y) → News h₀ env.locals h (nx ++ own) →
      wpAny (model prog w) A (execs body env) (InvPostG h₀ env.locals (fun m' nx' => (l, o) ∈ nx' ∧ J (i + 1) m' nx') own { s with heap := h, toks := tk } Q) E { s with heap := h, toks := tk })
    (done : ∀ m₁ nx h tk, J vs.length m₁ nx → (l, o) ∈ nx → Fr h₀ env.locals h m₁ → News h₀ env.locals h nx → Q .next { s with heap := h, toks := tk }) :
    LoopAtV prog w A h₀ env x body Q E (.ref s.heap.objs.size) { s with heap := s.heap.push oI } := by
  have hol : s.heap.get? l = some o := (N _ hl).1
  refine ⟨_, _, _, vs.length, _, _, m₀, news, (fun i m nx => (l, o) ∈ nx ∧ J i m nx), rfl, W, ?_, ?_, ?_, hst, F.push _, (fun p hp => ⟨Heap.get?_push_of_some _ (N p hp).1, (N p hp).2⟩), ⟨hl, hj⟩, ?_, ?_⟩
  · intro hm
    rcases List.mem_cons.mp hm with e | hm
    · exact absurd F.ns.lt (e ▸ Nat.lt_irrefl _)
    · exact (N _ hl).2.1 ((List.mem_singleton.mp hm).symm)
  · intro b hb
    rw [List.mem_singleton.mp hb]
    exact next_is_new F
  · intro p hp hI
    exact absurd (Heap.lt_size (N p hp).1) ((List.mem_singleton.mp hI) ▸ Nat.lt_irrefl _)
  · rintro i v m₁ nx s₁ own ⟨hh', tk', rfl⟩ hin hP ⟨hl₁, hJ⟩ hoff hown hget hfp hst' F₁ N₁
    have hI0 : h₀.get? s.heap.objs.size = none := next_is_new F
    obtain ⟨oJ, hoJ⟩ := hob _ _ hst'
    let ow := own.filter fun p => decide (p.1 = s.heap.objs.size)
    have hmem : ∀ p, p ∈ ow ↔ p ∈ own ∧ p.1 = s.heap.objs.size := fun p => by simp [ow]
    have hIown : (s.heap.objs.size, oJ) ∈ ow := (hmem _).mpr ⟨hfp _ (List.mem_cons.mpr (.inl rfl)) hI0 _ hoJ, rfl⟩
    have hsep : OwnOff ow (nx.map (·.1)) := by
      intro p hp b hb e
      obtain ⟨q, hq, rfl⟩ := List.mem_map.mp hb
      exact hoff q hq (List.mem_singleton.mpr (e ▸ ((hmem p).mp hp).2))
    have N₂ : News h₀ env.locals hh' (nx ++ ow) := fun p hp => N₁ p ((List.mem_append.mp hp).elim (fun h => List.mem_append.mpr (.inr h)) fun h => List.mem_append.mpr (.inl ((hmem p).mp h).1))
    have hlo : hh'.get? l = some o := (N₁ _ (List.mem_append.mpr (.inr hl₁))).1
    refine wpAny_mono (turn i v m₁ nx ow hh' tk' hP hsep hl₁ hJ F₁ N₂) (fun f s₂ p => ?_) fun _ _ e => e
    have fin : InvEndG h₀ env.locals (fun m' nx' => (l, o) ∈ nx' ∧ J (i + 1) m' nx') ow { s with heap := hh', toks := tk' } s₂ →
        LoopStepU h₀ env.locals [s.heap.objs.size] own (fun m nx => (l, o) ∈ nx ∧ J (i + 1) m nx) { s with heap := hh', toks := tk' } .next s₂ := by
      rintro ⟨h', tk, m', news', nx', e, F', N', hn, ho, ha, hm⟩
      refine ⟨rfl, h', tk, m', nx', e, F', fun p hp => ?_, fun p hp hq => ?_, hm⟩
      · rcases List.mem_append.mp hp with h | h
        · by_cases hI : p.1 = s.heap.objs.size
          · exact N' p (ho p ((hmem p).mpr ⟨h, hI⟩))
          · have h1 : p.1 = l := by
              rcases List.mem_cons.mp (hown p h) with h2 | h2
              · exact absurd h2 hI
              · exact List.mem_singleton.mp h2
            have h2 : hh'.get? p.1 = some p.2 := hget p h
            rw [h1, hlo] at h2
            have h3 : p = (l, o) := Prod.ext h1 (Option.some.inj h2).symm
            rw [h3]
            exact N' _ (hn _ hm.1)
        · exact N' p (hn p h)
      · exact ha _ hIown p.1 (List.mem_map.mpr ⟨p, hp, rfl⟩) (List.mem_singleton.mp hq).symm
    cases f with
    | ret v => exact .ret p
    | brk => exact .brk p
    | next => exact .next (fin p)
    | cont => exact .cont (fin p)
  · rintro h' tk m' news' F' N' _ ⟨hl', hJ⟩
    exact done m' news' h' tk hJ hl' F' N'

/-- a for over a tuple or a list of the ledger; what the loop makes may stay on the ledger -/
theorem iter_seq {l : Addr} {o : Obj} {vs : List Value} {m₀ : Str → Option Value} {news : List (Addr × Obj)} (J : Nat → (Str → Option Value) → List (Addr × Obj) → Prop)
    (hh : A.handled = none) (hl : (l, o) ∈ news) (ho : SeqOb o vs) (F : Fr h₀ env.locals s.heap m₀) (N : News h₀ env.locals s.heap news) (hj : J 0 m₀ news)
    (turn : ∀ i v m₁ nx own h tk, vs[i]? = some v → OwnOff own (nx.map (·.1)) → (l, o) ∈ nx → J i m₁ nx → Fr h₀ env.locals h (fun y => if y = x then some v else m₁ y) → News h₀ env.locals h (nx ++ own) →
      wpAny (model prog w) A (execs body env) (InvPostG h₀ env.locals (fun m' nx' => (l, o) ∈ nx' ∧ J (i + 1) m' nx') own { s with heap := h, toks := tk } Q) E { s with heap := h, toks := tk })
    (done : ∀ m₁ nx h tk, J vs.length m₁ nx → (l, o) ∈ nx → Fr h₀ env.locals h m₁ → News h₀ env.locals h nx → Q .next { s with heap := h, toks := tk }) :
    wpAny (model prog w) A (pyIter (.ref l)) (fun it s₂ => LoopAtV prog w A h₀ env x body Q E it s₂) E s := by
  have hol : s.heap.get? l = some o := (N _ hl).1
  have hne : l ≠ s.heap.objs.size := Nat.ne_of_lt (Heap.lt_size hol)
  obtain ⟨hc, n, hd⟩ := ho
  rcases hc with hc | hc
  · have ht : s.heap.IsTuple l vs.toArray := ⟨_, hol, hc, n, hd⟩
    refine wpAny_pyIter_tuple ht ?_
    have W := Walks.tuple (prog := prog) (w := w) hh s.heap.objs.size l hne vs.toArray
    have hlen : vs.toArray.size = vs.length := by simp
    rw [hlen] at W
    exact seq_core J ⟨W.sub, W.frame, fun i s Q E hi st hQ => W.item i s Q E hi st fun v h' tk hP => hQ v h' tk (by simpa using hP), W.done, W.self⟩
      (fun i h st => by obtain ⟨ob, e, _⟩ := st.1; exact ⟨ob, e⟩) hl F N ⟨⟨_, Heap.get?_push_size _ rfl, rfl, rfl⟩, ht.at fun o e => Heap.get?_push_of_some _ e⟩ hj turn done
  · have ht : s.heap.IsList l vs.toArray := ⟨_, hol, hc, n, hd⟩
    refine wpAny_pyIter_list ht ?_
    have W := Walks.list (prog := prog) (w := w) hh s.heap.objs.size l hne vs.toArray
    have hlen : vs.toArray.size = vs.length := by simp
    rw [hlen] at W
    exact seq_core J ⟨W.sub, W.frame, fun i s Q E hi st hQ => W.item i s Q E hi st fun v h' tk hP => hQ v h' tk (by simpa using hP), W.done, W.self⟩
      (fun i h st => by obtain ⟨ob, e, _⟩ := st.1; exact ⟨ob, e⟩) hl F N ⟨⟨_, Heap.get?_push_size _ rfl, rfl, rfl⟩, ht.at fun o e => Heap.get?_push_of_some _ e⟩ hj turn done
end
end Mine
end

section
open PySem PySem.W PyProof.Rows PySem.Calls PySem.Spec
namespace Mine
set_option maxRecDepth 100000

section
variable {prog : Program} {w : World} {A : Around} {E : Value → Shared → Prop} {s : Shared} {env : Env} {h₀ : Heap} {target : Expr} {body : List Stmt} {Q : Flow → Shared → Prop}

/-- a for with any target; the ledger may grow, 'keep' stands on it as long as the loop runs -/
theorem turns_core {I : Addr} {fp wr : List Addr} {n : Nat} {P Md : Nat → Value → Heap → Prop} {St : Nat → Heap → Prop} {m₀ : Str → Option Value} {news keep : List (Addr × Obj)} (J : Nat → (Str → Option Value) → List (Addr × Obj) → Prop)
    (W : KTurns prog w A target I fp wr n P Md St) (hob : ∀ i h, St i h → ∀ b ∈ wr, ∃ ob, h.get? b = some ob) (hLf : env.locals ∉ fp) (hwr : ∀ b ∈ wr, h₀.get? b = none) (hnw : ∀ p ∈ news, p.1 ∉ wr)
    (hk : ∀ q ∈ keep, q ∈ news) (hfpk : ∀ b ∈ fp, b ∈ wr ∨ ∃ o, (b, o) ∈ keep)
    (hst : St 0 s.heap) (F : Fr h₀ env.locals s.heap m₀) (N : News h₀ env.locals s.heap news) (hj : J 0 m₀ news)
    (turn : ∀ i v m₁ nx own h tk, i < n → P i v h → OwnOff own (nx.map (·.1)) → (∀ q ∈ keep, q ∈ nx) → J i m₁ nx → Fr h₀ env.locals h m₁ → News h₀ env.locals h (nx ++ own) →
      wpAny (model prog w) A (assign target env v) (fun _ s₃ => wpAny (model prog w) A (execs body env) (InvPostG h₀ env.locals (fun m' nx' => (∀ q ∈ keep, q ∈ nx') ∧ J (i + 1) m' nx') own { s with heap := h, toks := tk } Q) E s₃) E { s with heap := h, toks := tk })
    (done : ∀ m₁ nx h tk, J n m₁ nx → (∀ q ∈ keep, q ∈ nx) → Fr h₀ env.locals h m₁ → News h₀ env.locals h nx → Q .next { s with heap := h, toks := tk }) :
    TurnsAt prog w A h₀ env target body Q E (.ref I) s := by
  refine ⟨I, fp, wr, n, P, Md, St, m₀, news, (fun i m nx => (∀ q ∈ keep, q ∈ nx) ∧ J i m nx), rfl, W, hLf, hwr, hnw, hst, F, N, ⟨hk, hj⟩, ?_, ?_⟩
  · rintro i v m₁ nx hh' tk' own hin hP ⟨hk₁, hJ⟩ hoff hown hget hfp hst' F₁ N₁
    let ow := own.filter fun p => decide (p.1 ∈ wr)
    have hmem : ∀ p, p ∈ ow ↔ p ∈ own ∧ p.1 ∈ wr := fun p => by simp [ow]
    have hsep : OwnOff ow (nx.map (·.1)) := by
      intro p hp b hb e
      obtain ⟨q, hq, rfl⟩ := List.mem_map.mp hb
      exact hoff q hq (e ▸ ((hmem p).mp hp).2)
    have N₂ : News h₀ env.locals hh' (nx ++ ow) := fun p hp => N₁ p ((List.mem_append.mp hp).elim (fun h => List.mem_append.mpr (.inr h)) fun h => List.mem_append.mpr (.inl ((hmem p).mp h).1))
    refine wpAny_mono (turn i v m₁ nx ow hh' tk' hin hP hsep hk₁ hJ F₁ N₂) (fun _ s₃ h₃ => wpAny_mono h₃ (fun f s₂ p => ?_) fun _ _ e => e) fun _ _ e => e
    have fin : InvEndG h₀ env.locals (fun m' nx' => (∀ q ∈ keep, q ∈ nx') ∧ J (i + 1) m' nx') ow { s with heap := hh', toks := tk' } s₂ →
        LoopStepU h₀ env.locals wr own (fun m nx => (∀ q ∈ keep, q ∈ nx) ∧ J (i + 1) m nx) { s with heap := hh', toks := tk' } .next s₂ := by
      rintro ⟨h', tk, m', news', nx', e, F', N', hn, ho, ha, hm⟩
      refine ⟨rfl, h', tk, m', nx', e, F', fun p hp => ?_, fun p hp hq => ?_, hm⟩
      · rcases List.mem_append.mp hp with h | h
        · by_cases hI : p.1 ∈ wr
          · exact N' p (ho p ((hmem p).mpr ⟨h, hI⟩))
          · rcases hfpk p.1 (hown p h) with h2 | ⟨o, h2⟩
            · exact absurd h2 hI
            · have h3 : hh'.get? p.1 = some p.2 := hget p h
              have h4 : hh'.get? p.1 = some o := (N₁ _ (List.mem_append.mpr (.inr (hk₁ _ h2)))).1
              rw [h3] at h4
              have h5 : p = (p.1, o) := Prod.ext rfl (Option.some.inj h4)
              rw [h5]
              exact N' _ (hn _ (hm.1 _ h2))
        · exact N' p (hn p h)
      · obtain ⟨ob, hb⟩ := hob _ _ hst' p.1 hq
        have h1 : (p.1, ob) ∈ ow := (hmem _).mpr ⟨hfp _ (W.sub _ hq) (hwr _ hq) _ hb, hq⟩
        exact ha _ h1 p.1 (List.mem_map.mpr ⟨p, hp, rfl⟩) rfl
    cases f with
    | ret v => exact .ret p
    | brk => exact .brk p
    | next => exact .next (fin p)
    | cont => exact .cont (fin p)
  · rintro h' tk m' news' F' N' _ ⟨hl', hJ⟩
    exact done m' news' h' tk hJ hl' F' N'

/-- a for over a tuple or a list of the ledger, its target a name -/
theorem turns_seq {x : Str} {px : Pos} {l : Addr} {o : Obj} {vs : List Value} {m₀ : Str → Option Value} {news : List (Addr × Obj)} (J : Nat → (Str → Option Value) → List (Addr × Obj) → Prop)
    (hh : A.handled = none) (hl : (l, o) ∈ news) (ho : SeqOb o vs) (F : Fr h₀ env.locals s.heap m₀) (N : News h₀ env.locals s.heap news) (hj : J 0 m₀ news)
    (turn : ∀ i v m₁ nx own h tk, vs[i]? = some v → OwnOff own (nx.map (·.1)) → (l, o) ∈ nx → J i m₁ nx → Fr h₀ env.locals h m₁ → News h₀ env.locals h (nx ++ own) →
      wpAny (model prog w) A (assign (.Name x px) env v) (fun _ s₃ => wpAny (model prog w) A (execs body env) (InvPostG h₀ env.locals (fun m' nx' => (∀ q ∈ [(l, o)], q ∈ nx') ∧ J (i + 1) m' nx') own { s with heap := h, toks := tk } Q) E s₃) E { s with heap := h, toks := tk })
    (done : ∀ m₁ nx h tk, J vs.length m₁ nx → (l, o) ∈ nx → Fr h₀ env.locals h m₁ → News h₀ env.locals h nx → Q .next { s with heap := h, toks := tk }) :
    wpAny (model prog w) A (pyIter (.ref l)) (fun it s₂ => TurnsAt prog w A h₀ env (.Name x px) body Q E it s₂) E s := by
  have hol : s.heap.get? l = some o := (N _ hl).1
  have hne : l ≠ s.heap.objs.size := Nat.ne_of_lt (Heap.lt_size hol)
  have hlen : vs.toArray.size = vs.length := by simp
  obtain ⟨hc, n, hd⟩ := ho
  have go : ∀ {St : Nat → Heap → Prop} {oI : Obj}, Walks prog w A s.heap.objs.size [s.heap.objs.size, l] [s.heap.objs.size] vs.toArray.size (fun i v => vs.toArray[i]? = some v) St → (∀ i h, St i h → ∃ ob, h.get? s.heap.objs.size = some ob) → St 0 (s.heap.push oI) →
      TurnsAt prog w A h₀ env (.Name x px) body Q E (.ref s.heap.objs.size) { s with heap := s.heap.push oI } := by
    intro St oI W hob hst
    refine turns_core (keep := [(l, o)]) J (KTurns.ofWalks W fun i v s Q E _ hQ => wpAny_pure hQ) (fun i h st b hb => by rw [List.mem_singleton.mp hb]; exact hob i h st) ?_ ?_ ?_ (fun q hq => by rw [List.mem_singleton.mp hq]; exact hl) ?_ hst (F.push _) (fun p hp => ⟨Heap.get?_push_of_some _ (N p hp).1, (N p hp).2⟩) hj ?_ ?_
    · intro hm
      rcases List.mem_cons.mp hm with e | hm
      · exact absurd F.ns.lt (e ▸ Nat.lt_irrefl _)
      · exact (N _ hl).2.1 ((List.mem_singleton.mp hm).symm)
    · intro b hb
      rw [List.mem_singleton.mp hb]
      exact next_is_new F
    · intro p hp hI
      exact absurd (Heap.lt_size (N p hp).1) ((List.mem_singleton.mp hI) ▸ Nat.lt_irrefl _)
    · intro b hb
      rcases List.mem_cons.mp hb with rfl | hb
      · exact .inl (List.mem_singleton.mpr rfl)
      · rw [List.mem_singleton.mp hb]; exact .inr ⟨o, List.mem_singleton.mpr rfl⟩
    · intro i v m₁ nx own h tk hi hP hoff hk hJ F₁ N₁
      exact turn i v m₁ nx own h tk (by simpa using hP) hoff (hk _ (List.mem_singleton.mpr rfl)) hJ F₁ N₁
    · intro m₁ nx h tk hJ hk F₁ N₁
      rw [hlen] at hJ
      exact done m₁ nx h tk hJ (hk _ (List.mem_singleton.mpr rfl)) F₁ N₁
  rcases hc with hc | hc
  · have ht : s.heap.IsTuple l vs.toArray := ⟨_, hol, hc, n, hd⟩
    refine wpAny_pyIter_tuple ht ?_
    exact go (Walks.tuple hh s.heap.objs.size l hne vs.toArray) (fun i h st => by obtain ⟨ob, e, _⟩ := st.1; exact ⟨ob, e⟩) ⟨⟨_, Heap.get?_push_size _ rfl, rfl, rfl⟩, ht.at fun o e => Heap.get?_push_of_some _ e⟩
  · have ht : s.heap.IsList l vs.toArray := ⟨_, hol, hc, n, hd⟩
    refine wpAny_pyIter_list ht ?_
    exact go (Walks.list hh s.heap.objs.size l hne vs.toArray) (fun i h st => by obtain ⟨ob, e, _⟩ := st.1; exact ⟨ob, e⟩) ⟨⟨_, Heap.get?_push_size _ rfl, rfl, rfl⟩, ht.at fun o e => Heap.get?_push_of_some _ e⟩
end
end Mine
end

section
open PySem PySem.W PyProof.Rows PySem.Calls PySem.Spec
namespace Mine
set_option maxRecDepth 100000

theorem fr_know {h₀ h : Heap} {L : Addr} {m : Str → Option Value} {y : Str} {u : Value} (F : Fr h₀ L h m) (e : m y = some u) : Fr h₀ L h (fun z => if z = y then some u else m z) := by
  have : (fun z => if z = y then some u else m z) = m := by
    funext z
    by_cases hz : z = y
    · rw [if_pos hz, hz, e]
    · rw [if_neg hz]
  rw [this]; exact F
theorem fr_know2 {h₀ h : Heap} {L : Addr} {m : Str → Option Value} {x y : Str} {u v : Value} (F : Fr h₀ L h (fun z => if z = x then some v else m z)) (e : m y = some u) :
    Fr h₀ L h (fun z => if z = x then some v else if z = y then some u else m z) := by
  have : (fun z => if z = x then some v else if z = y then some u else m z) = (fun z => if z = x then some v else m z) := by
    funext z
    by_cases hx : z = x
    · rw [if_pos hx, if_pos hx]
    · rw [if_neg hx, if_neg hx]
      by_cases hz : z = y
      · rw [if_pos hz, hz, e]
      · rw [if_neg hz]
  rw [this]; exact F
theorem fr_know3 {h₀ h : Heap} {L : Addr} {m : Str → Option Value} {x y z' : Str} {a b u : Value} (F : Fr h₀ L h (fun z => if z = y then some b else if z = x then some a else m z)) (e : m z' = some u) :
    Fr h₀ L h (fun z => if z = y then some b else if z = x then some a else if z = z' then some u else m z) := by
  have : (fun z => if z = y then some b else if z = x then some a else if z = z' then some u else m z) = (fun z => if z = y then some b else if z = x then some a else m z) := by
    funext z
    by_cases hy : z = y
    · rw [if_pos hy, if_pos hy]
    · rw [if_neg hy, if_neg hy]
      by_cases hx : z = x
      · rw [if_pos hx, if_pos hx]
      · rw [if_neg hx, if_neg hx]
        by_cases hz : z = z'
        · rw [if_pos hz, hz, e]
        · rw [if_neg hz]
  rw [this]; exact F
theorem news_sub {h₀ h : Heap} {L : Addr} {l l' : List (Addr × Obj)} (N : News h₀ L h l) (hs : ∀ p ∈ l', p ∈ l) : News h₀ L h l' := fun p hp => N p (hs p hp)

/-- every address of tl is above every address of G -/
def Gt (G tl : List (Addr × Obj)) : Prop := ∀ q ∈ G, ∀ p ∈ tl, (q.1 : Nat) < p.1
theorem Gt.nil {G : List (Addr × Obj)} : Gt G [] := fun _ _ _ h => nomatch h
theorem Gt.sub {G G' tl tl' : List (Addr × Obj)} (h : Gt G tl) (h1 : ∀ q ∈ G', q ∈ G) (h2 : ∀ p ∈ tl', p ∈ tl) : Gt G' tl' := fun q hq p hp => h q (h1 q hq) p (h2 p hp)
theorem Gt.app {G tl tl' : List (Addr × Obj)} (h : Gt G tl) (h' : Gt G tl') : Gt G (tl ++ tl') := fun q hq p hp => (List.mem_append.mp hp).elim (h q hq p) (h' q hq p)
theorem Gt.re {G tl : List (Addr × Obj)} {c : Addr} {o o' : Obj} (h : Gt ((c, o) :: G) tl) : Gt ((c, o') :: G) tl := fun q hq p hp => by
  rcases List.mem_cons.mp hq with rfl | hq
  · exact h (c, o) List.mem_cons_self p hp
  · exact h q (List.mem_cons_of_mem _ hq) p hp
theorem Gt.cons {G tl : List (Addr × Obj)} {a : Addr} {o : Obj} (h : AllLt a G) (h' : Gt G tl) : Gt G ((a, o) :: tl) := fun q hq p hp => by
  rcases List.mem_cons.mp hp with rfl | hp
  · exact ktn_ltOf h q hq
  · exact h' q hq p hp
theorem allLt_sub {d : Nat} {l l' : List (Addr × Obj)} (h : AllLt d l) (hs : ∀ p ∈ l', p ∈ l) : AllLt d l' := allLt_of fun p hp => ktn_ltOf h p (hs p hp)

abbrev tupOb (vs : List Value) (n : Nat) : Obj := { cls := .type "tuple", data := .seq vs.toArray n }

/-- values that stand for tuples of ints of the ledger -/
inductive TupsIn (nx : List (Addr × Obj)) : List Value → List (List Int) → Prop
  | nil : TupsIn nx [] []
  | cons {a : Addr} {vs : List Value} {n : Nat} {row : List Int} {us : List Value} {rows : List (List Int)} : (a, tupOb vs n) ∈ nx → IntsAre vs row → TupsIn nx us rows → TupsIn nx (.ref a :: us) (row :: rows)
theorem TupsIn.mono {nx nx' : List (Addr × Obj)} {us : List Value} {rows : List (List Int)} (h : TupsIn nx us rows) (hs : ∀ p ∈ nx, p ∈ nx') : TupsIn nx' us rows := by
  induction h with
  | nil => exact .nil
  | cons hm hi _ ih => exact .cons (hs _ hm) hi ih
theorem TupsIn.append {nx : List (Addr × Obj)} {us us' : List Value} {rows rows' : List (List Int)} (h : TupsIn nx us rows) (h' : TupsIn nx us' rows') : TupsIn nx (us ++ us') (rows ++ rows') := by
  induction h with
  | nil => exact h'
  | cons hm hi _ ih => exact .cons hm hi ih
theorem TupsIn.length {nx : List (Addr × Obj)} {us : List Value} {rows : List (List Int)} (h : TupsIn nx us rows) : us.length = rows.length := by
  induction h with
  | nil => rfl
  | cons _ _ _ ih => rw [List.length_cons, List.length_cons, ih]
theorem TupsIn.at {nx : List (Addr × Obj)} : ∀ {us : List Value} {rows : List (List Int)}, TupsIn nx us rows → ∀ (i : Nat) (v : Value), us[i]? = some v → ∃ a vs n row, v = .ref a ∧ (a, tupOb vs n) ∈ nx ∧ IntsAre vs row ∧ rows[i]? = some row
  | _, _, .cons (a := a) (vs := vs) (n := n) (row := row) hm hi _, 0, v, e => ⟨a, vs, n, row, by simpa using e.symm, hm, hi, rfl⟩
  | _, _, .cons _ _ r, i + 1, v, e => by
    obtain ⟨a, vs, n, row, h1, h2, h3, h4⟩ := r.at i v (by simpa using e)
    exact ⟨a, vs, n, row, h1, h2, h3, by simpa using h4⟩

theorem TupsIn.snoc {nx : List (Addr × Obj)} : ∀ {us : List Value} {rows : List (List Int)} {row : List Int}, TupsIn nx us (rows ++ [row]) → ∃ us' a vs n, us = us' ++ [.ref a] ∧ TupsIn nx us' rows ∧ (a, tupOb vs n) ∈ nx ∧ IntsAre vs row
  | _, [], _, .cons (a := a) (vs := vs) (n := n) hm hi .nil => ⟨[], a, vs, n, rfl, .nil, hm, hi⟩
  | _, _ :: _, _, .cons (a := b) hm hi r => by
    obtain ⟨us', a, vs, n, e, h1, h2, h3⟩ := TupsIn.snoc r
    exact ⟨.ref b :: us', a, vs, n, by rw [e]; rfl, .cons hm hi h1, h2, h3⟩
section
variable {prog : Program} {w : World} {A : Around} {E : Value → Shared → Prop} {s : Shared} {h₀ : Heap} {L : Addr} {m : Str → Option Value} {news : List (Addr × Obj)}
/-- a name that is a cell of the frame, its cell at the ledger's head -/
theorem store_cell {M : Model} {cn : Str} {cs : Scope} {a : Addr} {ccd : Value} {cl : List (Str × Addr)} {x : Str} {v : Value} {Q : Unit → Shared → Prop} {c : Addr} {o : Obj} {v₀ : Option Value} {rest : List (Addr × Obj)} (F : Fr h₀ L s.heap m) (N : News h₀ L s.heap ((c, o) :: rest)) (hc : cl.lookup x = some c)
    (hr : ∀ p ∈ rest, p.1 ≠ c) (hd : o.data = .cell v₀)
    (h : ∀ h' o', Fr h₀ L h' m → News h₀ L h' ((c, o') :: rest) → o'.data = .cell (some v) → Q () { s with heap := h' })
    (hk : cs.kind = .function := by rfl) (hx : (envX cn cs L a ccd cl).kindOf x = some .cell := by rfl) : wpAny M A (storeName (envX cn cs L a ccd cl) x v) Q E s :=
  storeX_C F N hc (UpdF.head hr) hd h hk hx

/-- a sum of two tuples, the second not empty -/
theorem add_tup {t b : Addr} {vs ws : List Value} {n1 n2 : Nat} {Q : Value → Shared → Prop} (F : Fr h₀ L s.heap m) (N : News h₀ L s.heap news) (ht : (t, tupOb vs n1) ∈ news) (hb : (b, tupOb ws n2) ∈ news) (hw : ws ≠ []) (hz : vs.length + ws.length ≤ 16384)
    (h : ∀ D k h' add, Fr h₀ L h' m → News h₀ L h' (add ++ news) → Gt news add → (D, tupOb (vs ++ ws) k) ∈ add ++ [(b, tupOb ws n2)] → Q (.ref D) { s with heap := h' }) : wpAny (model prog w) A (binaryOp .Add (.ref t) (.ref b)) Q E s := by
  have it : IsTup s.heap t vs.toArray := ⟨_, (N _ ht).1, rfl, _, rfl⟩
  have ib : IsTup s.heap b ws.toArray := ⟨_, (N _ hb).1, rfl, _, rfl⟩
  by_cases hv : vs = []
  · subst hv
    refine kde_addT0 F N it ib rfl (by simpa using hz) ?_
    exact h b n2 s.heap [] F N Gt.nil (by simp)
  · refine kde_addT F N it ib (by simpa using hv) (by simpa using hw) (by simpa using hz) rfl fun D h' F' N' hl => ?_
    exact h D 0 h' [(D, tupOb (vs ++ ws) 0)] F' N' (Gt.cons (allLt_of hl) Gt.nil) (by simp)

/-- a sum of two lists -/
theorem add_lst {t b : Addr} {vs ws : List Value} {n1 n2 : Nat} {Q : Value → Shared → Prop} (F : Fr h₀ L s.heap m) (N : News h₀ L s.heap news) (ht : (t, listOf vs.toArray n1) ∈ news) (hb : (b, listOf ws.toArray n2) ∈ news) (hz : vs.length + ws.length ≤ 16384000)
    (h : ∀ D h', Fr h₀ L h' m → News h₀ L h' ((D, listOf (vs ++ ws).toArray 0) :: news) → AllLt D news → Q (.ref D) { s with heap := h' }) : wpAny (model prog w) A (binaryOp .Add (.ref t) (.ref b)) Q E s := by
  have it : s.heap.IsList t vs.toArray := ⟨_, (N _ ht).1, rfl, _, rfl⟩
  have ib : s.heap.IsList b ws.toArray := ⟨_, (N _ hb).1, rfl, _, rfl⟩
  refine kmk_add_lit F N it ib rfl (fun D h' F' N' hl => h D h' F' N' (allLt_of hl)) ?_
  rw [sizeLine_eq]
  show vs.length + ws.length ≤ 16777216
  omega

/-- the turns of a comprehension by an invariant over the turn's number, the items made and the ledger -/
theorem comp_inv {elt : Expr} {x : Str} {scope : Scope} {cl : List (Str × Addr)} {env : Env} {S : List (Addr × Obj) → Prop} {P : Nat → Value → Prop} {Fin : List Value → List (Addr × Obj) → Prop} {n : Nat} (J : Nat → List Value → List (Addr × Obj) → Prop) (h0 : J 0 [] news)
    (turn : ∀ i v ys led I oI C oC D m₂ h tk (E' : Value → Shared → Prop), i < n → P i v → J i ys led → LCg.NsObj oC m₂ → m₂ x = some v → Fr h₀ L h m → News h₀ L h ((I, oI) :: (C, oC) :: (D, LCg.lst ys) :: led) → LCg.Off3 I C D led → ((@Ne Nat I C) ∧ (@Ne Nat I D) ∧ (@Ne Nat C D)) →
      wpAny (model prog w) A (eval elt (compEnvC scope cl C env)) (LCg.CompEnd h₀ L m { s with heap := h, toks := tk } I oI C oC D (LCg.lst ys) S (fun y led' => J (i + 1) (ys ++ [y]) led')) E' { s with heap := h, toks := tk })
    (fin : ∀ ys led, J n ys led → Fin ys led) : LCg.CompRest prog w A h₀ L m env elt x scope cl s S P Fin n 0 [] news := by
  have key : ∀ (j i : Nat) (ys : List Value) (led : List (Addr × Obj)), i + j = n → J i ys led → LCg.CompRest prog w A h₀ L m env elt x scope cl s S P Fin j i ys led := by
    intro j
    induction j with
    | zero =>
      intro i ys led hi hJ
      have e : i = n := by omega
      subst e
      exact LCg.CompRest.zero (fin ys led hJ)
    | succ j ih =>
      intro i ys led hi hJ
      refine LCg.CompRest.succ ?_
      intro v I oI C oC D m₂ h tk E' hv hC hx F N off ne
      refine wpAny_mono (turn i v ys led I oI C oC D m₂ h tk E' (by omega) hv hJ hC hx F N off ne) (fun y s₂ hq => ?_) fun _ _ e => e
      obtain ⟨h', tk', nw, e, F', N', off', hS, hJ'⟩ := hq
      exact ⟨h', tk', nw, e, F', N', off', hS, ih (i + 1) _ _ (by omega) hJ'⟩
  exact key n 0 [] news (by omega) h0

/-- a turn's end that has made 'new' and changed nothing -/
theorem compEnd_grow {I C D : Addr} {s₁ : Shared} {oI oC oD : Obj} {S : List (Addr × Obj) → Prop} {rest : Value → List (Addr × Obj) → Prop} {y : Value} {h' : Heap} {tk : Nat} {all new led : List (Addr × Obj)} (F : Fr h₀ L h' m) (N : News h₀ L h' all) (off : LCg.Off3 I C D led)
    (hg : Gt [(I, oI), (C, oC), (D, oD)] new) (sub : ∀ p ∈ (I, oI) :: (C, oC) :: (D, oD) :: (new ++ led), p ∈ all) (hS : S (new ++ led)) (r : rest y (new ++ led)) : LCg.CompEnd h₀ L m s₁ I oI C oC D oD S rest y { s₁ with heap := h', toks := tk } := by
  refine LCg.CompEnd.intro F N (new ++ led) sub (LCg.Off3.of fun p hp => ?_) hS r
  rcases List.mem_append.mp hp with hp | hp
  · have h1 : (I : Nat) < p.1 := hg (I, oI) (by simp) p hp
    have h2 : (C : Nat) < p.1 := hg (C, oC) (by simp) p hp
    have h3 : (D : Nat) < p.1 := hg (D, oD) (by simp) p hp
    exact ⟨Nat.ne_of_gt h1, Nat.ne_of_gt h2, Nat.ne_of_gt h3⟩
  · exact off.mem p hp
theorem off_grow {own nx new : List (Addr × Obj)} (h : OwnOff own (nx.map (·.1))) (hg : Gt own new) : OwnOff own ((new ++ nx).map (·.1)) := by
  intro p hp b hb
  rw [List.map_append] at hb
  rcases List.mem_append.mp hb with hb | hb
  · obtain ⟨q, hq, rfl⟩ := List.mem_map.mp hb
    exact Nat.ne_of_lt (hg p hp q hq)
  · exact h p hp b hb
theorem off_of {own nx nx' : List (Addr × Obj)} (h : OwnOff own (nx.map (·.1))) (hq : ∀ q ∈ nx', q.1 ∈ nx.map (·.1) ∨ ∀ p ∈ own, (p.1 : Nat) < q.1) : OwnOff own (nx'.map (·.1)) := by
  intro p hp b hb
  obtain ⟨q, hq', rfl⟩ := List.mem_map.mp hb
  rcases hq q hq' with h1 | h1
  · exact h p hp _ h1
  · exact Nat.ne_of_lt (h1 p hp)
end
end Mine
end

section
open PySem PySem.W PyProof.Rows PySem.Calls PySem.Spec
namespace Mine
set_option maxRecDepth 100000

section
variable {prog : Program} {w : World} {A : Around} {E : Value → Shared → Prop} {s : Shared}

theorem nextT_item {it t : Addr} {i : Nat} {items : Array Value} {x : Value} {Q : Value → Shared → Prop} (hit : s.heap.IsTupleIter it t i) (ht : s.heap.IsTuple t items) (hx : items[i]? = some x)
    (hQ : ∀ h', h'.IsTupleIter it t (i + 1) → Heap.SameBut it s.heap h' → Q x { s with heap := h' }) :
    wpAny (model prog w) A (Builtin.SmallTypes.nextOf (.ref it)) Q E s := by
  obtain ⟨o, ho, hc, hd⟩ := id hit
  obtain ⟨ol, hol, _, nl, hdl⟩ := ht
  unfold Builtin.SmallTypes.nextOf
  refine wpAny_bind (wpAny_callSpecial?_slot (name := Str.ofString "__next__") hit.typeIs F.slot_tuple_iterator_next
    (wpAny_call_entry F.slot_tuple_iterator_next hit.typeIs F.entry_tuple_iterator_next ?_ (F.args_tuple_iterator_next_1 _)))
  show wpAny _ _ (field (.ref it) 0 >>= _) _ _ s
  refine wpAny_bind (wpAny_field (x := .ref t) ho hd rfl ?_)
  show wpAny _ _ (if (Value.ref t == Value.none) = true then _ else _) _ _ s
  rw [if_neg (show ¬ ((Value.ref t == Value.none) = true) from Bool.false_ne_true)]
  show wpAny _ _ (field (.ref it) 1 >>= _) _ _ s
  refine wpAny_bind (wpAny_field (x := .int i 0) ho hd rfl ?_)
  show wpAny _ _ (seqItems? (.ref t) >>= _) _ _ s
  refine wpAny_bind (wpAny_seqItems hol hdl ?_)
  simp only [Int.toNat_natCast, hx]
  refine wpAny_bind (wpAny_setField ho hd (by simp) (wpAny_pure ⟨x, rfl, wpAny_pure (hQ _ ?_ (Heap.SameBut.update ..))⟩))
  exact ⟨_, Heap.get?_update_self _ ho (Obj.isFreed_of_fields (Obj.data_mapFields hd _)), (Obj.cls_mapFields ..).trans hc, by
    rw [Obj.data_mapFields hd]; simp [rawInt]⟩

theorem nextT_end {it t : Addr} {i : Nat} {items : Array Value} {Q : Value → Shared → Prop} (hh : A.handled = none) (hit : s.heap.IsTupleIter it t i) (ht : s.heap.IsTuple t items) (hx : items[i]? = none)
    (hE : ∀ h' e, Heap.ExtBut it s.heap h' → (∃ o, h'.get? e = some o ∧ o.cls = .type "StopIteration") → E (.ref e) { s with heap := h' }) :
    wpAny (model prog w) A (Builtin.SmallTypes.nextOf (.ref it)) Q E s := by
  obtain ⟨o, ho, hc, hd⟩ := id hit
  obtain ⟨ol, hol, _, nl, hdl⟩ := ht
  unfold Builtin.SmallTypes.nextOf
  refine wpAny_bind (wpAny_callSpecial?_slot (name := Str.ofString "__next__") hit.typeIs F.slot_tuple_iterator_next
    (wpAny_call_entry F.slot_tuple_iterator_next hit.typeIs F.entry_tuple_iterator_next ?_ (F.args_tuple_iterator_next_1 _)))
  show wpAny _ _ (field (.ref it) 0 >>= _) _ _ s
  refine wpAny_bind (wpAny_field (x := .ref t) ho hd rfl ?_)
  show wpAny _ _ (if (Value.ref t == Value.none) = true then _ else _) _ _ s
  rw [if_neg (show ¬ ((Value.ref t == Value.none) = true) from Bool.false_ne_true)]
  show wpAny _ _ (field (.ref it) 1 >>= _) _ _ s
  refine wpAny_bind (wpAny_field (x := .int i 0) ho hd rfl ?_)
  show wpAny _ _ (seqItems? (.ref t) >>= _) _ _ s
  refine wpAny_bind (wpAny_seqItems hol hdl ?_)
  simp only [Int.toNat_natCast, hx]
  refine wpAny_bind (wpAny_rule (wpAny_bind (wpAny_setField ho hd (by simp) ?_)))
  show wpAny _ _ (newExc (.type "StopIteration") [] >>= _) _ _ _
  refine wpAny_bind ?_
  simp only [newExc, newTuple]
  refine wpAny_bind (wpAny_newObj_type ?_ (by size_fits))
  refine wpAny_bind (m := firstArgMember _ _) (wpAny_of_eq (a := Value.none) (by first | rfl | (simp only [firstArgMember]; rfl)) ?_)
  refine wpAny_newObj_type ?_ (by size_fits)
  simp only [raiseNew]
  refine wpAny_bind (wpAny_handled ?_)
  first | rw [show A.in1.handled = none from hh] | rw [hh]
  refine wpAny_bind (wpAny_pure (wpAny_throw ?_))
  exact hE _ _ (((Heap.SameBut.update ..).extBut.push _).push _) ⟨_, Heap.get?_push_size _ rfl, rfl⟩

/-- a zip of two tuples: its own tuple is out (f0), or not -/
abbrev ZipRec (h : Heap) (z TI TO : Addr) (f0 : Value) (f1 : Bool) : Prop :=
  h.get? z = some { cls := .type "zip", dict := none, data := .fields #[f0, .bool f1, .bool false, .ref TI, .ref TO], slots := #[] }
structure ZipT (h : Heap) (z TI TO i1 i2 l1 l2 : Addr) (xs ys : Array Value) (k : Nat) : Prop where
  hTI : IsPair h TI (.ref i1) (.ref i2)
  hTO : ∃ a b, IsPair h TO a b
  h1 : h.IsTupleIter i1 l1 k
  h2 : h.IsTupleIter i2 l2 k
  hl1 : h.IsTuple l1 xs
  hl2 : h.IsTuple l2 ys

set_option maxHeartbeats 1000000 in
theorem zipT_free {z TI TO i1 i2 l1 l2 : Addr} {k : Nat} {xs ys : Array Value} {x y : Value} {Q : Value → Shared → Prop} (D : ZipApart z TI TO i1 i2 l1 l2)
    (hz : ZipRec s.heap z TI TO .none false) (Z : ZipT s.heap z TI TO i1 i2 l1 l2 xs ys k) (hx : xs[k]? = some x) (hy : ys[k]? = some y)
    (hQ : ∀ h', ZipRec h' z TI TO (rawInt s.heap.objs.size) false → ZipT h' z TI TO i1 i2 l1 l2 xs ys (k + 1) → IsPair h' s.heap.objs.size x y → h'.objs.size = s.heap.objs.size + 1 →
      (∀ c o, c ≠ z → c ≠ TO → c ≠ i1 → c ≠ i2 → s.heap.get? c = some o → h'.get? c = some o) → Q (.ref s.heap.objs.size) { s with heap := h' }) :
    wpAny (model prog w) A (Builtin.«zip.__next__» ⟨[.ref z], []⟩) (fun fin s' => ∃ v, fin = .done (.ret v) ∧ Q v s') E s := by
  obtain ⟨hTI, ⟨a, b, hTO⟩, h1, h2, hl1, hl2⟩ := Z
  show wpAny _ _ (field (.ref z) 2 >>= _) _ _ _
  refine wpAny_bind (wpAny_field (x := .bool false) hz rfl rfl ?_)
  show wpAny _ _ (field (.ref z) 3 >>= _) _ _ _
  refine wpAny_bind (wpAny_field (x := .ref TI) hz rfl rfl ?_)
  refine wpAny_bind (wpAny_seqItems hTI rfl ?_)
  show wpAny _ _ (Builtin.SmallTypes.ownedTupleIsFree (.ref z) >>= _) _ _ _
  refine wpAny_bind ?_
  unfold Builtin.SmallTypes.ownedTupleIsFree
  refine wpAny_bind (wpAny_field (x := .none) hz rfl rfl (wpAny_pure ?_))
  simp only [if_true]
  refine wpAny_bind (wpAny_rule ?_)
  refine wpAny_bind (wpAny_field (x := .ref TO) hz rfl rfl ?_)
  refine wpAny_bind (wpAny_setField_rec hz (by simp) fun h₁ hz₁ hs₁ => ?_)
  replace hz₁ : ZipRec h₁ z TI TO .ellipsis false := hz₁
  refine wpAny_bind ?_
  simp only [List.zipIdx_cons, List.zipIdx_nil, List.forIn_cons, List.forIn_nil]
  refine wpAny_bind (wpAny_bind (wpAny_onRaise ?_))
  show wpAny _ _ (Builtin.SmallTypes.nextOf (.ref i1) >>= _) _ _ _
  refine wpAny_bind (nextT_item (h1.extBut hs₁.extBut D.i1z) (hl1.extBut hs₁.extBut D.l1z) hx fun h₂ h1₂ hs₂ => wpAny_pure ?_)
  have hTO₂ : IsPair h₂ TO a b := hs₂.extBut _ _ D.TOi1 (hs₁.extBut _ _ D.TOz hTO)
  refine wpAny_bind (wpAny_seqItems hTO₂ rfl ?_)
  refine wpAny_bind (wpAny_updateSeq_pair hTO₂ fun h₃ hTO₃ hs₃ => ?_)
  replace hTO₃ : IsPair h₃ TO x b := hTO₃
  refine wpAny_bind (wpAny_letGo (wpAny_pure ?_))
  refine wpAny_bind (wpAny_bind (wpAny_onRaise ?_))
  show wpAny _ _ (Builtin.SmallTypes.nextOf (.ref i2) >>= _) _ _ _
  refine wpAny_bind (nextT_item (((h2.extBut hs₁.extBut D.i2z).extBut hs₂.extBut D.i12.symm).extBut hs₃.extBut D.TOi2.symm)
    (((hl2.extBut hs₁.extBut D.l2z).extBut hs₂.extBut D.l2i1).extBut hs₃.extBut D.l2TO) hy fun h₄ h2₄ hs₄ => wpAny_pure ?_)
  have hTO₄ : IsPair h₄ TO x b := hs₄.extBut _ _ D.TOi2 hTO₃
  refine wpAny_bind (wpAny_seqItems hTO₄ rfl ?_)
  refine wpAny_bind (wpAny_updateSeq_pair hTO₄ fun h₅ hTO₅ hs₅ => ?_)
  replace hTO₅ : IsPair h₅ TO x y := hTO₅
  refine wpAny_bind (wpAny_letGo (wpAny_pure (wpAny_pure ?_)))
  refine wpAny_bind (wpAny_seqItems hTO₅ rfl ?_)
  refine wpAny_bind (wpAny_newTuple ?_)
  have hsz : h₅.objs.size = s.heap.objs.size := by rw [hs₅.1, hs₄.1, hs₃.1, hs₂.1, hs₁.1]
  have hz₅ : ZipRec h₅ z TI TO .ellipsis false := hs₅.extBut _ _ D.TOz.symm (hs₄.extBut _ _ D.i2z.symm (hs₃.extBut _ _ D.TOz.symm (hs₂.extBut _ _ D.i1z.symm hz₁)))
  have hk₅ : ∀ c o, c ≠ z → c ≠ TO → c ≠ i1 → c ≠ i2 → s.heap.get? c = some o → h₅.get? c = some o := fun c o c1 c2 c3 c4 e =>
    hs₅.extBut _ _ c2 (hs₄.extBut _ _ c4 (hs₃.extBut _ _ c2 (hs₂.extBut _ _ c3 (hs₁.extBut _ _ c1 e))))
  have h1₅ : h₅.IsTupleIter i1 l1 (k + 1) := ((h1₂.extBut hs₃.extBut D.TOi1.symm).extBut hs₄.extBut D.i12).extBut hs₅.extBut D.TOi1.symm
  have h2₅ : h₅.IsTupleIter i2 l2 (k + 1) := h2₄.extBut hs₅.extBut D.TOi2.symm
  have hzlt : z < h₅.objs.size := Heap.lt_size hz₅
  show wpAny _ _ (Builtin.SmallTypes.ownedTupleHandOut (.ref z) (.ref h₅.objs.size) >>= _) _ _ _
  refine wpAny_bind ?_
  unfold Builtin.SmallTypes.ownedTupleHandOut
  have hz₆ : ZipRec (h₅.push { cls := .type "tuple", data := .seq #[x, y] }) z TI TO .ellipsis false := Heap.get?_push_of_some _ hz₅
  refine wpAny_bind (wpAny_setField_rec hz₆ (by simp) fun h₇ hz₇ hs₇ => ?_)
  replace hz₇ : ZipRec h₇ z TI TO (rawInt h₅.objs.size) false := hz₇
  refine wpAny_setField_rec hz₇ (by simp) fun h₈ hz₈ hs₈ => ?_
  replace hz₈ : ZipRec h₈ z TI TO (rawInt h₅.objs.size) false := hz₈
  have up : ∀ c o, c ≠ z → h₅.get? c = some o → h₈.get? c = some o := fun c o c1 e => hs₈.extBut _ _ c1 (hs₇.extBut _ _ c1 (Heap.get?_push_of_some _ e))
  have hT₈ : IsPair h₈ h₅.objs.size x y := hs₈.extBut _ _ (Nat.ne_of_gt hzlt) (hs₇.extBut _ _ (Nat.ne_of_gt hzlt) (Heap.get?_push_size _ rfl))
  have hz8 : h₈.objs.size = h₅.objs.size + 1 := by rw [hs₈.1, hs₇.1, Heap.size_push]
  rw [hsz] at hz₈ hT₈ hz8
  refine wpAny_pure ⟨_, rfl, ?_⟩
  show Q (.ref h₅.objs.size) _
  rw [hsz]
  refine hQ h₈ hz₈ ⟨up _ _ D.TIz (hk₅ _ _ D.TIz D.TITO D.TIi1 D.TIi2 hTI), ⟨x, y, up _ _ D.TOz hTO₅⟩, h1₅.at fun o e => up _ o D.i1z e, h2₅.at fun o e => up _ o D.i2z e, ?_, ?_⟩ hT₈ hz8 fun c o c1 c2 c3 c4 e => up c o c1 (hk₅ c o c1 c2 c3 c4 e)
  · exact hl1.at fun o e => up _ o D.l1z (hk₅ _ o D.l1z D.l1TO D.l1i1 D.l1i2 e)
  · exact hl2.at fun o e => up _ o D.l2z (hk₅ _ o D.l2z D.l2TO D.l2i1 D.l2i2 e)

theorem alive_load {M : Model} {a : Addr} {o : Obj} {Q : Option Obj → Shared → Prop} (ho : s.heap.get? a = some o) (h : Q (some o) s) : wpAny M A (loadIfAlive a) Q E s := fun Γ p _ => by
  unfold loadIfAlive
  rw [Sem.wp_loadIfAlive, ho]
  exact h

set_option maxHeartbeats 1000000 in
theorem zipT_busy {z TI TO i1 i2 l1 l2 T0 : Addr} {k : Nat} {f1 : Bool} {xs ys : Array Value} {x y : Value} {oT : Obj} {Q : Value → Shared → Prop} (D : ZipApart z TI TO i1 i2 l1 l2) (hT0 : s.heap.get? T0 = some oT)
    (hz : ZipRec s.heap z TI TO (rawInt T0) f1) (Z : ZipT s.heap z TI TO i1 i2 l1 l2 xs ys k) (hx : xs[k]? = some x) (hy : ys[k]? = some y)
    (hQ : ∀ h', ZipRec h' z TI TO (rawInt T0) true → ZipT h' z TI TO i1 i2 l1 l2 xs ys (k + 1) → IsPair h' s.heap.objs.size x y → h'.objs.size = s.heap.objs.size + 1 →
      (∀ c o, c ≠ z → c ≠ TO → c ≠ i1 → c ≠ i2 → s.heap.get? c = some o → h'.get? c = some o) → Q (.ref s.heap.objs.size) { s with heap := h' }) :
    wpAny (model prog w) A (Builtin.«zip.__next__» ⟨[.ref z], []⟩) (fun fin s' => ∃ v, fin = .done (.ret v) ∧ Q v s') E s := by
  obtain ⟨hTI, ⟨a, b, hTO⟩, h1, h2, hl1, hl2⟩ := Z
  show wpAny _ _ (field (.ref z) 2 >>= _) _ _ _
  refine wpAny_bind (wpAny_field (x := .bool false) hz rfl rfl ?_)
  show wpAny _ _ (field (.ref z) 3 >>= _) _ _ _
  refine wpAny_bind (wpAny_field (x := .ref TI) hz rfl rfl ?_)
  refine wpAny_bind (wpAny_seqItems hTI rfl ?_)
  show wpAny _ _ (Builtin.SmallTypes.ownedTupleIsFree (.ref z) >>= _) _ _ _
  refine wpAny_bind ?_
  have free : ∀ {Q' : Bool → Shared → Prop}, (∀ h₁, ZipRec h₁ z TI TO (rawInt T0) true → Heap.SameBut z s.heap h₁ → Q' false { s with heap := h₁ }) → wpAny (model prog w) A (Builtin.SmallTypes.ownedTupleIsFree (.ref z)) Q' E s := by
    intro Q' hq
    unfold Builtin.SmallTypes.ownedTupleIsFree
    refine wpAny_bind (wpAny_field (x := rawInt T0) hz rfl rfl ?_)
    show wpAny _ _ (loadIfAlive (T0 : Int).toNat >>= _) _ _ _
    rw [Int.toNat_natCast]
    refine wpAny_bind (alive_load hT0 ?_)
    show wpAny _ _ (field (.ref z) 1 >>= _) _ _ _
    refine wpAny_bind (wpAny_field (x := .bool f1) hz rfl rfl ?_)
    cases f1 with
    | true => exact wpAny_pure (hq s.heap hz ⟨rfl, fun _ _ => rfl⟩)
    | false =>
      show wpAny _ _ (setField (.ref z) 1 (.bool true) >>= _) _ _ _
      exact wpAny_bind (wpAny_setField_rec hz (by simp) fun h₁ hz₁ hs₁ => wpAny_pure (hq h₁ hz₁ hs₁))
  refine free fun h₁ hz₁ hs₁ => ?_
  simp only [Bool.false_eq_true, if_false]
  refine wpAny_bind ?_
  simp only [List.forIn_toArray, List.forIn_cons, List.forIn_nil]
  refine wpAny_bind (wpAny_bind (wpAny_holding ?_))
  show wpAny _ _ (Builtin.SmallTypes.nextOf (.ref i1) >>= _) _ _ _
  refine wpAny_bind (nextT_item (h1.extBut hs₁.extBut D.i1z) (hl1.extBut hs₁.extBut D.l1z) hx fun h₂ h1₂ hs₂ => wpAny_pure (wpAny_pure ?_))
  refine wpAny_bind (wpAny_bind (wpAny_holding ?_))
  show wpAny _ _ (Builtin.SmallTypes.nextOf (.ref i2) >>= _) _ _ _
  refine wpAny_bind (nextT_item ((h2.extBut hs₁.extBut D.i2z).extBut hs₂.extBut D.i12.symm) ((hl2.extBut hs₁.extBut D.l2z).extBut hs₂.extBut D.l2i1) hy fun h₄ h2₄ hs₄ => wpAny_pure (wpAny_pure (wpAny_pure ?_)))
  show wpAny _ _ (newTuple [x, y] >>= _) _ _ _
  refine wpAny_bind (wpAny_newTuple ?_)
  have hsz : h₄.objs.size = s.heap.objs.size := by rw [hs₄.1, hs₂.1, hs₁.1]
  have hk₄ : ∀ c o, c ≠ z → c ≠ i1 → c ≠ i2 → s.heap.get? c = some o → h₄.get? c = some o := fun c o c1 c3 c4 e => hs₄.extBut _ _ c4 (hs₂.extBut _ _ c3 (hs₁.extBut _ _ c1 e))
  have hz₄ : ZipRec h₄ z TI TO (rawInt T0) true := hs₄.extBut _ _ D.i2z.symm (hs₂.extBut _ _ D.i1z.symm hz₁)
  have h1₄ : h₄.IsTupleIter i1 l1 (k + 1) := h1₂.extBut hs₄.extBut D.i12
  refine wpAny_pure ⟨_, rfl, ?_⟩
  show Q (.ref h₄.objs.size) _
  have up : ∀ c o, h₄.get? c = some o → (h₄.push { cls := .type "tuple", data := .seq #[x, y] }).get? c = some o := fun c o e => Heap.get?_push_of_some _ e
  have hT₅ : IsPair (h₄.push { cls := .type "tuple", data := .seq #[x, y] }) h₄.objs.size x y := Heap.get?_push_size _ rfl
  have hz5 : (h₄.push { cls := .type "tuple", data := .seq #[x, y] }).objs.size = h₄.objs.size + 1 := Heap.size_push ..
  rw [hsz] at hT₅ hz5 ⊢
  refine hQ _ (up _ _ hz₄) ⟨up _ _ (hk₄ _ _ D.TIz D.TIi1 D.TIi2 hTI), ⟨a, b, up _ _ (hk₄ _ _ D.TOz D.TOi1 D.TOi2 hTO)⟩, h1₄.at fun o e => up _ o e, h2₄.at fun o e => up _ o e, ?_, ?_⟩ hT₅ hz5 fun c o c1 c2 c3 c4 e => up c o (hk₄ c o c1 c3 c4 e)
  · exact hl1.at fun o e => up _ o (hk₄ _ o D.l1z D.l1i1 D.l1i2 e)
  · exact hl2.at fun o e => up _ o (hk₄ _ o D.l2z D.l2i1 D.l2i2 e)

set_option maxHeartbeats 1000000 in
/-- the zip's end, its own tuple out or not -/
theorem zipT_end {z TI TO i1 i2 l1 l2 : Addr} {k : Nat} {f0 : Value} {f1 : Bool} {xs ys : Array Value} {Q : PySem.Fin → Shared → Prop} (hh : A.handled = none) (D : ZipApart z TI TO i1 i2 l1 l2)
    (hf : (f0 = .none ∧ f1 = false) ∨ ∃ (T0 : Addr) (oT : Obj), f0 = rawInt T0 ∧ s.heap.get? T0 = some oT)
    (hz : ZipRec s.heap z TI TO f0 f1) (Z : ZipT s.heap z TI TO i1 i2 l1 l2 xs ys k) (hx : xs[k]? = none)
    (hE : ∀ h' e, (∀ c o, c ≠ z → c ≠ TO → c ≠ i1 → c ≠ i2 → s.heap.get? c = some o → h'.get? c = some o) → (∃ o, h'.get? e = some o ∧ o.cls = .type "StopIteration") → E (.ref e) { s with heap := h' }) :
    wpAny (model prog w) A (Builtin.«zip.__next__» ⟨[.ref z], []⟩) Q E s := by
  obtain ⟨hTI, ⟨a, b, hTO⟩, h1, h2, hl1, hl2⟩ := Z
  show wpAny _ _ (field (.ref z) 2 >>= _) _ _ _
  refine wpAny_bind (wpAny_field (x := .bool false) hz rfl rfl ?_)
  show wpAny _ _ (field (.ref z) 3 >>= _) _ _ _
  refine wpAny_bind (wpAny_field (x := .ref TI) hz rfl rfl ?_)
  refine wpAny_bind (wpAny_seqItems hTI rfl ?_)
  show wpAny _ _ (Builtin.SmallTypes.ownedTupleIsFree (.ref z) >>= _) _ _ _
  refine wpAny_bind ?_
  rcases hf with ⟨rfl, rfl⟩ | ⟨T0, oT, rfl, hT0⟩
  · unfold Builtin.SmallTypes.ownedTupleIsFree
    refine wpAny_bind (wpAny_field (x := .none) hz rfl rfl (wpAny_pure ?_))
    simp only [if_true]
    refine wpAny_bind (wpAny_rule ?_)
    refine wpAny_bind (wpAny_field (x := .ref TO) hz rfl rfl ?_)
    refine wpAny_bind (wpAny_setField_rec hz (by simp) fun h₁ hz₁ hs₁ => ?_)
    replace hz₁ : ZipRec h₁ z TI TO .ellipsis false := hz₁
    refine wpAny_bind ?_
    simp only [List.zipIdx_cons, List.zipIdx_nil, List.forIn_cons, List.forIn_nil]
    refine wpAny_bind (wpAny_bind (wpAny_onRaise ?_))
    show wpAny _ _ (Builtin.SmallTypes.nextOf (.ref i1) >>= _) _ _ _
    refine wpAny_bind (nextT_end hh (h1.extBut hs₁.extBut D.i1z) (hl1.extBut hs₁.extBut D.l1z) hx fun h₂ e hs₂ he => ?_)
    obtain ⟨oe, hoe, hce⟩ := he
    have hz₂ : ZipRec h₂ z TI TO .ellipsis false := hs₂ _ _ D.i1z.symm hz₁
    have hez : e ≠ z := fun x => by subst x; rw [hz₂] at hoe; cases hoe; simp at hce
    exact wpAny_setField_rec hz₂ (by simp) fun h₃ _ hs₃ => hE h₃ e (fun c o c1 _ c3 _ x => hs₃.extBut _ _ c1 (hs₂ _ _ c3 (hs₁.extBut _ _ c1 x))) ⟨oe, hs₃.extBut _ _ hez hoe, hce⟩
  · have free : ∀ {Q' : Bool → Shared → Prop}, (∀ h₁, Heap.SameBut z s.heap h₁ → Q' false { s with heap := h₁ }) → wpAny (model prog w) A (Builtin.SmallTypes.ownedTupleIsFree (.ref z)) Q' E s := by
      intro Q' hq
      unfold Builtin.SmallTypes.ownedTupleIsFree
      refine wpAny_bind (wpAny_field (x := rawInt T0) hz rfl rfl ?_)
      show wpAny _ _ (loadIfAlive (T0 : Int).toNat >>= _) _ _ _
      rw [Int.toNat_natCast]
      refine wpAny_bind (alive_load hT0 ?_)
      show wpAny _ _ (field (.ref z) 1 >>= _) _ _ _
      refine wpAny_bind (wpAny_field (x := .bool f1) hz rfl rfl ?_)
      cases f1 with
      | true => exact wpAny_pure (hq s.heap ⟨rfl, fun _ _ => rfl⟩)
      | false =>
        show wpAny _ _ (setField (.ref z) 1 (.bool true) >>= _) _ _ _
        exact wpAny_bind (wpAny_setField_rec hz (by simp) fun h₁ hz₁ hs₁ => wpAny_pure (hq h₁ hs₁))
    refine free fun h₁ hs₁ => ?_
    simp only [Bool.false_eq_true, if_false]
    refine wpAny_bind ?_
    simp only [List.forIn_toArray, List.forIn_cons, List.forIn_nil]
    refine wpAny_bind (wpAny_bind (wpAny_holding ?_))
    show wpAny _ _ (Builtin.SmallTypes.nextOf (.ref i1) >>= _) _ _ _
    exact wpAny_bind (nextT_end hh (h1.extBut hs₁.extBut D.i1z) (hl1.extBut hs₁.extBut D.l1z) hx fun h₂ e hs₂ he => hE h₂ e (fun c o c1 _ c3 _ x => hs₂ _ _ c3 (hs₁.extBut _ _ c1 x)) he)

theorem zipT_of {h h' : Heap} {z TI TO i1 i2 l1 l2 : Addr} {xs ys : Array Value} {k : Nat} (Z : ZipT h z TI TO i1 i2 l1 l2 xs ys k) (hk : ∀ b ∈ [TI, TO, i1, i2, l1, l2], ∀ o, h.get? b = some o → h'.get? b = some o) : ZipT h' z TI TO i1 i2 l1 l2 xs ys k := by
  obtain ⟨hTI, ⟨a, b, hTO⟩, h1, h2, hl1, hl2⟩ := Z
  exact ⟨hk TI (by simp) _ hTI, ⟨a, b, hk TO (by simp) _ hTO⟩, h1.at fun o e => hk i1 (by simp) o e, h2.at fun o e => hk i2 (by simp) o e, hl1.at fun o e => hk l1 (by simp) o e, hl2.at fun o e => hk l2 (by simp) o e⟩

theorem zip_pyNext {z TI TO : Addr} {f0 : Value} {f1 : Bool} {Q : Option Value → Shared → Prop} (hz : ZipRec s.heap z TI TO f0 f1)
    (h : wpAny (model prog w) A.in1 (Builtin.«zip.__next__» ⟨[.ref z], []⟩) (fun fin s' => ∃ v, fin = .done (.ret v) ∧ Q (some v) s') (fun e s' => (∃ (a : Addr) (o : Obj), e = .ref a ∧ s'.heap.get? a = some o ∧ o.cls = .type "StopIteration") ∧ Q none s') s) :
    wpAny (model prog w) A (pyNext (.ref z)) Q E s := by
  have hT : s.TypeIs (.ref z) "zip" := ⟨_, hz, rfl⟩
  unfold pyNext
  refine wpAny_bind (wpAny_attempt (wpAny_callSpecial?_slot (name := Str.ofString "__next__") hT F.slot_zip_next
    (wpAny_call_entry F.slot_zip_next hT F.entry_zip_next (wpAny_mono h (fun fin s' hq => ?_) fun e s' he => ?_) (F.args_zip_next_1 _))))
  · obtain ⟨v, rfl, hq⟩ := hq
    exact ⟨v, rfl, wpAny_pure hq⟩
  · obtain ⟨⟨a, o, rfl, ho, hc⟩, hq⟩ := he
    exact wpAny_bind (wpAny_isInstance (T := "StopIteration") (b := true) ⟨o, ho, hc⟩ isSubtype_stop (wpAny_pure hq))

/-- a for's turns over a zip of two tuples of one length -/
theorem turnsZip (hh : A.handled = none) {elts : List Expr} {kk : Nat} {pos : Pos} (z TI TO i1 i2 l1 l2 : Addr) (D : ZipApart z TI TO i1 i2 l1 l2) (xs ys : Array Value) (hsz : ys.size = xs.size) :
    KTurns prog w A (.Tuple elts kk pos) z [z, TI, TO, i1, i2, l1, l2] [z, TI, TO, i1, i2] xs.size
      (fun i v h => ∃ T x y, v = .ref T ∧ xs[i]? = some x ∧ ys[i]? = some y ∧ IsPair h T x y)
      (fun i v h => ∃ T x y, v = .ref T ∧ xs[i]? = some x ∧ ys[i]? = some y ∧ IsPair h T x y ∧ ZipRec h z TI TO (rawInt T) false ∧ ZipT h z TI TO i1 i2 l1 l2 xs ys (i + 1) ∧ T ≠ z)
      (fun i h => ZipRec h z TI TO .none false ∧ ZipT h z TI TO i1 i2 l1 l2 xs ys i) where
  sub := fun c hc => by simp at hc ⊢; rcases hc with rfl | rfl | rfl | rfl | rfl <;> simp
  frame := fun i h h' st hk => ⟨hk z (by simp) _ st.1, zipT_of st.2 fun b hb o e => hk b (by simp at hb ⊢; grind) o e⟩
  item := fun i s Q E hi st hQ => by
    have hx : xs[i]? = some xs[i] := Array.getElem?_eq_getElem hi
    have hy : ys[i]? = some (ys[i]'(by omega)) := Array.getElem?_eq_getElem (by omega)
    refine zip_pyNext st.1 (zipT_free D st.1 st.2 hx hy fun h' a1 a2 a3 a4 hk => ?_)
    exact hQ _ h' s.toks ⟨_, _, _, rfl, hx, hy, a3, a1, a2, Nat.ne_of_gt (Heap.lt_size st.1)⟩
      fun c o hc e => hk c o (fun x => hc (by simp [x])) (fun x => hc (by simp [x])) (fun x => hc (by simp [x])) (fun x => hc (by simp [x])) e
  go := fun i v s Q E hm hQ => by
    obtain ⟨T, x, y, rfl, hx, hy, hT, hz, hZ, hTz⟩ := hm
    refine wpAny_letOwnedTupleGo_zip hz fun h' hz' hs' => hQ h' ⟨T, x, y, rfl, hx, hy, hs'.extBut _ _ hTz hT⟩ ⟨hz', zipT_of hZ fun b hb o e => hs'.extBut _ _ ?_ e⟩ fun c o hc e => hs'.extBut _ _ (fun x => hc (by simp [x])) e
    simp at hb
    rcases hb with rfl | rfl | rfl | rfl | rfl | rfl
    · exact D.TIz
    · exact D.TOz
    · exact D.i1z
    · exact D.i2z
    · exact D.l1z
    · exact D.l2z
  done := fun s Q E st hQ => by
    refine zip_pyNext st.1 (zipT_end (by first | exact hh | (show A.in1.handled = none; exact hh)) D (.inl ⟨rfl, rfl⟩) st.1 st.2 (Array.getElem?_eq_none (Nat.le_refl _)) fun h' e hk he => ?_)
    obtain ⟨o, ho, hc⟩ := he
    exact ⟨⟨e, o, rfl, ho, hc⟩, hQ h' s.toks fun c o hc e => hk c o (fun x => hc (by simp [x])) (fun x => hc (by simp [x])) (fun x => hc (by simp [x])) (fun x => hc (by simp [x])) e⟩

theorem meets_zipT_new (l1 l2 : Addr) (xs ys : Array Value) :
    Meets (Builtin.«zip.__new__» ⟨[.type "zip", .ref l1, .ref l2], []⟩) (fun _ R s => s.heap.IsTuple l1 xs ∧ s.heap.IsTuple l2 ys ∧
      R (.ok (.ret (.ref (s.heap.objs.size + 4)))) { s with heap := ((((s.heap.push { cls := .type "tuple_iterator", data := .fields #[.ref l1, .int 0 0] }).push { cls := .type "tuple_iterator", data := .fields #[.ref l2, .int 0 0] }).push { cls := .type "tuple", data := .seq #[.ref s.heap.objs.size, .ref (s.heap.objs.size + 1)] }).push { cls := .type "tuple", data := .seq #[.none, .none] }).push { cls := .type "zip", data := .fields #[.none, .bool false, .bool false, .ref (s.heap.objs.size + 2), .ref (s.heap.objs.size + 3)] } }) :=
  .of_wp fun prog w A R s h => by
    obtain ⟨hp, g, d, tk, os⟩ := s; obtain ⟨hl1, hl2, h⟩ := h
    have hsub := sub_zip
    have hL1 : Heap.IsTuple (Shared.heap ⟨hp, g, d, tk, os⟩) l1 xs := hl1
    have hL2 : Heap.IsTuple (Shared.heap ⟨hp.push { cls := .type "tuple_iterator", data := .fields #[.ref l1, .int 0 0] }, g, d, tk, os⟩) l2 ys := Heap.IsTuple.push hl2 _
    wp_walk using wpAny_pyIter_tuple hL1, wpAny_pyIter_tuple hL2
    simp only [Heap.size_push] at h ⊢
    exact ⟨_, rfl, h⟩
end
end Mine
end

section
open PySem PySem.W PyProof.Rows PySem.Calls PySem.Spec
namespace Mine
set_option maxRecDepth 100000

section
variable {prog : Program} {w : World} {A : Around} {E : Value → Shared → Prop} {s : Shared} {h₀ : Heap} {L : Addr} {m : Str → Option Value} {news : List (Addr × Obj)} {env : Env}

theorem call_zipT {l1 l2 : Addr} {xs ys : Array Value} {Q : Value → Shared → Prop} (hl1 : s.heap.IsTuple l1 xs) (hl2 : s.heap.IsTuple l2 ys)
    (h : ∀ h', ZipRec h' (s.heap.objs.size + 4) (s.heap.objs.size + 2) (s.heap.objs.size + 3) .none false → ZipT h' (s.heap.objs.size + 4) (s.heap.objs.size + 2) (s.heap.objs.size + 3) s.heap.objs.size (s.heap.objs.size + 1) l1 l2 xs ys 0 →
      (∀ c o, s.heap.get? c = some o → h'.get? c = some o) → Q (.ref (s.heap.objs.size + 4)) { s with heap := h' }) :
    wpAny (model prog w) A (call (.type "zip") [.ref l1, .ref l2]) Q E s := by
  refine callType_new F.called_zip (by decide) (F.typeCall_zip_2 _ _) (F.newCall_zip_2 _ _) (fun obj => F.args_object_init_3 obj _ _) F.entry_zip_new
    (meets_zipT_new l1 l2 xs ys) ⟨hl1, hl2, ?_⟩
  generalize e1 : s.heap.push { cls := .type "tuple_iterator", data := .fields #[.ref l1, .int 0 0] } = H1
  generalize e2 : H1.push { cls := .type "tuple_iterator", data := .fields #[.ref l2, .int 0 0] } = H2
  generalize e3 : H2.push { cls := .type "tuple", data := .seq #[.ref s.heap.objs.size, .ref (s.heap.objs.size + 1)] } = H3
  generalize e4 : H3.push { cls := .type "tuple", data := .seq #[.none, .none] } = H4
  generalize e5 : H4.push { cls := .type "zip", data := .fields #[.none, .bool false, .bool false, .ref (s.heap.objs.size + 2), .ref (s.heap.objs.size + 3)] } = H5
  have z1 : H1.objs.size = s.heap.objs.size + 1 := by rw [← e1, Heap.size_push]
  have z2 : H2.objs.size = s.heap.objs.size + 2 := by rw [← e2, Heap.size_push, z1]
  have z3 : H3.objs.size = s.heap.objs.size + 3 := by rw [← e3, Heap.size_push, z2]
  have z4 : H4.objs.size = s.heap.objs.size + 4 := by rw [← e4, Heap.size_push, z3]
  have u1 : ∀ c o, s.heap.get? c = some o → H1.get? c = some o := fun c o e => by rw [← e1]; exact Heap.get?_push_of_some _ e
  have u2 : ∀ c o, H1.get? c = some o → H2.get? c = some o := fun c o e => by rw [← e2]; exact Heap.get?_push_of_some _ e
  have u3 : ∀ c o, H2.get? c = some o → H3.get? c = some o := fun c o e => by rw [← e3]; exact Heap.get?_push_of_some _ e
  have u4 : ∀ c o, H3.get? c = some o → H4.get? c = some o := fun c o e => by rw [← e4]; exact Heap.get?_push_of_some _ e
  have u5 : ∀ c o, H4.get? c = some o → H5.get? c = some o := fun c o e => by rw [← e5]; exact Heap.get?_push_of_some _ e
  have g1 : H1.get? s.heap.objs.size = some { cls := .type "tuple_iterator", data := .fields #[.ref l1, .int 0 0] } := by rw [← e1]; exact Heap.get?_push_size _ rfl
  have g2 : H2.get? (s.heap.objs.size + 1) = some { cls := .type "tuple_iterator", data := .fields #[.ref l2, .int 0 0] } := by rw [← e2, ← z1]; exact Heap.get?_push_size _ rfl
  have g3 : H3.get? (s.heap.objs.size + 2) = some { cls := .type "tuple", data := .seq #[.ref s.heap.objs.size, .ref (s.heap.objs.size + 1)] } := by rw [← e3, ← z2]; exact Heap.get?_push_size _ rfl
  have g4 : H4.get? (s.heap.objs.size + 3) = some { cls := .type "tuple", data := .seq #[.none, .none] } := by rw [← e4, ← z3]; exact Heap.get?_push_size _ rfl
  have g5 : H5.get? (s.heap.objs.size + 4) = some { cls := .type "zip", data := .fields #[.none, .bool false, .bool false, .ref (s.heap.objs.size + 2), .ref (s.heap.objs.size + 3)] } := by rw [← e5, ← z4]; exact Heap.get?_push_size _ rfl
  have keep : ∀ c o, s.heap.get? c = some o → H5.get? c = some o := fun c o e => u5 _ _ (u4 _ _ (u3 _ _ (u2 _ _ (u1 _ _ e))))
  refine ⟨⟨_, g5, rfl⟩, h H5 g5 ⟨u5 _ _ (u4 _ _ g3), ⟨_, _, u5 _ _ g4⟩, ⟨_, u5 _ _ (u4 _ _ (u3 _ _ (u2 _ _ g1))), rfl, rfl⟩, ⟨_, u5 _ _ (u4 _ _ (u3 _ _ g2)), rfl, rfl⟩, hl1.at fun o e => keep _ o e, hl2.at fun o e => keep _ o e⟩ keep⟩

theorem apart_of (n l1 l2 : Nat) (h1 : l1 < n) (h2 : l2 < n) : ZipApart (n + 4) (n + 2) (n + 3) n (n + 1) l1 l2 := by
  constructor <;> (refine neN ?_; omega)

/-- a pair goes into two names of the frame -/
theorem assign_pair {x y : Str} {px py pos : Pos} {kk : Nat} {T : Addr} {a b : Value} {Q : Unit → Shared → Prop} (hh : A.handled = none) (F : Fr h₀ env.locals s.heap m) (N : News h₀ env.locals s.heap news) (hT : IsPair s.heap T a b)
    (hx : env.kindOf x = some .local) (hy : env.kindOf y = some .local) (hp : (env.scope.kind == .class || (env.scope.kind == .module && env.locals != env.globals)) = false)
    (h : ∀ h' tk, Fr h₀ env.locals h' (fun z => if z = y then some b else if z = x then some a else m z) → News h₀ env.locals h' news → (∀ c o, c ≠ env.locals → s.heap.get? c = some o → h'.get? c = some o) → Q () { s with heap := h', toks := tk }) :
    wpAny (model prog w) A (assign (.Tuple [.Name x px, .Name y py] kk pos) env (.ref T)) Q E s := by
  have ht : IsTup s.heap T #[a, b] := ⟨_, hT, rfl, _, rfl⟩
  refine assign_Tuple_tuple hh ht rfl rfl fun h₅ he => ?_
  have up : ∀ c o, s.heap.get? c = some o → h₅.get? c = some o := fun c o e => he c o (Nat.ne_of_lt (Heap.lt_size e)) e
  refine assignInOrder_cons (wpAny_assign_Name (wpAny_storeName_local hx (F.ns.at' fun o e => up _ o e) (fun h₆ hn₆ hs₆ => ?_) hp))
  refine assignInOrder_cons (wpAny_assign_Name (wpAny_storeName_local hy hn₆ (fun h₇ hn₇ hs₇ => ?_) hp))
  refine assignInOrder_nil ?_
  have F₅ := F.keeps up
  have F₆ := F₅.set hn₆ hs₆
  have F₇ := F₆.set hn₇ hs₇
  exact h h₇ _ F₇ (((N.grown up).set hs₆).set hs₇) fun c o hc e => hs₇.extBut _ _ hc (hs₆.extBut _ _ hc (up _ _ e))

/-- a for over a zip of two tuples of the ledger, two names its target -/
theorem for_zip {body : List Stmt} {Q : Flow → Shared → Prop} {x y : Str} {px py pos : Pos} {kk : Nat} {l1 l2 : Addr} {us vs : List Value} {n1 n2 : Nat} {m₀ : Str → Option Value} (J : Nat → (Str → Option Value) → List (Addr × Obj) → Prop)
    (hh : A.handled = none) (hl1 : (l1, tupOb us n1) ∈ news) (hl2 : (l2, tupOb vs n2) ∈ news) (hlen : vs.length = us.length) (F : Fr h₀ env.locals s.heap m₀) (N : News h₀ env.locals s.heap news) (hj : J 0 m₀ news)
    (hx : env.kindOf x = some .local) (hy : env.kindOf y = some .local) (hp : (env.scope.kind == .class || (env.scope.kind == .module && env.locals != env.globals)) = false)
    (turn : ∀ i a b m₁ nx own g0 t0 h tk, us[i]? = some a → vs[i]? = some b → OwnOff own (nx.map (·.1)) → (l1, tupOb us n1) ∈ nx → (l2, tupOb vs n2) ∈ nx → J i m₁ nx → Fr h₀ env.locals h (fun z => if z = y then some b else if z = x then some a else m₁ z) → News h₀ env.locals h (nx ++ own) →
      wpAny (model prog w) A (execs body env) (InvPostG h₀ env.locals (fun m' nx' => (∀ q ∈ [(l1, tupOb us n1), (l2, tupOb vs n2)], q ∈ nx') ∧ J (i + 1) m' nx') own { s with heap := g0, toks := t0 } Q) E { s with heap := h, toks := tk })
    (done : ∀ m₁ nx h tk, J us.length m₁ nx → (l1, tupOb us n1) ∈ nx → (l2, tupOb vs n2) ∈ nx → Fr h₀ env.locals h m₁ → News h₀ env.locals h nx → Q .next { s with heap := h, toks := tk }) :
    wpAny (model prog w) A (call (.type "zip") [.ref l1, .ref l2]) (fun xv s₁ => wpAny (model prog w) A (pyIter xv) (fun it s₂ => TurnsAt prog w A h₀ env (.Tuple [.Name x px, .Name y py] kk pos) body Q E it s₂) E s₁) E s := by
  have g1 := (N _ hl1).1
  have g2 := (N _ hl2).1
  have lt1 : (l1 : Nat) < s.heap.objs.size := Heap.lt_size g1
  have lt2 : (l2 : Nat) < s.heap.objs.size := Heap.lt_size g2
  have hs1 : us.toArray.size = us.length := by simp
  refine call_zipT (xs := us.toArray) (ys := vs.toArray) ⟨_, g1, rfl, _, rfl⟩ ⟨_, g2, rfl, _, rfl⟩ fun h' hz hZ keep => ?_
  refine wpAny_pyIter_zip hz ?_
  have D := apart_of s.heap.objs.size l1 l2 lt1 lt2
  have nw : ∀ b ∈ ([s.heap.objs.size + 4, s.heap.objs.size + 2, s.heap.objs.size + 3, s.heap.objs.size, s.heap.objs.size + 1] : List Nat), s.heap.objs.size ≤ b := by
    intro b hb
    simp at hb
    rcases hb with rfl | rfl | rfl | rfl | rfl <;> omega
  have F' : Fr h₀ env.locals h' m₀ := F.keeps keep
  have N' : News h₀ env.locals h' news := N.grown keep
  have hLlt : (env.locals : Nat) < s.heap.objs.size := F.ns.lt
  refine turns_core (s := { s with heap := h' }) (keep := [(l1, tupOb us n1), (l2, tupOb vs n2)]) J (turnsZip hh (s.heap.objs.size + 4) (s.heap.objs.size + 2) (s.heap.objs.size + 3) s.heap.objs.size (s.heap.objs.size + 1) l1 l2 D us.toArray vs.toArray (by simp [hlen]))
    ?_ ?_ ?_ ?_ ?_ ?_ ⟨hz, hZ⟩ F' N' hj ?_ ?_
  · intro i h st b hb
    obtain ⟨hz, hTI, ⟨_, _, hTO⟩, ⟨_, q1, _⟩, ⟨_, q2, _⟩, _, _⟩ := st
    simp at hb
    rcases hb with rfl | rfl | rfl | rfl | rfl
    · exact ⟨_, hz⟩
    · exact ⟨_, hTI⟩
    · exact ⟨_, hTO⟩
    · exact ⟨_, q1⟩
    · exact ⟨_, q2⟩
  · intro hm
    rcases List.mem_append (s := [s.heap.objs.size + 4, s.heap.objs.size + 2, s.heap.objs.size + 3, s.heap.objs.size, s.heap.objs.size + 1]) (t := [l1, l2]) |>.mp hm with hm | hm
    · exact absurd hLlt (Nat.not_lt.mpr (nw _ hm))
    · rcases List.mem_cons.mp hm with e | hm
      · exact (N _ hl1).2.1 e.symm
      · exact (N _ hl2).2.1 (List.mem_singleton.mp hm).symm
  · intro b hb
    cases e : h₀.get? b with
    | none => rfl
    | some o => exact absurd (Heap.lt_size (F.keep b o e)) (Nat.not_lt.mpr (nw b hb))
  · intro q hq hm
    exact absurd (Heap.lt_size (N q hq).1) (Nat.not_lt.mpr (nw _ hm))
  · intro q hq
    simp at hq
    rcases hq with rfl | rfl
    · exact hl1
    · exact hl2
  · intro b hb
    rcases List.mem_append (s := [s.heap.objs.size + 4, s.heap.objs.size + 2, s.heap.objs.size + 3, s.heap.objs.size, s.heap.objs.size + 1]) (t := [l1, l2]) |>.mp hb with hb | hb
    · exact .inl hb
    · rcases List.mem_cons.mp hb with e | hb
      · exact .inr ⟨_, by rw [e]; exact List.mem_cons_self⟩
      · exact .inr ⟨_, by rw [List.mem_singleton.mp hb]; exact List.mem_cons_of_mem _ List.mem_cons_self⟩
  · intro i v m₁ nx own h tk hi hP hoff hk hJ F₁ N₁
    obtain ⟨T, a, b, rfl, ha, hb, hT⟩ := hP
    refine assign_pair hh F₁ N₁ hT hx hy hp fun h₂ tk₂ F₂ N₂ _ => ?_
    exact turn i a b m₁ nx own h tk h₂ tk₂ (by simpa using ha) (by simpa using hb) hoff (hk _ (by simp)) (hk _ (by simp)) hJ F₂ N₂
  · intro m₁ nx h tk hJ hk F₁ N₁
    rw [hs1] at hJ
    exact done m₁ nx h tk hJ (hk _ (by simp)) (hk _ (by simp)) F₁ N₁
end
end Mine
end

section
open PySem PySem.W PyProof.Rows PySem.Calls PySem.Spec
namespace Mine
set_option maxRecDepth 100000

section
variable {prog : Program} {w : World} {A : Around} {E : Value → Shared → Prop} {s : Shared} {h₀ : Heap} {L : Addr} {m : Str → Option Value} {news rest : List (Addr × Obj)} {D : Addr} {us : List Value} {v v' : Value} {n : Nat} {k : Int} {u : Tok}

/-- the last item of a list -/
theorem last_sub {value slice : PySem.Expr} {Q : Value → Shared → Prop} (N : News h₀ L s.heap news) (hm : (D, listOf (us ++ [v]).toArray n) ∈ news) (hk : k = -1) (h : Q v s)
    (hs : subscripted slice false (.ref D) (.int k u) = operate [.ref D, .int k u] (getItem (.ref D) (.int k u)) := by with_unfolding_all rfl) (hg : ∀ r, letTemporaryGo value (.ref D) r = pure () := by intro _; with_unfolding_all rfl) :
    wpAny (model prog w) A (subscriptTail value slice (.ref D) (.int k u)) Q E s := by
  refine kim_back N hm rfl rfl (by omega) ?_ (by omega) ?_ h hs hg
  · rw [List.length_append, List.length_singleton]; omega
  · rw [List.length_append, List.length_singleton, show (k + ((us.length + 1 : Nat) : Int)).toNat = us.length by omega]
    simp

theorem setL_last : ∀ us : List Value, ki_setL (us ++ [v]) us.length v' = some (us ++ [v'])
  | [] => rfl
  | a :: r => by
    have := setL_last r
    simp only [List.cons_append, List.length_cons, ki_setL, this]

/-- the last item of a list is set -/
theorem last_set {Q : Unit → Shared → Prop} (F : Fr h₀ L s.heap m) (N : News h₀ L s.heap ((D, listOf (us ++ [v]).toArray n) :: rest)) (hr : ∀ p ∈ rest, p.1 ≠ D) (hk : k = -1)
    (h : ∀ h', Fr h₀ L h' m → News h₀ L h' ((D, listOf (us ++ [v']).toArray n) :: rest) → Q () { s with heap := h' }) : wpAny (model prog w) A (setItem (.ref D) (.int k u) v') Q E s := by
  subst hk
  refine ki_setNeg (j := us.length) (q := us ++ [v']) F N (by decide) (by decide) ?_ (setL_last us) (Upd.head hr) h
  have : seqIndex? (-1) (us ++ [v]).toArray.size = some ((-1 : Int) + ((us ++ [v]).toArray.size : Nat)).toNat := PySem.seqIndex_neg (by decide) (by simp; omega)
  rw [this]
  simp
  omega

/-- append to the ledger's head -/
theorem app_head {Q : Value → Shared → Prop} (F : Fr h₀ L s.heap m) (N : News h₀ L s.heap ((D, listOf us.toArray n) :: rest)) (hr : ∀ p ∈ rest, p.1 ≠ D) (hz : us.length ≤ 10000000)
    (h : ∀ h', Fr h₀ L h' m → News h₀ L h' ((D, listOf (us ++ [v]).toArray (n + 1)) :: rest) → Q .none { s with heap := h' }) : wpAny (model prog w) A (call (.builtin "list.append") [.ref D, v]) Q E s := by
  refine append_K F N (Upd.head hr) (fun h' F' N' => h h' F' ?_) (by rw [sizeLine_eq, List.size_toArray]; omega)
  rw [List.push_toArray] at N'
  exact N'

/-- the truth of a list -/
theorem truthy_lst {Q : Bool → Shared → Prop} (N : News h₀ L s.heap news) (hm : (D, listOf us.toArray n) ∈ news) (hz : us.length ≤ 10000000) (h : ∀ tk, Q (!us.isEmpty) { s with toks := tk }) : wpAny (model prog w) A (truthy (.ref D)) Q E s :=
  kgr_truthy N hm rfl rfl (by omega) (h _)

theorem last_setU {news' : List (Addr × Obj)} {Q : Unit → Shared → Prop} (F : Fr h₀ L s.heap m) (N : News h₀ L s.heap news) (U : Upd D (listOf (us ++ [v]).toArray n) (listOf (us ++ [v']).toArray n) news news') (hk : k = -1)
    (h : ∀ h', Fr h₀ L h' m → News h₀ L h' news' → Q () { s with heap := h' }) : wpAny (model prog w) A (setItem (.ref D) (.int k u) v') Q E s := by
  subst hk
  refine ki_setNeg (j := us.length) (q := us ++ [v']) F N (by decide) (by decide) ?_ (setL_last us) U h
  have : seqIndex? (-1) (us ++ [v]).toArray.size = some ((-1 : Int) + ((us ++ [v]).toArray.size : Nat)).toNat := PySem.seqIndex_neg (by decide) (by simp; omega)
  rw [this]
  simp
  omega
theorem app_U {news' : List (Addr × Obj)} {Q : Value → Shared → Prop} (F : Fr h₀ L s.heap m) (N : News h₀ L s.heap news) (U : Upd D (listOf us.toArray n) (listOf (us ++ [v]).toArray (n + 1)) news news') (hz : us.length ≤ 10000000)
    (h : ∀ h', Fr h₀ L h' m → News h₀ L h' news' → Q .none { s with heap := h' }) : wpAny (model prog w) A (call (.builtin "list.append") [.ref D, v]) Q E s := by
  have U' : Upd D (listOf us.toArray n) (listOf (us.toArray.push v) (n + 1)) news news' := by rw [List.push_toArray]; exact U
  exact append_K F N U' h (by rw [sizeLine_eq, List.size_toArray]; omega)
theorem truthy_nil {Q : Bool → Shared → Prop} (N : News h₀ L s.heap news) (hm : (D, listOf #[] n) ∈ news) (h : ∀ tk, Q false { s with toks := tk }) : wpAny (model prog w) A (truthy (.ref D)) Q E s :=
  kgr_truthy (vs := []) N hm rfl rfl (by decide) (h _)
theorem truthy_snoc {Q : Bool → Shared → Prop} (N : News h₀ L s.heap news) (hm : (D, listOf (us ++ [v]).toArray n) ∈ news) (hz : us.length ≤ 10000000) (h : ∀ tk, Q true { s with toks := tk }) : wpAny (model prog w) A (truthy (.ref D)) Q E s := by
  refine kgr_truthy N hm rfl rfl (by rw [List.length_append, List.length_singleton]; omega) ?_
  have : (!(us ++ [v]).isEmpty) = true := by simp
  rw [this]
  exact h _
/-- an item of a tuple, whatever stands ahead of the bracket -/
theorem item_tup {value slice : PySem.Expr} {Q : Value → Shared → Prop} {a : Addr} {l : List Value} {x : Value} {j : Nat} (N : News h₀ L s.heap news) (hm : (a, tupOb l n) ∈ news) (hlo : -(2 ^ 63) ≤ k) (hhi : k < 2 ^ 63) (hj : seqIndex? k l.length = some j) (hx : l[j]? = some x) (h : Q x s)
    (hs : subscripted slice false (.ref a) (.int k u) = operate [.ref a, .int k u] (getItem (.ref a) (.int k u)) := by with_unfolding_all rfl) :
    wpAny (model prog w) A (subscriptTail value slice (.ref a) (.int k u)) Q E s :=
  kba_turn (value' := PySem.Expr.Name (PySem.Str.ofString "_") ⟨0, 0, 0, 0⟩) (fun _ => rfl) (kim_tup N hm rfl rfl hlo hhi hj hx h hs (fun _ => rfl))
theorem truthy_tup {Q : Bool → Shared → Prop} {a : Addr} (N : News h₀ L s.heap news) (hm : (a, tupOb (v :: us) 0) ∈ news) (hz : us.length ≤ 1000000) (h : ∀ tk, Q true { s with toks := tk }) : wpAny (model prog w) A (truthy (.ref a)) Q E s :=
  ktl_truthy (N _ hm).1 (by rw [List.size_toArray, List.length_cons]; omega) (h _)
theorem len_tup {Q : Value → Shared → Prop} {a : Addr} {K : Nat} (N : News h₀ L s.heap news) (hm : (a, tupOb us 0) ∈ news) (hK : us.length = K) (hz : K ≤ 1000000) (h : ∀ tk tk', Q (.int (K : Int) tk) { s with toks := tk' }) : wpAny (model prog w) A (call (.builtin "len") [.ref a]) Q E s := by
  subst hK
  refine PySem.P.len_tuple (N _ hm).1 (by rw [List.size_toArray]; omega) ?_
  rw [List.size_toArray]
  exact h _ _
end
end Mine
end

section
open PySem PySem.W PyProof.Rows PySem.Calls PySem.Spec
namespace Mine
set_option maxRecDepth 100000

theorem adjust_upto (b n : Nat) (hb : b ≤ n) : Builtin.Slice.sliceAdjust none (some (b : Int)) 1 (n : Int) = (0, (b : Int)) := by
  unfold Builtin.Slice.sliceAdjust
  have h1 : ¬ ((1 : Int) < 0) := by omega
  have h2 : ¬ ((b : Int) < 0) := by omega
  simp only [h1, h2, if_false]
  congr 1
  omega
theorem places_upto (b : Nat) : Builtin.Slice.slicePlaces 0 (b : Int) 1 = b := by
  unfold Builtin.Slice.slicePlaces
  have h1 : (1 : Int) > 0 := by omega
  simp only [h1, if_true, Int.ediv_one]
  split <;> omega
theorem pick_upto (xs : Array Value) (b : Nat) : ((List.range b).filterMap fun (k : Nat) => xs[((0 : Int) + (k : Int) * 1).toNat]?).toArray = (xs.toList.take b).toArray := by
  have e : (fun (k : Nat) => xs[((0 : Int) + (k : Int) * 1).toNat]?) = fun k => xs[0 + k]? := by
    funext k
    have : ((0 : Int) + (k : Int) * 1).toNat = 0 + k := by omega
    rw [this]
  rw [e]
  have := pick_run xs 0 b
  rw [List.filterMap_map] at this
  have e2 : ((fun x => xs[x]?) ∘ fun x => 0 + x) = fun k => xs[0 + k]? := rfl
  rw [e2] at this
  rw [this, List.drop_zero]

theorem off1_mem {D : Addr} : ∀ {l : List (Addr × Obj)}, LCg.Off1 D l → ∀ p ∈ l, p.1 ≠ D
  | [], _, _, h => nomatch h
  | _ :: _, x, p, h => by
    rcases List.mem_cons.mp h with rfl | h
    · exact x.1
    · exact off1_mem x.2 p h

section
variable {prog : Program} {w : World} {A : Around} {E : Value → Shared → Prop} {s : Shared} {h₀ : Heap} {L : Addr} {m : Str → Option Value} {news : List (Addr × Obj)}

theorem sliceApplied_upto {sl : Addr} {b n : Nat} {u : Tok} {Q : Int × Int × Nat → Shared → Prop} (hs : s.heap.IsSliceOf sl .none (.int b u) .none) (hb : b ≤ n) (h : Q (0, 1, b) s) :
    wpAny (model prog w) A (Builtin.Slice.sliceApplied (.ref sl) (pure (n : Int))) Q E s := by
  obtain ⟨os, hos, hcs, hds⟩ := id hs
  unfold Builtin.Slice.sliceApplied Builtin.Slice.sliceFields
  refine wpAny_bind (wpAny_bind (wpAny_field hos hds (x := .none) rfl (wpAny_bind (wpAny_field hos hds (x := .int b u) rfl (wpAny_bind (wpAny_field hos hds (x := .none) rfl (wpAny_pure ?_)))))))
  refine wpAny_bind (slicePart_none ?_)
  show wpAny _ _ (if ((1 : Int) == 0) = true then _ else _) _ _ s
  rw [if_neg (by decide)]
  refine wpAny_bind (slicePart_none (wpAny_bind (slicePart_int (wpAny_bind (wpAny_pure ?_)))))
  show wpAny _ _ (match Builtin.Slice.sliceAdjust none (some (b : Int)) 1 (n : Int) with | (lo, hi) => pure (lo, (1 : Int), Builtin.Slice.slicePlaces lo hi 1)) _ _ s
  rw [adjust_upto b n hb]
  show wpAny _ _ (pure ((0 : Int), (1 : Int), Builtin.Slice.slicePlaces 0 (b : Int) 1)) _ _ s
  rw [places_upto b]
  exact wpAny_pure h

theorem getItem_tuple_upto {t sl : Addr} {items : Array Value} {b : Nat} {u : Tok} {Q : Value → Shared → Prop} (ht : IsTup s.heap t items) (hs : s.heap.IsSliceOf sl .none (.int b u) .none) (hb : b < items.size)
    (h : Q (.ref s.heap.objs.size) { s with heap := s.heap.push { cls := .type "tuple", data := .seq (items.toList.take b).toArray } })
    (hsz : items.size ≤ sizeLine) : wpAny (model prog w) A (getItem (.ref t) (.ref sl)) Q E s := by
  have hdrop : sizeOk (.seq (items.toList.take b).toArray) := by
    show (items.toList.take b).toArray.size ≤ sizeLine
    rw [List.size_toArray, List.length_take, Array.length_toList]
    omega
  obtain ⟨os, hos, hcs, hds⟩ := id hs
  have hTs : s.TypeIs (.ref sl) "slice" := ⟨os, hos, hcs⟩
  unfold getItem
  try with_reducible refine wpAny_holding ?_
  first | refine wpAny_bind (wpAny_pure ?_) | skip
  refine wpAny_bind (wpAny_sequenceKey ht.typeIs (by decide) ?_)
  refine wpAny_bind (wpAny_callSpecial?_slot (name := Str.ofString "__getitem__") ht.typeIs slot_tuple_getitem
    (wpAny_call_entry slot_tuple_getitem ht.typeIs entry_tuple_getitem ?_ (args_tuple_getitem _ _)))
  show wpAny _ _ (Builtin.Tuple.tupleItemsOf (.ref t) >>= _) _ _ s
  refine wpAny_bind (tupleItemsOf_ ht ?_)
  refine wpAny_bind (wpAny_typeOf hTs ?_)
  rw [if_pos (by decide)]
  refine wpAny_bind (sliceApplied_upto hs (Nat.le_of_lt hb) ?_)
  have hno : ¬ (((0 : Int) == 0 && (1 : Int) == 1 && b == items.size) = true) := by
    have : (b == items.size) = false := by rw [beq_eq_false_iff_ne]; omega
    rw [this]; simp
  show wpAny _ _ (if ((0 : Int) == 0 && (1 : Int) == 1 && b == items.size) = true then _ else _) _ _ s
  rw [if_neg hno, pick_upto items b]
  first
    | exact wpAny_bind (m := Builtin.Tuple.tupleExact _) (wpAny_newObj_type (wpAny_pure ⟨_, rfl, wpAny_pure h⟩) hdrop)
    | exact wpAny_bind (m := Builtin.Tuple.tupleExact _) (wpAny_newObj_type (wpAny_bind (wpAny_pure (wpAny_pure ⟨_, rfl, wpAny_pure h⟩))) hdrop)
    | exact wpAny_bind (wpAny_bind (m := Builtin.Tuple.tupleExact _) (wpAny_newObj_type (wpAny_pure (wpAny_pure ⟨_, rfl, wpAny_pure h⟩)) hdrop))
    | exact wpAny_bind (wpAny_bind (m := Builtin.Tuple.tupleExact _) (wpAny_newObj_type (wpAny_pure ⟨_, rfl, wpAny_pure h⟩) hdrop))

/-- t[k:] of a tuple of the ledger -/
theorem from_tup {value slice : PySem.Expr} {t : Addr} {us : List Value} {n : Nat} {k : Int} {j : Nat} {u : Tok} {Q : Value → Shared → Prop}
    (F : Fr h₀ L s.heap m) (N : News h₀ L s.heap news) (hm : (t, tupOb us n) ∈ news) (hk : k = (j : Int)) (h1 : 1 ≤ j) (h2 : j ≤ us.length) (hz : us.length ≤ 10000)
    (h : ∀ D h', Fr h₀ L h' m → News h₀ L h' ((D, tupOb (us.drop j) 0) :: news) → AllLt D news → Q (.ref D) { s with heap := h' })
    (hs : subscripted slice false (.ref t) (.ref s.heap.objs.size) = operate [.ref s.heap.objs.size, .ref t] (getItem (.ref t) (.ref s.heap.objs.size)) := by with_unfolding_all rfl)
    (hg : ∀ r, letTemporaryGo value (.ref t) r = pure () := by intro _; with_unfolding_all rfl) :
    wpAny (model prog w) A (subscriptTail value slice (.ref t) (.ref s.heap.objs.size)) Q E { s with heap := s.heap.push { cls := .type "slice", data := .fields #[.int k u, .none, .none] } } := by
  subst hk
  have ht : IsTup s.heap t us.toArray := ⟨_, (N _ hm).1, rfl, _, rfl⟩
  refine slice_tuple_from F N ht h1 (by rw [List.size_toArray]; exact h2) (fun h' F' N' => ?_) hs hg (by rw [sizeLine_eq, List.size_toArray]; omega)
  exact h _ h' F' N' (allLt_of fun p hp => Nat.lt_succ_of_lt (Heap.lt_size (N p hp).1))

/-- t[:k] of a tuple of the ledger -/
theorem upto_tup {value slice : PySem.Expr} {t : Addr} {us : List Value} {n : Nat} {k : Int} {j : Nat} {u : Tok} {Q : Value → Shared → Prop}
    (F : Fr h₀ L s.heap m) (N : News h₀ L s.heap news) (hm : (t, tupOb us n) ∈ news) (hk : k = (j : Int)) (h2 : j < us.length) (hz : us.length ≤ 10000)
    (h : ∀ D h', Fr h₀ L h' m → News h₀ L h' ((D, tupOb (us.take j) 0) :: news) → AllLt D news → Q (.ref D) { s with heap := h' })
    (hs : subscripted slice false (.ref t) (.ref s.heap.objs.size) = operate [.ref s.heap.objs.size, .ref t] (getItem (.ref t) (.ref s.heap.objs.size)) := by with_unfolding_all rfl)
    (hg : ∀ r, letTemporaryGo value (.ref t) r = pure () := by intro _; with_unfolding_all rfl) :
    wpAny (model prog w) A (subscriptTail value slice (.ref t) (.ref s.heap.objs.size)) Q E { s with heap := s.heap.push { cls := .type "slice", data := .fields #[.none, .int k u, .none] } } := by
  subst hk
  have ht : IsTup s.heap t us.toArray := ⟨_, (N _ hm).1, rfl, _, rfl⟩
  have ht' : IsTup (s.heap.push { cls := .type "slice", data := .fields #[.none, .int j u, .none] }) t us.toArray := ht.keeps fun _ _ e => Heap.get?_push_of_some _ e
  refine subscriptTail_ops (s := { s with heap := s.heap.push { cls := .type "slice", data := .fields #[.none, .int j u, .none] } }) ht'.typeIs slot_tuple_getitem.lookup
    (getItem_tuple_upto ht' (Heap.IsSliceOf.new ..) (by rw [List.size_toArray]; exact h2) ?_ (by rw [sizeLine_eq, List.size_toArray]; omega)) hs hg
  have N1 := News.push (F.push { cls := .type "slice", data := .fields #[.none, .int j u, .none] }) (N.grown fun _ _ e => Heap.get?_push_of_some _ e) { cls := .type "tuple", data := .seq (us.toArray.toList.take j).toArray }
  rw [Heap.size_push] at N1
  show Q (.ref (s.heap.push _).objs.size) _
  rw [Heap.size_push]
  exact h _ _ ((F.push _).push _) N1 (allLt_of fun p hp => Nat.lt_succ_of_lt (Heap.lt_size (N p hp).1))

/-- the first item of a tuple whose tail is not known -/
theorem item0 {value slice : PySem.Expr} {a : Addr} {v : Value} {us : List Value} {n : Nat} {u : Tok} {Q : Value → Shared → Prop} (N : News h₀ L s.heap news) (hm : (a, tupOb (v :: us) n) ∈ news) (h : Q v s)
    (hs : subscripted slice false (.ref a) (.int 0 u) = operate [.ref a, .int 0 u] (getItem (.ref a) (.int 0 u)) := by with_unfolding_all rfl) :
    wpAny (model prog w) A (subscriptTail value slice (.ref a) (.int 0 u)) Q E s :=
  item_tup N hm (by decide) (by decide) (j := 0) (by simp [seqIndex?]) rfl h hs
theorem callWith_type_kwB {M : Model} {pos : Pos} {T : String} {first : List Value} {args : List (Bool × Sem Value)} {keywords : List (Option Str × Sem Value)} {Q : Value → Shared → Prop}
    (hplain : args.any (·.1) = false) (hkw : keywords.any (·.1.isNone) = false)
    (h : wpAny M A (evalArgs (.type T) true args keywords) (fun a s₁ => wpAny M A (call (.type T) (first ++ a.pos) a.kw) Q E s₁) E s) :
    wpAny M A (callWith pos (.type T) first args keywords) Q E s := by
  unfold callWith
  refine wpAny_bind (wpAny_holding (wpAny_mono h (fun a s₁ h₁ => wpAny_bind (wpAny_standAt ?_)) fun _ _ x => x))
  simp only [hplain, hkw, Bool.or_false]
  refine wpAny_bind (wpAny_pure ?_)
  exact wpAny_bind (wpAny_mono h₁ (fun r s₂ hr => wpAny_bind (wpAny_holding (wpAny_point (wpAny_pure hr)))) fun _ _ x => x)
theorem callWith_type_kw {M : Model} {env : Env} {pos : Pos} {T : String} {e : PySem.Expr} {rest : List PySem.Expr} {kws : List Keyword} {Q : Value → Shared → Prop}
    (h : wpAny M A (spliced (backTo pos (starEach (e :: rest) env))) (fun vs s₁ => wpAny M A (evalAll ((backToKw pos (keywordEach kws env)).map (·.2)))
      (fun kvs s₂ => wpAny M A (call (.type T) vs (((backToKw pos (keywordEach kws env)).filterMap (·.1)).zip kvs)) Q E s₂) E s₁) E s)
    (he : backTo pos (starEach (e :: rest) env) = (false, eval e env) :: backTo pos (starEach rest env) := by rfl)
    (hplain : (backTo pos (starEach (e :: rest) env)).any (·.1) = false := by rfl)
    (hall : (backToKw pos (keywordEach kws env)).all (·.1.isSome) = true := by rfl)
    (hkw : (backToKw pos (keywordEach kws env)).any (·.1.isNone) = false := by rfl) :
    wpAny M A (callWith pos (.type T) [] (backTo pos (starEach (e :: rest) env)) (backToKw pos (keywordEach kws env))) Q E s := by
  refine callWith_type_kwB hplain hkw ?_
  rw [he] at h ⊢
  exact evalArgs_kwB hall h

theorem isTup_of {h : Heap} {a : Addr} {us : List Value} {n : Nat} (N : News h₀ L h news) (hm : (a, tupOb us n) ∈ news) : IsTup h a us.toArray := ⟨_, (N _ hm).1, rfl, _, rfl⟩
theorem isList_of {h : Heap} {a : Addr} {us : List Value} {n : Nat} (N : News h₀ L h news) (hm : (a, listOf us.toArray n) ∈ news) : h.IsList a us.toArray := ⟨_, (N _ hm).1, rfl, n, rfl⟩
/-- tuple(l) of a list of the ledger -/
theorem tupleOf_lst {l : Addr} {us : List Value} {n : Nat} {Q : Value → Shared → Prop} (F : Fr h₀ L s.heap m) (N : News h₀ L s.heap news) (hm : (l, listOf us.toArray n) ∈ news) (hz : us.length ≤ 16384)
    (h : ∀ D h', Fr h₀ L h' m → News h₀ L h' ((D, tupOb us 0) :: news) → AllLt D news → Q (.ref D) { s with heap := h' }) : wpAny (model prog w) A (call (.type "tuple") [.ref l]) Q E s :=
  kde_tupleOf (items := us.toArray) F N (isList_of N hm) (by rw [List.size_toArray]; exact hz) rfl fun D h' F' N' hl => h D h' F' N' (allLt_of hl)

/-- a number of these worth, nothing else changed -/
def IntAt (c : Int) (s : Shared) (v : Value) (s' : Shared) : Prop := ∃ t tk, v = .int c t ∧ s' = { s with toks := tk }
/-- a number reckoned by one of two roads -/
theorem join_int {M : Model} {env : Env} {e : PySem.Expr} {Q : Value → Shared → Prop} (c : Int) (h1 : wpAny M A (eval e env) (IntAt c s) E s) (h2 : ∀ t tk, Q (.int c t) { s with toks := tk }) : wpAny M A (eval e env) Q E s := by
  refine wpAny_mono h1 (fun v s' h => ?_) fun _ _ x => x
  obtain ⟨t, tk, rfl, rfl⟩ := h
  exact h2 t tk
end
end Mine
end

section
open PySem PySem.W PyProof.Rows PySem.Calls PySem.Spec
namespace Mine
set_option maxRecDepth 100000

section
variable {prog : Program} {w : World} {A : Around} {E : Value → Shared → Prop} {s : Shared}

theorem zip_nextOf {z TI TO : Addr} {f0 : Value} {f1 : Bool} {Q : Value → Shared → Prop} (hz : ZipRec s.heap z TI TO f0 f1)
    (h : wpAny (model prog w) A.in1 (Builtin.«zip.__next__» ⟨[.ref z], []⟩) (fun fin s' => ∃ v, fin = .done (.ret v) ∧ Q v s') E s) : wpAny (model prog w) A (Builtin.SmallTypes.nextOf (.ref z)) Q E s := by
  have hT : s.TypeIs (.ref z) "zip" := ⟨_, hz, rfl⟩
  unfold Builtin.SmallTypes.nextOf
  refine wpAny_bind (wpAny_callSpecial?_slot (name := Str.ofString "__next__") hT F.slot_zip_next
    (wpAny_call_entry F.slot_zip_next hT F.entry_zip_next (wpAny_mono h (fun fin s' hq => ?_) fun e s' he => he) (F.args_zip_next_1 _)))
  obtain ⟨v, rfl, hq⟩ := hq
  exact ⟨v, rfl, wpAny_pure hq⟩

/-- an enumerate's next, behind its source's next -/
theorem enum_core {e z : Addr} {i : Int} {old : Value} {Q : Value → Shared → Prop} (he : IsEnum s.heap e z i old)
    (hn : wpAny (model prog w) A (Builtin.SmallTypes.nextOf (.ref z)) (fun x s₁ => ∃ h₁, s₁ = { s with heap := h₁ } ∧ IsEnum h₁ e z i old ∧
      ∀ h' tk, IsEnumOut h' e z (i + 1) x h₁.objs.size → IsPair h' h₁.objs.size (.int i s.toks) x → (∀ b o, b ≠ e → h₁.get? b = some o → h'.get? b = some o) → Q (.ref h₁.objs.size) { s with heap := h', toks := tk }) E s) :
    wpAny (model prog w) A (Builtin.«enumerate.__next__» ⟨[.ref e], []⟩) (fun fin s' => ∃ v, fin = .done (.ret v) ∧ Q v s') E s := by
  show wpAny _ _ (field (.ref e) 2 >>= _) _ _ _
  refine wpAny_bind (wpAny_field (x := .ref z) he rfl rfl ?_)
  refine wpAny_bind (wpAny_mono hn (fun x s₁ h₁ => ?_) fun _ _ e => e)
  obtain ⟨h₁, rfl, he₁, hQ⟩ := h₁
  show wpAny _ _ (field (.ref e) 3 >>= _) _ _ _
  refine wpAny_bind (wpAny_field (x := rawInt i) he₁ rfl rfl ?_)
  show wpAny _ _ (field (.ref e) 4 >>= _) _ _ _
  refine wpAny_bind (wpAny_field (x := .none) he₁ rfl rfl ?_)
  show wpAny _ _ (mkInt i >>= _) _ _ _
  refine wpAny_bind (wpAny_mkInt ?_)
  show wpAny _ _ (setField (.ref e) 3 (rawInt (i + 1)) >>= _) _ _ _
  refine wpAny_bind (wpAny_setField_rec he₁ (by simp) fun h₂ he₂ hs₂ => ?_)
  replace he₂ : IsEnum h₂ e z (i + 1) old := he₂
  show wpAny _ _ (setField (.ref e) 4 .none >>= _) _ _ _
  refine wpAny_bind (wpAny_setField_rec he₂ (by simp) fun h₃ he₃ hs₃ => ?_)
  replace he₃ : IsEnum h₃ e z (i + 1) old := he₃
  replace hs₂ : Heap.SameBut e h₁ h₂ := hs₂
  replace hs₃ : Heap.SameBut e h₂ h₃ := hs₃
  show wpAny _ _ (newTuple [.int i s.toks, x] >>= _) _ _ _
  refine wpAny_bind (wpAny_newTuple ?_)
  have he₄ : IsEnum (h₃.push { cls := .type "tuple", data := .seq #[.int i s.toks, x] }) e z (i + 1) old := Heap.get?_push_of_some _ he₃
  have hT₄ : IsPair (h₃.push { cls := .type "tuple", data := .seq #[.int i s.toks, x] }) h₃.objs.size (.int i s.toks) x := Heap.get?_push_size _ rfl
  have hk₄ : ∀ b o, b ≠ e → h₁.get? b = some o → (h₃.push { cls := .type "tuple", data := .seq #[.int i s.toks, x] }).get? b = some o := fun b o hb q => Heap.get?_push_of_some _ (hs₃.extBut b o hb (hs₂.extBut b o hb q))
  have hsz : h₃.objs.size = h₁.objs.size := by rw [hs₃.1, hs₂.1]
  have hel : e < h₃.objs.size := Heap.lt_size he₃
  generalize h₃.push { cls := .type "tuple", data := .seq #[.int i s.toks, x] } = h₄ at he₄ hT₄ hk₄ ⊢
  show wpAny _ _ (Builtin.SmallTypes.ownedTupleIsFree (.ref e) >>= _) _ _ _
  refine wpAny_bind ?_
  unfold Builtin.SmallTypes.ownedTupleIsFree
  refine wpAny_bind (wpAny_field (x := .none) he₄ rfl rfl (wpAny_pure ?_))
  simp only [if_true]
  refine wpAny_bind (wpAny_rule ?_)
  refine wpAny_bind (wpAny_field (x := old) he₄ rfl rfl ?_)
  refine wpAny_bind (wpAny_setField_rec he₄ (by simp) fun h₅ he₅ hs₅ => ?_)
  replace he₅ : IsEnum h₅ e z (i + 1) x := he₅
  replace hs₅ : Heap.SameBut e h₄ h₅ := hs₅
  show wpAny _ _ (Builtin.SmallTypes.ownedTupleHandOut (.ref e) (.ref h₃.objs.size) >>= _) _ _ _
  refine wpAny_bind ?_
  unfold Builtin.SmallTypes.ownedTupleHandOut
  refine wpAny_bind (wpAny_setField_rec he₅ (by simp) fun h₆ he₆ hs₆ => ?_)
  replace he₆ : IsEnumOut h₆ e z (i + 1) x h₃.objs.size := he₆
  replace hs₆ : Heap.SameBut e h₅ h₆ := hs₆
  refine wpAny_setField_rec he₆ (by simp) fun h₇ he₇ hs₇ => ?_
  replace he₇ : IsEnumOut h₇ e z (i + 1) x h₃.objs.size := he₇
  replace hs₇ : Heap.SameBut e h₆ h₇ := hs₇
  have hT₇ : IsPair h₇ h₃.objs.size (.int i s.toks) x := hs₇.extBut _ _ (Nat.ne_of_gt hel) (hs₆.extBut _ _ (Nat.ne_of_gt hel) (hs₅.extBut _ _ (Nat.ne_of_gt hel) hT₄))
  rw [hsz] at he₇ hT₇
  refine wpAny_bind (wpAny_letGo (wpAny_pure ⟨_, rfl, ?_⟩))
  show Q (.ref h₃.objs.size) _
  rw [hsz]
  exact hQ h₇ _ he₇ hT₇ fun b o hb q => hs₇.extBut b o hb (hs₆.extBut b o hb (hs₅.extBut b o hb (hk₄ b o hb q)))

theorem enum_pyNext {e z : Addr} {i : Int} {old : Value} {Q : Option Value → Shared → Prop} (he : IsEnum s.heap e z i old)
    (h : wpAny (model prog w) A.in1 (Builtin.«enumerate.__next__» ⟨[.ref e], []⟩) (fun fin s' => ∃ v, fin = .done (.ret v) ∧ Q (some v) s') (fun e s' => (∃ (a : Addr) (o : Obj), e = .ref a ∧ s'.heap.get? a = some o ∧ o.cls = .type "StopIteration") ∧ Q none s') s) :
    wpAny (model prog w) A (pyNext (.ref e)) Q E s := by
  have hT : s.TypeIs (.ref e) "enumerate" := ⟨_, he, rfl⟩
  unfold pyNext
  refine wpAny_bind (wpAny_attempt (wpAny_callSpecial?_slot (name := Str.ofString "__next__") hT F.slot_enumerate_next
    (wpAny_call_entry F.slot_enumerate_next hT F.entry_enumerate_next (wpAny_mono h (fun fin s' hq => ?_) fun e s' he => ?_) (F.args_enumerate_next_1 _))))
  · obtain ⟨v, rfl, hq⟩ := hq
    exact ⟨v, rfl, wpAny_pure hq⟩
  · obtain ⟨⟨a, o, rfl, ho, hc⟩, hq⟩ := he
    exact wpAny_bind (wpAny_isInstance (T := "StopIteration") (b := true) ⟨o, ho, hc⟩ isSubtype_stop (wpAny_pure hq))
end

/-- an iterator that may take new objects of its own under its wing (γ) -/
structure TurnsG (prog : Program) (w : World) (A : Around) (target : Expr) (I : Addr) (wr src : List Addr) (n : Nat) (P : Nat → Value → Heap → Prop) (Md : Nat → List Addr → Value → Heap → Prop) (St : Nat → List Addr → Heap → Prop) : Prop where
  frame : ∀ i γ h h', St i γ h → (∀ b, b ∈ wr ∨ b ∈ γ ∨ b ∈ src → ∀ o, h.get? b = some o → h'.get? b = some o) → St i γ h'
  live : ∀ i γ h, St i γ h → ∀ b, b ∈ wr ∨ b ∈ γ → ∃ o, h.get? b = some o
  item : ∀ i γ (s : Shared) (Q : Option Value → Shared → Prop) (E : Value → Shared → Prop), i < n → St i γ s.heap →
    (∀ γ' v h' tk, Md i γ' v h' → (∀ b o, b ∉ wr → s.heap.get? b = some o → h'.get? b = some o) → (∀ b ∈ γ', b ∈ γ ∨ s.heap.get? b = none) → Q (some v) { s with heap := h', toks := tk }) → wpAny (model prog w) A (pyNext (.ref I)) Q E s
  go : ∀ i γ v (s : Shared) (Q : Unit → Shared → Prop) (E : Value → Shared → Prop), Md i γ v s.heap →
    (∀ h', P i v h' → St (i + 1) γ h' → (∀ b o, b ∉ wr → s.heap.get? b = some o → h'.get? b = some o) → Q () { s with heap := h' }) → wpAny (model prog w) A (letOwnedTupleGo target (.ref I) v) Q E s
  done : ∀ γ (s : Shared) (Q : Option Value → Shared → Prop) (E : Value → Shared → Prop), St n γ s.heap →
    (∀ h' tk, (∀ b o, b ∉ wr → s.heap.get? b = some o → h'.get? b = some o) → Q none { s with heap := h', toks := tk }) → wpAny (model prog w) A (pyNext (.ref I)) Q E s

/-- the objects at some addresses -/
def objsAt (h : Heap) (l : List Addr) : List (Addr × Obj) := l.filterMap fun b => (h.get? b).map fun o => (b, o)
theorem mem_objsAt {h : Heap} {l : List Addr} {p : Addr × Obj} : p ∈ objsAt h l ↔ p.1 ∈ l ∧ h.get? p.1 = some p.2 := by
  unfold objsAt
  rw [List.mem_filterMap]
  constructor
  · rintro ⟨b, hb, e⟩
    cases q : h.get? b with
    | none => rw [q] at e; cases e
    | some o => rw [q] at e; cases e; exact ⟨hb, q⟩
  · rintro ⟨h1, h2⟩
    exact ⟨p.1, h1, by rw [h2]; rfl⟩

section
variable {prog : Program} {w : World} {A : Around} {E : Value → Shared → Prop} {s : Shared} {env : Env} {h₀ : Heap} {target : Expr} {body : List Stmt} {Q : Flow → Shared → Prop}

theorem loopG {I : Addr} {wr src : List Addr} {n : Nat} {P : Nat → Value → Heap → Prop} {Md : Nat → List Addr → Value → Heap → Prop} {St : Nat → List Addr → Heap → Prop} {m₀ : Str → Option Value} {news keep : List (Addr × Obj)} (J : Nat → (Str → Option Value) → List (Addr × Obj) → Prop)
    (W : TurnsG prog w A target I wr src n P Md St) (hL : env.locals ∉ wr) (hwr : ∀ b ∈ wr, h₀.get? b = none) (hnw : ∀ p ∈ news, p.1 ∉ wr)
    (hk : ∀ q ∈ keep, q ∈ news) (hsrc : ∀ b ∈ src, ∃ o, (b, o) ∈ keep)
    (hst : St 0 [] s.heap) (F : Fr h₀ env.locals s.heap m₀) (N : News h₀ env.locals s.heap news) (hj : J 0 m₀ news) (hE : PassesOwn (model prog w) A env E)
    (turn : ∀ i v m₁ nx own h tk, i < n → P i v h → OwnOff own (nx.map (·.1)) → (∀ q ∈ keep, q ∈ nx) → J i m₁ nx → Fr h₀ env.locals h m₁ → News h₀ env.locals h (nx ++ own) →
      wpAny (model prog w) A (assign target env v) (fun _ s₃ => wpAny (model prog w) A (execs body env) (InvPostG h₀ env.locals (fun m' nx' => (∀ q ∈ keep, q ∈ nx') ∧ J (i + 1) m' nx') own { s with heap := h, toks := tk } Q) E s₃) E { s with heap := h, toks := tk })
    (done : ∀ m₁ nx h tk, J n m₁ nx → (∀ q ∈ keep, q ∈ nx) → Fr h₀ env.locals h m₁ → News h₀ env.locals h nx → Q .next { s with heap := h, toks := tk }) :
    codeAny (model prog w) A (.forLoop target (.ref I) body [] env) (fun r s' => match r with | .ok f => Q f s' | .error e => cameBackBy (model prog w) A env E e s') s := by
  refine codeAny_forLoop_any
    (fun k s' => ∃ h' tk m' nx i γ, s' = { s with heap := h', toks := tk } ∧ St i γ h' ∧ Fr h₀ env.locals h' m' ∧ News h₀ env.locals h' nx ∧ (∀ p ∈ nx, p.1 ∉ wr ∧ p.1 ∉ γ) ∧ (∀ q ∈ keep, q ∈ nx) ∧ (∀ b ∈ γ, h₀.get? b = none ∧ b ≠ env.locals ∧ b ∉ wr) ∧ J i m' nx ∧ i ≤ n ∧ k = n + 1 - i) ?_ (n + 1)
    ⟨s.heap, s.toks, m₀, news, 0, [], rfl, hst, F, N, fun p hp => ⟨hnw p hp, List.not_mem_nil⟩, hk, (fun _ h => (nomatch h)), hj, Nat.zero_le _, rfl⟩
  rintro k s' ⟨h', tk, m', nx, i, γ, rfl, hst', F', N', hnx, hkx, hγ, hJ, hi, rfl⟩
  have hb0 : ∀ b o, h₀.get? b = some o → b ∉ wr := fun b o e hb => by rw [hwr b hb] at e; cases e
  have next : ∀ h₁ : Heap, (∀ b o, b ∉ wr → h'.get? b = some o → h₁.get? b = some o) → Fr h₀ env.locals h₁ m' ∧ News h₀ env.locals h₁ nx := fun h₁ hk₁ =>
    ⟨⟨F'.ns.at' fun o e => hk₁ _ o hL e, fun b o e => hk₁ b o (hb0 b o e) (F'.keep b o e), F'.above⟩, fun p hp => ⟨hk₁ _ _ (hnx p hp).1 (N' p hp).1, (N' p hp).2⟩⟩
  by_cases hlt : i < n
  · refine W.item i γ _ _ _ hlt hst' fun γ' v h₁ tk₁ hMd hk₁ hγ₁ => ?_
    refine W.go i γ' v _ _ _ hMd fun h₂ hP hst₂ hk₂ => ?_
    have hk₂' : ∀ b o, b ∉ wr → h'.get? b = some o → h₂.get? b = some o := fun b o hb e => hk₂ b o hb (hk₁ b o hb e)
    obtain ⟨F₂, N₂⟩ := next h₂ hk₂'
    have hγ' : ∀ b ∈ γ', h₀.get? b = none ∧ b ≠ env.locals ∧ (b ∈ γ ∨ h'.get? b = none) := by
      intro b hb
      rcases hγ₁ b hb with h | h
      · exact ⟨(hγ b h).1, (hγ b h).2.1, .inl h⟩
      · refine ⟨?_, ?_, .inr h⟩
        · cases e : h₀.get? b with
          | none => rfl
          | some o => have := F'.keep b o e; rw [h] at this; cases this
        · rintro rfl
          obtain ⟨_, _, _, e, _⟩ := F'.ns
          rw [h] at e; cases e
    have hnx' : ∀ p ∈ nx, p.1 ∉ wr ∧ p.1 ∉ γ' := fun p hp => ⟨(hnx p hp).1, fun hb => by
      rcases (hγ' _ hb).2.2 with h | h
      · exact (hnx p hp).2 h
      · rw [(N' p hp).1] at h; cases h⟩
    have Now : ∀ p ∈ objsAt h₂ (wr ++ γ'), h₂.get? p.1 = some p.2 ∧ p.1 ≠ env.locals ∧ h₀.get? p.1 = none := fun p hp => by
      obtain ⟨h1, h2⟩ := mem_objsAt.mp hp
      rcases List.mem_append.mp h1 with h1 | h1
      · exact ⟨h2, fun e => hL (e ▸ h1), hwr _ h1⟩
      · exact ⟨h2, (hγ' _ h1).2.1, (hγ' _ h1).1⟩
    have hsep : OwnOff (objsAt h₂ (wr ++ γ')) (nx.map (·.1)) := by
      intro p hp b hb e
      obtain ⟨q, hq, rfl⟩ := List.mem_map.mp hb
      obtain ⟨h1, _⟩ := mem_objsAt.mp hp
      rcases List.mem_append.mp h1 with h1 | h1
      · exact (hnx' q hq).1 (e ▸ h1)
      · exact (hnx' q hq).2 (e ▸ h1)
    have N₃ : News h₀ env.locals h₂ (nx ++ objsAt h₂ (wr ++ γ')) := fun p hp => (List.mem_append.mp hp).elim (N₂ p) (Now p)
    have hwγ : ∀ b ∈ γ', b ∉ wr := by
      intro b hb hw
      rcases (hγ' b hb).2.2 with h | h
      · exact (hγ b h).2.2 hw
      · obtain ⟨o, e⟩ := W.live _ _ _ hst' b (.inl hw)
        rw [h] at e; cases e
    refine wpAny_mono (wpAny_passesOwn hE (wpAny_mono (turn i v m' nx _ h₂ tk₁ hlt hP hsep hkx hJ F₂ N₃) (fun _ s₃ h₃ => (h₃ : wpAny (model prog w) A (execs body env) _ E s₃)) fun _ _ e => e)) (fun _ s₃ h₃ => wpAny_mono (wpAny_passesOwn hE h₃) (fun f s₄ p => ?_) fun _ _ e => e) fun _ _ e => e
    have fin : InvEndG h₀ env.locals (fun m' nx' => (∀ q ∈ keep, q ∈ nx') ∧ J (i + 1) m' nx') (objsAt h₂ (wr ++ γ')) { s with heap := h₂, toks := tk₁ } s₄ → ∃ m, m < n + 1 - i ∧ ∃ h' tk m' nx i γ, s₄ = { s with heap := h', toks := tk } ∧ St i γ h' ∧ Fr h₀ env.locals h' m' ∧ News h₀ env.locals h' nx ∧ (∀ p ∈ nx, p.1 ∉ wr ∧ p.1 ∉ γ) ∧ (∀ q ∈ keep, q ∈ nx) ∧ (∀ b ∈ γ, h₀.get? b = none ∧ b ≠ env.locals ∧ b ∉ wr) ∧ J i m' nx ∧ i ≤ n ∧ m = n + 1 - i := by
      rintro ⟨h₄, tk₄, m₄, news', nx', e, F₄, N₄, hn, ho, ha, hm⟩
      have kp : ∀ b, b ∈ wr ∨ b ∈ γ' → ∀ o, h₂.get? b = some o → h₄.get? b = some o := fun b hb o e => (N₄ _ (ho (b, o) (mem_objsAt.mpr ⟨List.mem_append.mpr hb, e⟩))).1
      refine ⟨n + 1 - (i + 1), by omega, h₄, tk₄, m₄, nx', i + 1, γ', e, ?_, F₄, fun p hp => N₄ p (hn p hp), ?_, hm.1, fun b hb => ⟨(hγ' b hb).1, (hγ' b hb).2.1, hwγ b hb⟩, hm.2, hlt, rfl⟩
      · refine W.frame _ _ _ _ hst₂ fun b hb o e => ?_
        rcases hb with hb | hb | hb
        · exact kp b (.inl hb) o e
        · exact kp b (.inr hb) o e
        · obtain ⟨o', ho'⟩ := hsrc b hb
          have h1 : h₂.get? b = some o' := (N₂ _ (hkx _ ho')).1
          rw [e] at h1
          rw [Option.some.inj h1]
          exact (N₄ _ (hn _ (hm.1 _ ho'))).1
      · intro p hp
        refine ⟨fun hb => ?_, fun hb => ?_⟩
        · obtain ⟨o, e⟩ := W.live _ _ _ hst₂ p.1 (.inl hb)
          exact ha (p.1, o) (mem_objsAt.mpr ⟨List.mem_append_left _ hb, e⟩) p.1 (List.mem_map.mpr ⟨p, hp, rfl⟩) rfl
        · obtain ⟨o, e⟩ := W.live _ _ _ hst₂ p.1 (.inr hb)
          exact ha (p.1, o) (mem_objsAt.mpr ⟨List.mem_append_right _ hb, e⟩) p.1 (List.mem_map.mpr ⟨p, hp, rfl⟩) rfl
    cases f with
    | ret v => exact p
    | brk => exact p
    | next => exact fin p
    | cont => exact fin p
  · have hin : i = n := by omega
    subst hin
    refine W.done γ _ _ _ hst' fun h₁ tk₁ hk₁ => wpAny_execs_nil ?_
    obtain ⟨F₁, N₁⟩ := next h₁ hk₁
    exact done m' nx h₁ tk₁ hJ hkx F₁ N₁
end
end Mine
end

section
open PySem PySem.W PyProof.Rows PySem.Calls PySem.Spec
open PySem.AutoSeq1 (wpAny_loadPart')
namespace Mine
set_option maxRecDepth 100000

abbrev kwStart (t : Tok) : List (Str × Value) := [(Str.ofString "start", .int 1 t)]

theorem typeCall_enum_kw (a : Value) (t : Tok) : checkTypeCall "enumerate" ⟨[a], kwStart t⟩ = pure () := by kernel_rfl
theorem newCall_enum_kw (a : Value) (t : Tok) : checkBuiltinCall "enumerate.__new__" ⟨[.type "enumerate", a], kwStart t⟩ = pure () := by kernel_rfl

set_option maxHeartbeats 1000000 in
theorem meets_enum_kw (z TI TO : Addr) (t : Tok) :
    Meets (Builtin.«enumerate.__new__» ⟨[.type "enumerate", .ref z], kwStart t⟩) (fun _ R s => ZipRec s.heap z TI TO .none false ∧
      R (.ok (.ret (.ref s.heap.objs.size))) { s with heap := s.heap.push { cls := .type "enumerate", data := .fields #[.none, .bool false, .ref z, rawInt 1, .none, .none] } }) :=
  .of_wp fun prog w A R s h => by
    obtain ⟨hp, g, d, tk, os⟩ := s; obtain ⟨hz, h⟩ := h
    have hsub := sub_enumerate
    have hZ : ZipRec (Shared.heap ⟨hp, g, d, tk, os⟩) z TI TO .none false := hz
    wp_walk using wpAny_loadPart' hz
    refine wpAny_stack_any fun st => wpAny_pure ?_
    split
    · rename_i c _ _ _ _ _
      cases (c == Value.type "enumerate")
      · wp_walk using wpAny_loadPart' hz, wpAny_pyIter_zip hZ
        exact ⟨_, rfl, h⟩
      · wp_walk using wpAny_loadPart' hz, wpAny_pyIter_zip hZ
        exact ⟨_, rfl, h⟩
    · wp_walk using wpAny_loadPart' hz, wpAny_pyIter_zip hZ
      exact ⟨_, rfl, h⟩

theorem args_init_kw (a b : Value) (t : Tok) : argsOk "object.__init__" ⟨[a, b], kwStart t⟩ := by
  unfold argsOk; rw [signature?_of (id := "object.__init__") (n := ['_', '_', 't', 'i', 'n', 'i', '_', '_']) (o := ['t', 'c', 'e', 'j', 'b', 'o']) (by kernel_rfl) F.owner_object]; kernel_rfl

theorem init_kw_meets (self a : Value) (t : Tok) : Meets (Builtin.«object.__init__» ⟨[self, a], kwStart t⟩) (fun _ R s => s.TypeIs self "enumerate" ∧ R (.ok (.ret .none)) s) := by
  refine Meets.of_wp fun prog w A R s hs => ?_
  obtain ⟨hT, hq⟩ := hs
  have hl := F.called_enumerate.init.lookup
  have hm := F.called_enumerate.made
  repeat (any_goals (first | assumption | wp_step))
  exact ⟨_, rfl, hq⟩

section
variable {prog : Program} {w : World} {A : Around} {E : Value → Shared → Prop} {s : Shared}
set_option maxHeartbeats 1000000 in
theorem call_enum_kw {z TI TO : Addr} {t : Tok} {Q : Value → Shared → Prop} (hz : ZipRec s.heap z TI TO .none false)
    (h : ∀ h', IsEnum h' s.heap.objs.size z 1 .none → (∀ c o, s.heap.get? c = some o → h'.get? c = some o) → Q (.ref s.heap.objs.size) { s with heap := h' }) :
    wpAny (model prog w) A (call (.type "enumerate") [.ref z] (kwStart t)) Q E s := by
  have ft := F.called_enumerate
  obtain ⟨c, tl, hmro⟩ := ft.mro
  have hmade := ft.made
  have hsub := ft.sub
  have hct := typeCall_enum_kw (.ref z) t
  refine wpAny_call (codeAny_of_tree ?_)
  show wpAny _ _ (callAny (.type "enumerate") _) _ _ _
  refine wpAny_pure ⟨Code.quiet_builtin _ (by decide +kernel), codeAny_builtin F.entry_type_call ?_⟩
  rw [Around.under_plain (weight_type_call_type "enumerate" [.ref z] (kwStart t)) (units_type_call_type "enumerate" [.ref z] (kwStart t))]
  have h1 := ft.notType
  have h2 := ft.canCreate
  repeat (any_goals (first | assumption | wp_step))
  refine codeAny_mono (codeAny_call_builtin ft.plain F.entry_enumerate_new (wpAny_of_eq (newCall_enum_kw (.ref z) t) (meets_enum_kw z TI TO t prog w A.in1
    (wants (fun obj s₁ => obj = .ref s.heap.objs.size ∧ s₁.TypeIs obj "enumerate" ∧ Q obj s₁) E) s ⟨hz, ?_⟩))) fun r s₁ hr => ?_
  · refine ⟨rfl, ⟨_, Heap.get?_push_size _ rfl, rfl⟩, h _ (Heap.get?_push_size _ rfl) fun c o e => Heap.get?_push_of_some _ e⟩
  cases r with
  | error e => exact hr
  | ok fl =>
    cases fl with
    | ret obj =>
      obtain ⟨hobj, hT, hQ⟩ := hr
      have hli := ft.init.lookup
      have hbi := ft.init.bind obj
      repeat (any_goals (first | assumption | wp_step))
      refine codeAny_mono (codeAny_call_builtin ft.init.plain F.entry_object_init (ft.init.check _ _ _ _ _ _ _ _ hT (args_init_kw obj (.ref z) t) (init_kw_meets obj (.ref z) t prog w A.in1 (wants (fun r s₂ => r = .none ∧ Q obj s₂) E) s₁ ⟨hT, rfl, hQ⟩))) fun r₂ s₂ hr₂ => ?_
      cases r₂ with
      | error e => exact hr₂
      | ok fl₂ =>
        cases fl₂ with
        | ret r =>
          obtain ⟨rfl, hq⟩ := hr₂
          repeat (any_goals (first | assumption | wp_step))
        | _ => exact hr₂.elim
    | _ => exact hr.elim
end
end Mine
end

section
open PySem PySem.W PyProof.Rows PySem.Calls PySem.Spec
namespace Mine
set_option maxRecDepth 100000

structure EnumApart (e z TI TO i1 i2 l1 l2 : Addr) : Prop where
  D : ZipApart z TI TO i1 i2 l1 l2
  ez : e ≠ z
  eTI : e ≠ TI
  eTO : e ≠ TO
  e1 : e ≠ i1
  e2 : e ≠ i2
  el1 : e ≠ l1
  el2 : e ≠ l2

/-- the zip under the enumerate: its own tuple is out for good behind the first turn -/
def ZOut (h : Heap) (z TI TO : Addr) (γ : List Addr) : Prop := (γ = [] ∧ ZipRec h z TI TO .none false) ∨ ∃ (T0 : Addr) (f1 : Bool) (oT : Obj), γ = [T0] ∧ ZipRec h z TI TO (rawInt T0) f1 ∧ h.get? T0 = some oT

section
variable {prog : Program} {w : World} {A : Around} {E : Value → Shared → Prop} {s : Shared}

theorem zOut_draw {z TI TO i1 i2 l1 l2 : Addr} {γ : List Addr} {k : Nat} {xs ys : Array Value} {x y : Value} {Q : Value → Shared → Prop} (D : ZipApart z TI TO i1 i2 l1 l2) (hz : ZOut s.heap z TI TO γ) (Z : ZipT s.heap z TI TO i1 i2 l1 l2 xs ys k) (hγ : ∀ b ∈ γ, b ≠ z ∧ b ≠ TO ∧ b ≠ i1 ∧ b ≠ i2)
    (hx : xs[k]? = some x) (hy : ys[k]? = some y)
    (hQ : ∀ h' γ', ZOut h' z TI TO γ' → (∀ b ∈ γ', b ∈ γ ∨ b = s.heap.objs.size) → ZipT h' z TI TO i1 i2 l1 l2 xs ys (k + 1) → IsPair h' s.heap.objs.size x y → h'.objs.size = s.heap.objs.size + 1 →
      (∀ c o, c ≠ z → c ≠ TO → c ≠ i1 → c ≠ i2 → s.heap.get? c = some o → h'.get? c = some o) → Q (.ref s.heap.objs.size) { s with heap := h' }) :
    wpAny (model prog w) A (Builtin.SmallTypes.nextOf (.ref z)) Q E s := by
  rcases hz with ⟨rfl, hz⟩ | ⟨T0, f1, oT, rfl, hz, hT⟩
  · refine zip_nextOf hz (zipT_free D hz Z hx hy fun h' a1 a2 a3 a4 a5 => hQ h' [s.heap.objs.size] (.inr ⟨_, _, _, rfl, a1, a3⟩) (fun b hb => .inr (List.mem_singleton.mp hb)) a2 a3 a4 a5)
  · obtain ⟨g1, g2, g3, g4⟩ := hγ T0 (List.mem_singleton.mpr rfl)
    exact zip_nextOf hz (zipT_busy D hT hz Z hx hy fun h' a1 a2 a3 a4 a5 => hQ h' [T0] (.inr ⟨_, _, _, rfl, a1, a5 _ _ g1 g2 g3 g4 hT⟩) (fun b hb => .inl hb) a2 a3 a4 a5)

theorem zOut_end {z TI TO i1 i2 l1 l2 : Addr} {γ : List Addr} {k : Nat} {xs ys : Array Value} {Q : Value → Shared → Prop} (hh : A.handled = none) (D : ZipApart z TI TO i1 i2 l1 l2) (hz : ZOut s.heap z TI TO γ) (Z : ZipT s.heap z TI TO i1 i2 l1 l2 xs ys k) (hx : xs[k]? = none)
    (hE : ∀ h' e, (∀ c o, c ≠ z → c ≠ TO → c ≠ i1 → c ≠ i2 → s.heap.get? c = some o → h'.get? c = some o) → (∃ o, h'.get? e = some o ∧ o.cls = .type "StopIteration") → E (.ref e) { s with heap := h' }) :
    wpAny (model prog w) A (Builtin.SmallTypes.nextOf (.ref z)) Q E s := by
  have hh' : A.in1.handled = none := hh
  rcases hz with ⟨rfl, hz⟩ | ⟨T0, f1, oT, rfl, hz, hT⟩
  · exact zip_nextOf hz (zipT_end hh' D (.inl ⟨rfl, rfl⟩) hz Z hx hE)
  · exact zip_nextOf hz (zipT_end hh' D (.inr ⟨_, _, rfl, hT⟩) hz Z hx hE)

theorem zOut_of {h h' : Heap} {z TI TO : Addr} {γ : List Addr} (hz : ZOut h z TI TO γ) (hk : ∀ b, b = z ∨ b ∈ γ → ∀ o, h.get? b = some o → h'.get? b = some o) : ZOut h' z TI TO γ := by
  rcases hz with ⟨rfl, hz⟩ | ⟨T0, f1, oT, rfl, hz, hT⟩
  · exact .inl ⟨rfl, hk z (.inl rfl) _ hz⟩
  · exact .inr ⟨T0, f1, oT, rfl, hk z (.inl rfl) _ hz, hk T0 (.inr (List.mem_singleton.mpr rfl)) _ hT⟩

/-- the turns of enumerate(zip(..), start=1) -/
theorem turnsEnum (hh : A.handled = none) {elts : List Expr} {kk : Nat} {pos : Pos} (e z TI TO i1 i2 l1 l2 : Addr) (D : EnumApart e z TI TO i1 i2 l1 l2) (xs ys : Array Value) (hsz : ys.size = xs.size) :
    TurnsG prog w A (.Tuple elts kk pos) e [e, z, TI, TO, i1, i2] [l1, l2] xs.size
      (fun i v h => ∃ T T2 x y j t, v = .ref T ∧ xs[i]? = some x ∧ ys[i]? = some y ∧ IsPair h T (.int j t) (.ref T2) ∧ IsPair h T2 x y)
      (fun i γ v h => ∃ T T2 x y t, v = .ref T ∧ xs[i]? = some x ∧ ys[i]? = some y ∧ IsPair h T (.int (1 + (i : Int)) t) (.ref T2) ∧ IsPair h T2 x y ∧ IsEnumOut h e z (1 + (i : Int) + 1) (.ref T2) T ∧ ZOut h z TI TO γ ∧ ZipT h z TI TO i1 i2 l1 l2 xs ys (i + 1) ∧ T ≠ e ∧ T2 ≠ e ∧ ∀ b ∈ γ, b ∉ [e, z, TI, TO, i1, i2])
      (fun i γ h => (∃ old, IsEnum h e z (1 + (i : Int)) old) ∧ ZOut h z TI TO γ ∧ ZipT h z TI TO i1 i2 l1 l2 xs ys i ∧ ∀ b ∈ γ, b ∉ [e, z, TI, TO, i1, i2]) where
  frame := fun i γ h h' st hk => by
    obtain ⟨⟨old, he⟩, hz, hZ, hγ⟩ := st
    refine ⟨⟨old, hk e (.inl (by simp)) _ he⟩, zOut_of hz (fun b hb o e => hk b ?_ o e), zipT_of hZ (fun b hb o e => hk b ?_ o e), hγ⟩
    · rcases hb with rfl | hb
      · exact .inl (by simp)
      · exact .inr (.inl hb)
    · simp at hb
      rcases hb with rfl | rfl | rfl | rfl | rfl | rfl
      · exact .inl (by simp)
      · exact .inl (by simp)
      · exact .inl (by simp)
      · exact .inl (by simp)
      · exact .inr (.inr (by simp))
      · exact .inr (.inr (by simp))
  live := fun i γ h st b hb => by
    obtain ⟨⟨old, he⟩, hz, ⟨hTI, ⟨_, _, hTO⟩, ⟨_, q1, _⟩, ⟨_, q2, _⟩, _, _⟩, hγ⟩ := st
    have hzz : ∃ o, h.get? z = some o := by
      rcases hz with ⟨_, hz⟩ | ⟨_, _, _, _, hz, _⟩
      · exact ⟨_, hz⟩
      · exact ⟨_, hz⟩
    rcases hb with hb | hb
    · simp at hb
      rcases hb with rfl | rfl | rfl | rfl | rfl | rfl
      · exact ⟨_, he⟩
      · exact hzz
      · exact ⟨_, hTI⟩
      · exact ⟨_, hTO⟩
      · exact ⟨_, q1⟩
      · exact ⟨_, q2⟩
    · rcases hz with ⟨rfl, _⟩ | ⟨T0, _, oT, rfl, _, hT⟩
      · cases hb
      · rw [List.mem_singleton.mp hb]; exact ⟨_, hT⟩
  item := fun i γ s Q E hi st hQ => by
    obtain ⟨⟨old, he⟩, hz, hZ, hγ⟩ := st
    have hx : xs[i]? = some xs[i] := Array.getElem?_eq_getElem hi
    have hy : ys[i]? = some (ys[i]'(by omega)) := Array.getElem?_eq_getElem (by omega)
    have helt : (e : Nat) < s.heap.objs.size := Heap.lt_size he
    have none_at : s.heap.get? s.heap.objs.size = none := by
      cases q : s.heap.get? s.heap.objs.size with
      | none => rfl
      | some o => exact absurd (Heap.lt_size q) (Nat.lt_irrefl _)
    have old_of : ∀ b ∈ ([e, z, TI, TO, i1, i2] : List Addr), b ≠ s.heap.objs.size := by
      obtain ⟨hTI, ⟨_, _, hTO⟩, ⟨_, q1, _⟩, ⟨_, q2, _⟩, _, _⟩ := hZ
      intro b hb
      simp at hb
      rcases hb with rfl | rfl | rfl | rfl | rfl | rfl
      · exact Nat.ne_of_lt helt
      · rcases hz with ⟨_, hz⟩ | ⟨_, _, _, _, hz, _⟩ <;> exact Nat.ne_of_lt (Heap.lt_size hz)
      · exact Nat.ne_of_lt (Heap.lt_size hTI)
      · exact Nat.ne_of_lt (Heap.lt_size hTO)
      · exact Nat.ne_of_lt (Heap.lt_size q1)
      · exact Nat.ne_of_lt (Heap.lt_size q2)
    refine enum_pyNext he (enum_core he (zOut_draw D.D hz hZ (fun b hb => by have := hγ b hb; simp at this; grind) hx hy fun h₁ γ' a1 ag a2 a3 a4 a5 => ?_))
    have he₁ : IsEnum h₁ e z (1 + (i : Int)) old := a5 _ _ D.ez D.eTO D.e1 D.e2 he
    refine ⟨h₁, rfl, he₁, fun h' tk b1 b2 b3 => ?_⟩
    have hγ' : ∀ b ∈ γ', b ∉ [e, z, TI, TO, i1, i2] := by
      intro b hb
      rcases ag b hb with h | rfl
      · exact hγ b h
      · exact fun hm => old_of _ hm rfl
    have hge : ∀ b ∈ γ', b ≠ e := fun b hb q => hγ' b hb (by rw [q]; simp)
    have hTe : s.heap.objs.size ≠ e := Nat.ne_of_gt helt
    refine hQ γ' (.ref h₁.objs.size) h' tk ⟨h₁.objs.size, s.heap.objs.size, _, _, _, rfl, hx, hy, b2, b3 _ _ hTe a3, b1, zOut_of a1 (fun b hb o q => b3 b o ?_ q), zipT_of a2 (fun b hb o q => b3 b o ?_ q), ?_, hTe, hγ'⟩ (fun b o hb q => ?_) (fun b hb => ?_)
    · rcases hb with rfl | hb
      · exact Ne.symm D.ez
      · exact hge b hb
    · simp at hb
      rcases hb with rfl | rfl | rfl | rfl | rfl | rfl
      · exact Ne.symm D.eTI
      · exact Ne.symm D.eTO
      · exact Ne.symm D.e1
      · exact Ne.symm D.e2
      · exact Ne.symm D.el1
      · exact Ne.symm D.el2
    · rw [a4]; exact Nat.ne_of_gt (Nat.lt_succ_of_lt helt)
    · simp at hb
      exact b3 b o (by grind) (a5 b o (by grind) (by grind) (by grind) (by grind) q)
    · rcases ag b hb with h | rfl
      · exact .inl h
      · exact .inr none_at
  go := fun i γ v s Q E hm hQ => by
    obtain ⟨T, T2, x, y, t, rfl, hx, hy, hT, hT2, ho, hz, hZ, hTe, hT2e, hγ⟩ := hm
    refine wpAny_letOwnedTupleGo_enum ho fun h' he' hs' => hQ h' ⟨T, T2, x, y, _, t, rfl, hx, hy, hs'.extBut _ _ hTe hT, hs'.extBut _ _ hT2e hT2⟩ ⟨⟨.ref T2, ?_⟩, zOut_of hz (fun b hb o q => hs'.extBut b o ?_ q), zipT_of hZ (fun b hb o q => hs'.extBut b o ?_ q), hγ⟩ fun b o hb q => hs'.extBut b o (fun e' => hb (by simp [e'])) q
    · have : (1 + (i : Int) + 1) = 1 + ((i + 1 : Nat) : Int) := by omega
      rw [← this]; exact he'
    · rcases hb with rfl | hb
      · exact Ne.symm D.ez
      · exact fun q => hγ b hb (by rw [q]; simp)
    · simp at hb
      rcases hb with rfl | rfl | rfl | rfl | rfl | rfl
      · exact Ne.symm D.eTI
      · exact Ne.symm D.eTO
      · exact Ne.symm D.e1
      · exact Ne.symm D.e2
      · exact Ne.symm D.el1
      · exact Ne.symm D.el2
  done := fun γ s Q E st hQ => by
    obtain ⟨⟨old, he⟩, hz, hZ, hγ⟩ := st
    refine enum_pyNext he ?_
    show wpAny _ _ (field (.ref e) 2 >>= _) _ _ _
    refine wpAny_bind (wpAny_field (x := .ref z) he rfl rfl ?_)
    refine wpAny_bind (zOut_end (by first | exact hh | (show A.in1.handled = none; exact hh)) D.D hz hZ (Array.getElem?_eq_none (Nat.le_refl _)) fun h' ex hk hex => ?_)
    obtain ⟨o, ho, hc⟩ := hex
    exact ⟨⟨ex, o, rfl, ho, hc⟩, hQ h' s.toks fun b o hb q => by simp at hb; exact hk b o (by grind) (by grind) (by grind) (by grind) q⟩

variable {h₀ : Heap} {news : List (Addr × Obj)} {env : Env}
/-- i, (x, y) = (j, (a, b)) into the frame's names -/
theorem assign_nest {m : Str → Option Value} {iv x y : Str} {pi px py pos pos2 : Pos} {kk kk2 : Nat} {T T2 : Addr} {j : Int} {t : Tok} {a b : Value} {Q : Unit → Shared → Prop} (hh : A.handled = none) (F : Fr h₀ env.locals s.heap m) (N : News h₀ env.locals s.heap news) (hT : IsPair s.heap T (.int j t) (.ref T2)) (hT2 : IsPair s.heap T2 a b) (hT2L : T2 ≠ env.locals)
    (hi : env.kindOf iv = some .local) (hx : env.kindOf x = some .local) (hy : env.kindOf y = some .local) (hp : (env.scope.kind == .class || (env.scope.kind == .module && env.locals != env.globals)) = false)
    (h : ∀ h' tk, Fr h₀ env.locals h' (fun z => if z = y then some b else if z = x then some a else if z = iv then some (.int j t) else m z) → News h₀ env.locals h' news → Q () { s with heap := h', toks := tk }) :
    wpAny (model prog w) A (assign (.Tuple [.Name iv pi, .Tuple [.Name x px, .Name y py] kk2 pos2] kk pos) env (.ref T)) Q E s := by
  have ht : IsTup s.heap T #[.int j t, .ref T2] := ⟨_, hT, rfl, _, rfl⟩
  refine assign_Tuple_tuple hh ht rfl rfl fun h₅ he => ?_
  have up : ∀ c o, s.heap.get? c = some o → h₅.get? c = some o := fun c o e => he c o (Nat.ne_of_lt (Heap.lt_size e)) e
  refine assignInOrder_cons (wpAny_assign_Name (wpAny_storeName_local hi (F.ns.at' fun o e => up _ o e) (fun h₆ hn₆ hs₆ => ?_) hp))
  have F₆ := (F.keeps up).set hn₆ hs₆
  refine assignInOrder_cons (assign_pair (kk := kk2) hh F₆ ((N.grown up).set hs₆) (hs₆.extBut _ _ hT2L (up _ _ hT2)) hx hy hp fun h₇ tk₇ F₇ N₇ _ => ?_)
  exact assignInOrder_nil (h h₇ tk₇ F₇ N₇)

theorem for_enum {body : List Stmt} {Q : Flow → Shared → Prop} {iv x y : Str} {pi px py pos pos2 : Pos} {kk kk2 : Nat} {n : Nat} {t : Tok} {l1 l2 : Addr} {us vs : List Value} {n1 n2 : Nat} {m₀ : Str → Option Value} (J : Nat → (Str → Option Value) → List (Addr × Obj) → Prop)
    (hh : A.handled = none) (hE : PassesOwn (model prog w) A env E) (hl1 : (l1, tupOb us n1) ∈ news) (hl2 : (l2, tupOb vs n2) ∈ news) (hlen : vs.length = us.length) (F : Fr h₀ env.locals s.heap m₀) (N : News h₀ env.locals s.heap news)
    (hz : ZipRec s.heap (n + 4) (n + 2) (n + 3) .none false) (hZ : ZipT s.heap (n + 4) (n + 2) (n + 3) n (n + 1) l1 l2 us.toArray vs.toArray 0) (hnew : ∀ p ∈ news, (p.1 : Nat) < n) (hLn : (env.locals : Nat) < n) (h0n : ∀ b : Nat, n ≤ b → h₀.get? b = none) (hj : J 0 m₀ news)
    (hi : env.kindOf iv = some .local) (hx : env.kindOf x = some .local) (hy : env.kindOf y = some .local) (hp : (env.scope.kind == .class || (env.scope.kind == .module && env.locals != env.globals)) = false)
    (turn : ∀ i a b j tj m₁ nx own g0 t0 h tk, us[i]? = some a → vs[i]? = some b → OwnOff own (nx.map (·.1)) → (l1, tupOb us n1) ∈ nx → (l2, tupOb vs n2) ∈ nx → J i m₁ nx → Fr h₀ env.locals h (fun z => if z = y then some b else if z = x then some a else if z = iv then some (.int j tj) else m₁ z) → News h₀ env.locals h (nx ++ own) →
      wpAny (model prog w) A (execs body env) (InvPostG h₀ env.locals (fun m' nx' => (∀ q ∈ [(l1, tupOb us n1), (l2, tupOb vs n2)], q ∈ nx') ∧ J (i + 1) m' nx') own { s with heap := g0, toks := t0 } Q) E { s with heap := h, toks := tk })
    (done : ∀ m₁ nx h tk, J us.length m₁ nx → (l1, tupOb us n1) ∈ nx → (l2, tupOb vs n2) ∈ nx → Fr h₀ env.locals h m₁ → News h₀ env.locals h nx → Q .next { s with heap := h, toks := tk }) :
    wpAny (model prog w) A (call (.type "enumerate") [.ref (n + 4)] (kwStart t)) (fun xv s₁ => wpAny (model prog w) A (pyIter xv) (fun it s₂ => codeAny (model prog w) A (.forLoop (.Tuple [.Name iv pi, .Tuple [.Name x px, .Name y py] kk2 pos2] kk pos) it body [] env)
      (fun r s' => match r with | .ok f => Q f s' | .error e => cameBackBy (model prog w) A env E e s') s₂) E s₁) E s := by
  have g1 := (N _ hl1).1
  have g2 := (N _ hl2).1
  have lt1 : @LT.lt Nat _ l1 n := hnew _ hl1
  have lt2 : @LT.lt Nat _ l2 n := hnew _ hl2
  have hs1 : us.toArray.size = us.length := by simp
  have hze : n + 4 < s.heap.objs.size := Heap.lt_size hz
  refine call_enum_kw hz fun h' he keep => ?_
  refine wpAny_pyIter_enum he ?_
  have D : ZipApart (n + 4) (n + 2) (n + 3) n (n + 1) l1 l2 := apart_of n l1 l2 lt1 lt2
  have DE : EnumApart s.heap.objs.size (n + 4) (n + 2) (n + 3) n (n + 1) l1 l2 := by
    constructor
    · exact D
    all_goals (refine neN ?_; omega)
  have F' : Fr h₀ env.locals h' m₀ := F.keeps keep
  have N' : News h₀ env.locals h' news := N.grown keep
  have nw : ∀ b ∈ ([s.heap.objs.size, n + 4, n + 2, n + 3, n, n + 1] : List Nat), n ≤ b := by
    intro b hb
    simp at hb
    rcases hb with rfl | rfl | rfl | rfl | rfl | rfl <;> omega
  have hz' : ZipRec h' (n + 4) (n + 2) (n + 3) .none false := keep _ _ hz
  have hZ' : ZipT h' (n + 4) (n + 2) (n + 3) n (n + 1) l1 l2 us.toArray vs.toArray 0 := zipT_of hZ fun b _ o e => keep _ _ e
  refine loopG (s := { s with heap := h' }) (keep := [(l1, tupOb us n1), (l2, tupOb vs n2)]) J (turnsEnum hh s.heap.objs.size (n + 4) (n + 2) (n + 3) n (n + 1) l1 l2 DE us.toArray vs.toArray (by simp [hlen]))
    ?_ ?_ ?_ ?_ ?_ ⟨⟨.none, he⟩, .inl ⟨rfl, hz'⟩, hZ', fun _ h => (nomatch h)⟩ F' N' hj hE ?_ ?_
  · intro hm
    exact absurd hLn (Nat.not_lt.mpr (nw _ hm))
  · intro b hb
    exact h0n b (nw b hb)
  · intro q hq hm
    exact absurd (hnew q hq) (Nat.not_lt.mpr (nw _ hm))
  · intro q hq
    simp at hq
    rcases hq with rfl | rfl
    · exact hl1
    · exact hl2
  · intro b hb
    rcases List.mem_cons.mp hb with e | hb
    · exact ⟨_, by rw [e]; exact List.mem_cons_self⟩
    · exact ⟨_, by rw [List.mem_singleton.mp hb]; exact List.mem_cons_of_mem _ List.mem_cons_self⟩
  · intro i v m₁ nx own h tk hi' hP hoff hk hJ F₁ N₁
    obtain ⟨T, T2, a, b, j, tj, rfl, ha, hb, hT, hT2⟩ := hP
    have hT2L : T2 ≠ env.locals := by
      rintro rfl
      obtain ⟨oL, es, ep, hL, hLd, _⟩ := F₁.ns
      have h1 : h.get? env.locals = some _ := hT2
      rw [hL] at h1
      cases h1
      cases hLd
    refine assign_nest hh F₁ N₁ hT hT2 hT2L hi hx hy hp fun h₂ tk₂ F₂ N₂ => ?_
    exact turn i a b j tj m₁ nx own h tk h₂ tk₂ (by simpa using ha) (by simpa using hb) hoff (hk _ (by simp)) (hk _ (by simp)) hJ F₂ N₂
  · intro m₁ nx h tk hJ hk F₁ N₁
    rw [hs1] at hJ
    exact done m₁ nx h tk hJ (hk _ (by simp)) (hk _ (by simp)) F₁ N₁
end
end Mine
end

section
open PySem PySem.W PyProof.Rows PySem.Calls PySem.Spec PyProof.Rows.LCg
namespace Mine
set_option maxRecDepth 100000

section
variable {prog : Program} {w : World} {A : Around} {E : Value → Shared → Prop} {s : Shared} {h₀ : Heap} {L : Addr} {m : Str → Option Value} {news : List (Addr × Obj)} {env : Env}

theorem fr_buts {h h' : Heap} {wr : List Addr} (F : Fr h₀ L h m) (hk : ∀ b o, b ∉ wr → h.get? b = some o → h'.get? b = some o) (hL : L ∉ wr) (hw : ∀ b ∈ wr, h₀.get? b = none) : Fr h₀ L h' m :=
  ⟨F.ns.at' fun o e => hk L o hL e, fun b o e => hk b o (fun hm => by rw [hw b hm] at e; cases e) (F.keep b o e), F.above⟩
theorem news_buts {h h' : Heap} {wr : List Addr} (N : News h₀ L h news) (hk : ∀ b o, b ∉ wr → h.get? b = some o → h'.get? b = some o) (off : ∀ p ∈ news, p.1 ∉ wr) : News h₀ L h' news :=
  fun p hp => ⟨hk _ _ (off p hp) (N p hp).1, (N p hp).2⟩

/-- a turn that has made a value and changed nothing -/
def ZEnd (P : Value → Prop) (s : Shared) (h : Heap) (y : Value) (s' : Shared) : Prop := P y ∧ ∃ tk', s' = { s with heap := h, toks := tk' }

set_option maxHeartbeats 1000000 in
theorem block_zip {elt iter : PySem.Expr} {x x₂ : Str} {px px₂ tp : Pos} {tk} {scope : Scope} {cl : List (Str × Addr)} {pos : Pos} {s₂ : Shared} {z TI TO i1 i2 l1 l2 : Addr} {us vs : List Value} {RR : Value → Addr → Result → Shared → Prop}
    (G : Nat → Value → Prop) (DA : ZipApart z TI TO i1 i2 l1 l2) (hlen : vs.length = us.length) (hsz : us.length ≤ 10000)
    (hcell : ∀ y ∈ scope.names, y.2 ≠ .cell) (hkind : scope.kind = .function) (hx : scope.names.lookup x = some .local) (hx₂ : scope.names.lookup x₂ = some .local) (hxx : x ≠ x₂) (hh : A.handled = none)
    (hz : ZipRec s₂.heap z TI TO .none false) (hZ : ZipT s₂.heap z TI TO i1 i2 l1 l2 us.toArray vs.toArray 0)
    (F : Fr h₀ L s₂.heap m) (N : News h₀ L s₂.heap news) (hL : L ∉ [z, TI, TO, i1, i2]) (hw : ∀ b ∈ [z, TI, TO, i1, i2], h₀.get? b = none) (off : ∀ p ∈ news, p.1 ∉ [z, TI, TO, i1, i2])
    (turn : ∀ i a b C oC m₂ h tk (E' : Value → Shared → Prop), us[i]? = some a → vs[i]? = some b → NsObj oC m₂ → m₂ x = some a → m₂ x₂ = some b → Fr h₀ L h m → News h₀ L h ((C, oC) :: news) →
      wpAny (model prog w) A (eval elt (compEnvC scope cl C env)) (ZEnd (G i) s₂ h) E' { s₂ with heap := h, toks := tk })
    (hRR : ∀ D C h tk m' ys, Fr h₀ L h m → News h₀ L h ((D, lst ys) :: news) → (∀ p ∈ news, p.1 ≠ D) → h.Ns C m' → h₀.get? C = none → C ≠ L → C ≠ D → (∀ p ∈ news, p.1 ≠ C) → ys.length = us.length → (∀ i v, ys[i]? = some v → G i v) → RR (.ref D) C (.ok .next) { s₂ with heap := h, toks := tk }) :
    wpAny (model prog w) A (newList []) (fun acc s₃ => wpAny (model prog w) A (newFunctionEnv scope env.globals cl [] env.qual none .none (some env)) (fun cenv s₄ =>
      codeAny (model prog w) A (.compStart (.ListComp elt [⟨.Tuple [.Name x px, .Name x₂ px₂] tk tp, iter, [], 0⟩] scope pos) 0 (.ref z) acc { cenv with scope := relabel scope env }) (RR acc cenv.locals) s₄) E s₃) E s₂ := by
  have W := turnsZip (prog := prog) (w := w) (A := A) hh (elts := [.Name x px, .Name x₂ px₂]) (kk := tk) (pos := tp) z TI TO i1 i2 l1 l2 DA us.toArray vs.toArray (by simp [hlen])
  refine wpAny_newObj_type (wpAny_newFunctionEnv hcell (by intro y hy; simp at hy) (fun h₁ hns₁ hsb₁ => ?_) hkind)
  dsimp only at hns₁ hsb₁ ⊢
  generalize hH2 : s₂.heap.push { cls := .type "list", dict := none, data := .seq ([] : List Value).toArray } = H2 at hns₁ hsb₁ ⊢
  have hC : H2.objs.size = s₂.heap.objs.size + 1 := by rw [← hH2, Heap.size_push]
  have hDC : s₂.heap.objs.size ≠ H2.objs.size := by rw [hC]; exact Nat.ne_of_lt (Nat.lt_succ_self _)
  have below : ∀ b, b < s₂.heap.objs.size → b ≠ H2.objs.size ∧ b ≠ s₂.heap.objs.size := fun b hb => ⟨by rw [hC]; exact Nat.ne_of_lt (Nat.lt_succ_of_lt hb), Nat.ne_of_lt hb⟩
  have hfp : ∀ b ∈ [z, TI, TO, i1, i2, l1, l2], b < s₂.heap.objs.size := by
    obtain ⟨hTI, ⟨_, _, hTO⟩, ⟨_, q1, _⟩, ⟨_, q2, _⟩, ⟨_, q3, _⟩, ⟨_, q4, _⟩⟩ := hZ
    intro b hb
    simp at hb
    rcases hb with rfl | rfl | rfl | rfl | rfl | rfl | rfl
    · exact Heap.lt_size hz
    · exact Heap.lt_size hTI
    · exact Heap.lt_size hTO
    · exact Heap.lt_size q1
    · exact Heap.lt_size q2
    · exact Heap.lt_size q3
    · exact Heap.lt_size q4
  have hDf : s₂.heap.objs.size ∉ [z, TI, TO, i1, i2, l1, l2] := fun hm => Nat.lt_irrefl _ (hfp _ hm)
  have hCf : H2.objs.size ∉ [z, TI, TO, i1, i2, l1, l2] := fun hm => by have := hfp _ hm; rw [hC] at this; exact Nat.lt_irrefl _ (Nat.lt_of_succ_lt this)
  have hDw : s₂.heap.objs.size ∉ [z, TI, TO, i1, i2] := fun hm => hDf (W.sub _ hm)
  have hCw : H2.objs.size ∉ [z, TI, TO, i1, i2] := fun hm => hCf (W.sub _ hm)
  have old : ∀ b o, s₂.heap.get? b = some o → h₁.get? b = some o := fun b o e => hsb₁.extBut b o (below b (Heap.lt_size e)).1 (Heap.get?_push_of_some _ (hH2 ▸ Heap.get?_push_of_some _ e))
  have hacc : h₁.get? s₂.heap.objs.size = some (lst []) := hsb₁.extBut _ _ hDC (Heap.get?_push_of_some _ (hH2 ▸ Heap.get?_push_size _ rfl))
  have hst₁ : ZipRec h₁ z TI TO .none false ∧ ZipT h₁ z TI TO i1 i2 l1 l2 us.toArray vs.toArray 0 := ⟨old _ _ hz, zipT_of hZ fun b _ o e => old b o e⟩
  have fresh₀ : ∀ a : Nat, s₂.heap.objs.size ≤ a → h₀.get? a = none := fun a ha => by
    cases e : h₀.get? a with
    | none => rfl
    | some o' => exact absurd (Heap.lt_size (F.keep a o' e)) (Nat.not_lt.mpr ha)
  have hD₀ : h₀.get? s₂.heap.objs.size = none := fresh₀ _ (Nat.le_refl _)
  have hC₀ : h₀.get? H2.objs.size = none := fresh₀ _ (by rw [hC]; exact Nat.le_succ _)
  have hLlt : L < s₂.heap.objs.size := F.ns.lt
  have hDL : s₂.heap.objs.size ≠ L := Ne.symm (below L hLlt).2
  have hCL : H2.objs.size ≠ L := Ne.symm (below L hLlt).1
  have offD : ∀ p ∈ news, p.1 ≠ s₂.heap.objs.size := fun p hp => (below _ (Heap.lt_size (N p hp).1)).2
  have offC : ∀ p ∈ news, p.1 ≠ H2.objs.size := fun p hp => (below _ (Heap.lt_size (N p hp).1)).1
  have hus : us.toArray.size = us.length := by simp
  have loop : ∀ s₃ : Shared, s₃ = { s₂ with heap := h₁, toks := s₂.toks + ([] : List (Str × Value)).length } →
      codeAny (model prog w) A (.compLoop (.ListComp elt [⟨.Tuple [.Name x px, .Name x₂ px₂] tk tp, iter, [], 0⟩] scope pos) 0 (.ref z) (.ref s₂.heap.objs.size) (compEnvC scope cl H2.objs.size env))
        (RR (.ref s₂.heap.objs.size) H2.objs.size) s₃ := by
    rintro s₃ rfl
    refine LCp.codeAny_compLoop_pair
      (fun k s' => ∃ h' tk i ys m', s' = { s₂ with heap := h', toks := tk } ∧ i ≤ us.length ∧ k = us.length + 1 - i ∧ ys.length = i ∧ (ZipRec h' z TI TO .none false ∧ ZipT h' z TI TO i1 i2 l1 l2 us.toArray vs.toArray i) ∧ Fr h₀ L h' m ∧ h'.Ns H2.objs.size m' ∧ News h₀ L h' ((s₂.heap.objs.size, lst ys) :: news) ∧ (∀ i v, ys[i]? = some v → G i v)) ?_ (us.length + 1)
      ⟨h₁, _, 0, [], _, rfl, Nat.zero_le _, rfl, rfl, hst₁, F.keeps old, hns₁, fun p hp => ?_, fun i v e => by simp at e⟩
    · rintro k s' ⟨h', tk, i, ys, m', rfl, hi, rfl, hyl, hst', F', hn', N', hG⟩
      have offN : ∀ p ∈ (s₂.heap.objs.size, lst ys) :: news, p.1 ∉ [z, TI, TO, i1, i2] := by
        intro p hp
        rcases List.mem_cons.mp hp with rfl | hp
        · exact hDw
        · exact off p hp
      by_cases hlt : i < us.length
      · refine W.item i _ _ _ (by rw [hus]; exact hlt) hst' fun v h₂ tk₂ hMd hk₂ => ?_
        refine W.go i v _ _ _ hMd fun h₄ hP hst₄ hk₄ => ?_
        obtain ⟨T, a, b, rfl, ha, hb, hT⟩ := hP
        have keep : ∀ b o, b ∉ [z, TI, TO, i1, i2] → h'.get? b = some o → h₄.get? b = some o := fun b o hb e => hk₄ b o hb (hk₂ b o hb e)
        have F₄ : Fr h₀ L h₄ m := fr_buts F' keep hL hw
        have N₄ : News h₀ L h₄ ((s₂.heap.objs.size, lst ys) :: news) := news_buts N' keep offN
        have ht : IsTup h₄ T #[a, b] := ⟨_, hT, rfl, _, rfl⟩
        refine assign_Tuple_tuple hh ht rfl rfl fun h₅ he => ?_
        have he' : ∀ b o, h₄.get? b = some o → h₅.get? b = some o := fun b o e => he b o (Nat.ne_of_lt (Heap.lt_size e)) e
        refine assignInOrder_cons (wpAny_assign_Name (wpAny_storeName_local (lookup_relabel_local hx) ((hn'.at' fun o e => keep _ o hCw e).at' fun o e => he' _ o e) (fun h₆ hn₆ hs₆ => ?_) (by simp [compEnvC, relabel, hkind])))
        refine assignInOrder_cons (wpAny_assign_Name (wpAny_storeName_local (lookup_relabel_local hx₂) hn₆ (fun h₃ hn₃ hs₃ => ?_) (by simp [compEnvC, relabel, hkind])))
        refine assignInOrder_nil ?_
        have old3 : ∀ b o, b ≠ H2.objs.size → h₄.get? b = some o → h₃.get? b = some o := fun b o hb e => hs₃.extBut b o hb (hs₆.extBut b o hb (he' b o e))
        have hst₃ := W.frame _ _ h₃ hst₄ fun b hb o e => old3 b o (fun q => hCf (by rw [← q]; exact hb)) e
        obtain ⟨oC, heC, hoC⟩ := ns_obj hn₃
        have F₃ : Fr h₀ L h₃ m := ((F₄.keeps he').change hs₆ hCL hC₀).change hs₃ hCL hC₀
        have N₃ : News h₀ L h₃ ((s₂.heap.objs.size, lst ys) :: news) := fun p hp => by
          have zz := N₄ p hp
          refine ⟨old3 _ _ ?_ zz.1, zz.2⟩
          rcases List.mem_cons.mp hp with rfl | hp
          · exact hDC
          · exact offC p hp
        have N₃' : News h₀ L h₃ ((H2.objs.size, oC) :: news) := fun p hp => by
          rcases List.mem_cons.mp hp with rfl | hp
          · exact ⟨heC, hCL, hC₀⟩
          · exact N₃ p (List.mem_cons_of_mem _ hp)
        refine wpAny_mono (turn i a b H2.objs.size oC _ h₃ _ _ (by simpa using ha) (by simpa using hb) hoC (by simp [hxx]) (by simp) F₃ N₃') (fun y s₄ h₄ => ?_) fun _ _ e => e
        obtain ⟨hGy, tk₄, rfl⟩ := h₄
        have zD := (N₃ (s₂.heap.objs.size, lst ys) List.mem_cons_self).1
        refine append_at (hsz := by show ys.toArray.size ≤ sizeLine; rw [sizeLine_eq, List.size_toArray, hyl]; omega) zD fun h₇ hs₇ hD₇ => ?_
        refine ⟨us.length + 1 - (i + 1), by omega, h₇, tk₄, i + 1, ys ++ [y], _, rfl, hlt, rfl, by rw [List.length_append, List.length_singleton, hyl], W.frame _ _ _ hst₃ fun b hb o e => hs₇.extBut b o (fun q => hDf (q ▸ hb)) e, F₃.change hs₇ hDL hD₀,
          hn₃.sameBut hs₇ (Ne.symm hDC), fun p hp => ?_, fun j v e => ?_⟩
        · rcases List.mem_cons.mp hp with rfl | hp
          · exact ⟨hD₇.trans (congrArg some (lst_snoc ys y)), hDL, hD₀⟩
          · exact ⟨hs₇.extBut _ _ (offD p hp) (N₃ p (List.mem_cons_of_mem _ hp)).1, (N₃ p (List.mem_cons_of_mem _ hp)).2⟩
        · rcases Nat.lt_trichotomy j i with hj | hj | hj
          · rw [List.getElem?_append_left (by omega)] at e
            exact hG j v e
          · subst hj
            rw [List.getElem?_append_right (by omega), hyl] at e
            simp at e
            rw [← e]
            exact hGy
          · rw [List.getElem?_eq_none (by simp; omega)] at e
            cases e
      · obtain rfl : i = us.length := Nat.le_antisymm hi (Nat.not_lt.mp hlt)
        refine W.done _ _ _ (by rw [hus]; exact hst') fun h₂ tk₂ hk₂ => ?_
        exact hRR _ _ h₂ tk₂ _ ys (fr_buts F' hk₂ hL hw) (news_buts N' hk₂ offN) offD (hn'.at' fun o e => hk₂ _ o hCw e) hC₀ hCL (Ne.symm hDC) offC hyl hG
    · rcases List.mem_cons.mp hp with rfl | hp
      · exact ⟨hacc, hDL, hD₀⟩
      · exact ⟨old _ _ (N p hp).1, (N p hp).2⟩
  exact codeAny_compStart_list (loop _ rfl) (wpAny_pyIter_zip hst₁.1 (loop _ rfl))

/-- the source of a comprehension over a zip, kept whole -/
def SrcZ (prog : Program) (w : World) (A : Around) (E : Value → Shared → Prop) (Q : Value → Shared → Prop) (env : Env) (elt iter : PySem.Expr) (x x₂ : Str) (px px₂ tp : Pos) (tk : Nat) (scope : Scope) (cl : List (Str × Addr)) (pos : Pos) (xv : Value) (s₁ : Shared) : Prop :=
  wpAny (model prog w) A (pyIter xv) (fun it s₂ => wpAny (model prog w) A (newList []) (fun acc s₃ => wpAny (model prog w) A (newFunctionEnv scope env.globals cl [] env.qual none .none (some env)) (fun cenv s₄ =>
      codeAny (model prog w) A (.compStart (.ListComp elt [⟨.Tuple [.Name x px, .Name x₂ px₂] tk tp, iter, [], 0⟩] scope pos) 0 it acc { cenv with scope := relabel scope env }) (compPost (model prog w) A E none Q acc cenv.locals) s₄) E s₃) E s₂) E s₁

theorem ListComp_Z {elt iter : PySem.Expr} {x x₂ : Str} {px px₂ tp : Pos} {tk : Nat} {scope : Scope} {cl : List (Str × Addr)} {pos : Pos} {Q : Value → Shared → Prop}
    (hclos : closureFor scope env = pure cl) (hkind : scope.kind = .function)
    (hnames : ∀ y ∈ scope.names, y.2 = .local → scope.names.lookup y.1 = some .local)
    (h : wpAny (model prog w) A (eval iter env) (SrcZ prog w A E Q env elt iter x x₂ px px₂ tp tk scope cl pos) E s)
    (hs : ∀ x, foldedSetIterable iter env x = pure x := by intro _; rfl) :
    wpAny (model prog w) A (eval (.ListComp elt [⟨.Tuple [.Name x px, .Name x₂ px₂] tk tp, iter, [], 0⟩] scope pos) env) Q E s := by
  rw [eval_ListComp]
  exact wpAny_comprehension_free (use := none) rfl hs hclos hkind hnames h

theorem srcZ_zip {elt iter : PySem.Expr} {x x₂ : Str} {px px₂ tp : Pos} {tk : Nat} {scope : Scope} {cl : List (Str × Addr)} {pos : Pos} {Q : Value → Shared → Prop} {l1 l2 : Addr} {us vs : List Value} {n1 n2 : Nat}
    (G : Nat → Value → Prop) (hh : A.handled = none) (F : Fr h₀ L s.heap m) (N : News h₀ L s.heap news) (hl1 : (l1, tupOb us n1) ∈ news) (hl2 : (l2, tupOb vs n2) ∈ news) (hlen : vs.length = us.length) (hsz : us.length ≤ 10000)
    (hcell : ∀ y ∈ scope.names, y.2 ≠ .cell) (hkind : scope.kind = .function) (hx : scope.names.lookup x = some .local) (hx₂ : scope.names.lookup x₂ = some .local) (hxx : x ≠ x₂)
    (turn : ∀ g t0 i a b C oC m₂ h tk (E' : Value → Shared → Prop), us[i]? = some a → vs[i]? = some b → NsObj oC m₂ → m₂ x = some a → m₂ x₂ = some b → Fr h₀ L h m → News h₀ L h ((C, oC) :: news) →
      wpAny (model prog w) A (eval elt (compEnvC scope cl C env)) (ZEnd (G i) { s with heap := g, toks := t0 } h) E' { ({ s with heap := g, toks := t0 } : Shared) with heap := h, toks := tk })
    (fin : ∀ D h tk ys, Fr h₀ L h m → News h₀ L h ((D, lst ys) :: news) → (∀ p ∈ news, p.1 ≠ D) → ys.length = us.length → (∀ i v, ys[i]? = some v → G i v) → Q (.ref D) { s with heap := h, toks := tk }) :
    wpAny (model prog w) A (call (.type "zip") [.ref l1, .ref l2]) (SrcZ prog w A E Q env elt iter x x₂ px px₂ tp tk scope cl pos) E s := by
  have g1 := (N _ hl1).1
  have g2 := (N _ hl2).1
  have lt1 : (l1 : Nat) < s.heap.objs.size := Heap.lt_size g1
  have lt2 : (l2 : Nat) < s.heap.objs.size := Heap.lt_size g2
  refine call_zipT (xs := us.toArray) (ys := vs.toArray) ⟨_, g1, rfl, _, rfl⟩ ⟨_, g2, rfl, _, rfl⟩ fun h' hz hZ keep => ?_
  refine wpAny_pyIter_zip hz ?_
  have D := apart_of s.heap.objs.size l1 l2 lt1 lt2
  have nw : ∀ b ∈ ([s.heap.objs.size + 4, s.heap.objs.size + 2, s.heap.objs.size + 3, s.heap.objs.size, s.heap.objs.size + 1] : List Nat), s.heap.objs.size ≤ b := by
    intro b hb
    simp at hb
    rcases hb with rfl | rfl | rfl | rfl | rfl <;> omega
  have F' : Fr h₀ L h' m := F.keeps keep
  have N' : News h₀ L h' news := N.grown keep
  have hLlt : (L : Nat) < s.heap.objs.size := F.ns.lt
  refine block_zip (s₂ := { s with heap := h' }) G D hlen hsz hcell hkind hx hx₂ hxx hh hz hZ F' N' ?_ ?_ ?_ ?_ ?_
  · intro hm
    exact absurd hLlt (Nat.not_lt.mpr (nw _ hm))
  · intro b hb
    cases e : h₀.get? b with
    | none => rfl
    | some o => exact absurd (Heap.lt_size (F.keep b o e)) (Nat.not_lt.mpr (nw b hb))
  · intro q hq hm
    exact absurd (Heap.lt_size (N q hq).1) (Nat.not_lt.mpr (nw _ hm))
  · intro i a b C oC m₂ h tk E' ha hb hC hxa hxb F₁ N₁
    exact turn h' s.toks i a b C oC m₂ h tk E' ha hb hC hxa hxb F₁ N₁
  · intro D' C h tk m' ys F₁ N₁ offD hn hC₀ hCL hCD offC hyl hG
    refine ⟨m', hn, fun h'' hs'' => fin D' h'' tk ys (F₁.change hs'' hCL hC₀) (fun p hp => ?_) offD hyl hG⟩
    refine ⟨hs''.extBut _ _ ?_ (N₁ p hp).1, (N₁ p hp).2⟩
    rcases List.mem_cons.mp hp with rfl | hp
    · exact Ne.symm hCD
    · exact offC p hp
end
end Mine
end

section
open PySem PySem.W PyProof.Rows PySem.Calls PySem.Spec
namespace Mine
set_option maxRecDepth 100000

local macro_rules | `(tactic| walk_at "binaryOp FloorDiv int int") => `(tactic| (with_reducible refine floordiv_int (by omega) ?_ (Or.inl (PyProof.noPylong_small (by omega)))))
local macro_rules | `(tactic| walk_at "call builtin:list.pop cons nil") => `(tactic| (k_here; (with_reducible show wpAny _ _ (call (Value.builtin _) [Value.ref _, Value.int _ _]) _ _ _); k_dflt (refine' kl_popAt (k := 0) (p := []) ?F ?N ?f ?k ?e ?U ?z ?_; (case F => k_asm); (case N => k_asm); (case U => k_upd); (case f => rfl); (case k => simp [seqIndex?]); (case e => rfl); (case z => (simp only [List.length_cons]; rw [sizeLine_eq]; omega))); intro h' F' N'; (try simp only [List.nil_append] at N')))
local macro_rules | `(tactic| walk_at "call builtin:list.pop") => `(tactic| (k_here; (dsimp only); (simp only [List.cons_append, List.nil_append]); (with_reducible show wpAny _ _ (call (Value.builtin _) [Value.ref _, Value.int _ _]) _ _ _); k_dflt (refine' kl_popAt (k := 0) (p := []) ?F ?N ?f ?k ?e ?U ?z ?_; (case F => k_asm); (case N => k_asm); (case U => k_upd); (case f => rfl); (case k => simp [seqIndex?]); (case e => rfl); (case z => (simp only [List.length_cons]; rw [sizeLine_eq]; omega))); intro h' F' N'; (try simp only [List.nil_append] at N')))

section
variable {w : World} {p : Program} {loose : List Str} {mean : ExcName → Option Value} {mg mb : Str → Option Value} {dp un : Nat} {gd : Option (List Code)} {cn : Str} {cs : Scope} {aa : Addr} {ccd : Value} {cl : List (Str × Addr)} {outer : List Env} {A₀ : Around} {base h₀ : Heap} {L : Addr} {m : Str → Option Value} {s : Shared} {Q E : Value → Shared → Prop}

set_option maxHeartbeats 8000000 in
theorem take_spec (a b : Addr) (x y many : Int) (tx ty tm : Tok) (nA nB : Nat) (us : List Value) (ns : List Int) (rest : List (Addr × Obj))
  (C : Cx w p loose mean mg mb dp un cs outer A₀ base h₀ L m s.heap ((a, stOb b x y tx ty nA) :: (b, listOf us.toArray nB) :: rest))
  (hab : @Ne Nat a b) (off : OwnOff rest [a, b]) (hI : IntsAre us ns) (hl : us.length ≤ 24) (hy0 : 0 ≤ y) (hy1 : y < 2147483647) (hm : 0 < many) (hm2 : many < 1000) (hdp : dp < 900) (hun : un < 9000)
  (ret : ∀ r tr x' y' tx' ty' nA' nB' us' ns' h' tk', 0 ≤ r → r < many → 0 ≤ y' → y' < 2147483647 → IntsAre us' ns' → us'.length ≤ 24 → Fr h₀ L h' m → News h₀ L h' ((a, stOb b x' y' tx' ty' nA') :: (b, listOf us'.toArray nB') :: rest) → Q (.int r tr) { s with heap := h', toks := tk' }) :
  wpAny (model PySem.Challenge.rw_au0024_01.row.prog w) (ktrTop dp un gd cn cs L aa ccd cl outer) (call (.ref 34) [.ref a, .int many tm]) Q E s := by
  obtain ⟨B, F, X, N, T, hk⟩ := C
  revert X; k_fill; intro X
  have hsplit : (us = [] ∧ ns = []) ∨ ∃ n t us' ns', us = .int n t :: us' ∧ ns = n :: ns' ∧ IntsAre us' ns' := by
    cases hI with
    | nil => exact .inl ⟨rfl, rfl⟩
    | cons n t hr => exact .inr ⟨n, t, _, _, rfl, rfl, hr⟩
  rcases hsplit with ⟨rfl, rfl⟩ | ⟨n, t, us', ns', rfl, rfl, hr⟩
  · refine wpAny_call ?_
    k_dflt ktr_enter
    k_steps
    · exact ret _ _ _ _ _ _ _ _ _ _ _ _ (Int.fmod_nonneg_of_pos _ hm) (Int.fmod_lt_of_pos _ hm) (Int.fmod_nonneg_of_pos _ (by omega)) (Int.fmod_lt_of_pos _ (by omega)) hI hl (by assumption) (by assumption)
    · exact ret _ _ _ _ _ _ _ _ _ _ _ _ (Int.fmod_nonneg_of_pos _ hm) (Int.fmod_lt_of_pos _ hm) hy0 hy1 hI hl (by assumption) (by assumption)
  · simp only [List.length_cons] at hl
    have hlen := hr.length
    refine wpAny_call ?_
    k_dflt ktr_enter
    k_steps
    · exact ret _ _ _ _ _ _ _ _ _ _ _ _ (Int.fmod_nonneg_of_pos _ hm) (Int.fmod_lt_of_pos _ hm) hy0 hy1 hr (by omega) (by assumption) (by assumption)
    · exact ret _ _ _ _ _ _ _ _ _ _ _ _ (Int.fmod_nonneg_of_pos _ hm) (Int.fmod_lt_of_pos _ hm) hy0 hy1 hI (by simp only [List.length_cons]; omega) (by assumption) (by assumption)
end
end Mine
end

section
open PySem PySem.W PyProof.Rows PySem.Calls PySem.Spec
namespace Mine
set_option maxRecDepth 100000

/-- the product, from the left -/
def prodI (ns : List Int) : Int := ns.foldl (· * ·) 1

theorem prodI_step {ns : List Int} {i : Nat} {n : Int} (h : ns[i]? = some n) : prodI (ns.take (i + 1)) = prodI (ns.take i) * n := by
  unfold prodI
  rw [List.take_add_one, h]
  simp

section
variable {w : World} {p : Program} {loose : List Str} {mean : ExcName → Option Value} {mg mb : Str → Option Value} {dp un : Nat} {gd : Option (List Code)} {cn : Str} {cs : Scope} {aa : Addr} {ccd : Value} {cl : List (Str × Addr)} {outer : List Env} {A₀ : Around} {base h₀ : Heap} {L : Addr} {m : Str → Option Value} {s : Shared} {Q E : Value → Shared → Prop}

set_option maxHeartbeats 8000000 in
theorem size_spec (t : Addr) (o : Obj) (vs : List Value) (ns : List Int) (news : List (Addr × Obj))
  (C : Cx w p loose mean mg mb dp un cs outer A₀ base h₀ L m s.heap news)
  (ht : (t, o) ∈ news) (ho : SeqOb o vs) (hI : IntsAre vs ns) (hb : ∀ n ∈ ns, -1000000 < n ∧ n < 1000000) (hdp : dp < 900) (hun : un < 9000)
  (ret : ∀ tr h' tk', Fr h₀ L h' m → News h₀ L h' news → Q (.int (prodI ns) tr) { s with heap := h', toks := tk' }) :
  wpAny (model PySem.Challenge.rw_au0024_01.row.prog w) (ktrTop dp un gd cn cs L aa ccd cl outer) (call (.ref 41) [.ref t]) Q E s := by
  obtain ⟨B, F, X, N, T, hk⟩ := C
  revert X; k_fill; intro X
  refine wpAny_call ?_
  k_dflt ktr_enter
  repeat' ((fail_if_success (with_reducible show wpAny _ _ (exec (Stmt.For _ _ _ _ _) _) _ _ _)); first | (k_unfold; (try dsimp only)) | walk1 | (dsimp only; walk1))
  rename Fr _ _ _ _ => lF
  with_unfolding_all refine' For_invVF lF ?k1 ?k2 ?_
  case k1 => exact rfl
  case k2 => exact rfl
  walk1
  rename News _ _ _ _ => lN
  refine iter_seq (fun i mm nx => nx = news ∧ ∃ tf, mm (Str.ofString "found") = some (.int (prodI (ns.take i)) tf)) rfl ht ho lF lN ⟨rfl, _, rfl⟩ ?_ ?_
  · rintro i v m₁ nx own h tk hv hoff _ ⟨rfl, tf, hf⟩ F₁ N₁
    clear lF lN
    obtain ⟨n, tn, rfl, hn⟩ := IntsAre.at hI i v hv
    have F₂ := fr_know2 F₁ hf
    clear F₁
    have hb' := hb n (List.mem_of_getElem? hn)
    k_steps
    refine InvEndG.intro (by assumption) (by assumption) ?_ hoff (fun p hp => List.mem_append.mpr (.inl hp)) (fun p hp => List.mem_append.mpr (.inr hp))
    rw [prodI_step hn]
    exact ⟨ht, rfl, _, rfl⟩
  · rintro m₁ nx h tk ⟨rfl, tf, hf⟩ _ F₁ N₁
    clear lF lN
    rw [hI.length, List.take_length] at hf
    have F₂ := fr_know F₁ hf
    clear F₁
    k_steps
    exact ret _ _ _ (by assumption) (by assumption)
end
end Mine
end

section
open PySem PySem.W PyProof.Rows PySem.Calls PySem.Spec
namespace Mine
set_option maxRecDepth 100000

/-- a row with one more place -/
def rowsOf (s : Int) (row : List Int) : List (List Int) := (List.range s.toNat).map fun (k : Nat) => row ++ [(k : Int)]
def placesD (ns : List Int) : List (List Int) := ns.foldl (fun rows s => rows.flatMap (rowsOf s)) [[]]

theorem placesD_step {ns : List Int} {i : Nat} {n : Int} (h : ns[i]? = some n) : placesD (ns.take (i + 1)) = (placesD (ns.take i)).flatMap (rowsOf n) := by
  unfold placesD
  rw [List.take_add_one, h]
  simp
theorem flat_step {n : Int} {rows : List (List Int)} {j : Nat} {row : List Int} (h : rows[j]? = some row) : (rows.take (j + 1)).flatMap (rowsOf n) = (rows.take j).flatMap (rowsOf n) ++ rowsOf n row := by
  rw [List.take_add_one, h]
  simp

theorem placesD_len {ns : List Int} : ∀ row ∈ placesD ns, row.length = ns.length := by
  have key : ∀ (ns : List Int) (rows : List (List Int)) (k : Nat), (∀ row ∈ rows, row.length = k) → ∀ row ∈ ns.foldl (fun rows s => rows.flatMap (rowsOf s)) rows, row.length = k + ns.length := by
    intro ns
    induction ns with
    | nil => intro rows k h row hr; exact h row hr
    | cons n ns ih =>
      intro rows k h row hr
      have := ih (rows.flatMap (rowsOf n)) (k + 1) (fun r hr => by
        obtain ⟨r0, h0, h1⟩ := List.mem_flatMap.mp hr
        obtain ⟨i, _, rfl⟩ := List.mem_map.mp h1
        simp [h r0 h0]) row hr
      rw [this, List.length_cons]; omega
  intro row hr
  have := key ns [[]] 0 (by simp) row hr
  omega
theorem flat_take_le {n : Int} : ∀ (rows : List (List Int)) (j : Nat), ((rows.take j).flatMap (rowsOf n)).length ≤ (rows.flatMap (rowsOf n)).length
  | rows, 0 => by simp
  | [], j + 1 => by simp
  | row :: rows, j + 1 => by
    have := flat_take_le (n := n) rows j
    simp only [List.take_succ_cons, List.flatMap_cons, List.length_append]
    omega

section
variable {w : World} {p : Program} {loose : List Str} {mean : ExcName → Option Value} {mg mb : Str → Option Value} {dp un : Nat} {gd : Option (List Code)} {cn : Str} {cs : Scope} {aa : Addr} {ccd : Value} {cl : List (Str × Addr)} {outer : List Env} {A₀ : Around} {base h₀ : Heap} {L : Addr} {m : Str → Option Value} {s : Shared} {Q E : Value → Shared → Prop}

set_option maxHeartbeats 1000000 in
theorem places_spec (t : Addr) (o : Obj) (vs : List Value) (ns : List Int) (news : List (Addr × Obj))
  (C : Cx w p loose mean mg mb dp un cs outer A₀ base h₀ L m s.heap news)
  (ht : (t, o) ∈ news) (ho : SeqOb o vs) (hI : IntsAre vs ns) (hb : ∀ n ∈ ns, 0 ≤ n ∧ n < 1000000) (hlen : ns.length ≤ 100) (hsz : ∀ i, (placesD (ns.take i)).length ≤ 1000000) (hdp : dp < 900) (hun : un < 9000)
  (ret : ∀ a us k tl h' tk', Fr h₀ L h' m → News h₀ L h' (news ++ tl) → Gt news tl → (a, listOf us.toArray k) ∈ tl → TupsIn tl us (placesD ns) → Q (.ref a) { s with heap := h', toks := tk' }) :
  wpAny (model PySem.Challenge.rw_au0024_01.row.prog w) (ktrTop dp un gd cn cs L aa ccd cl outer) (call (.ref 46) [.ref t]) Q E s := by
  obtain ⟨B, F, X, N, T, hk⟩ := C
  revert X; k_fill; intro X
  refine wpAny_call ?_
  k_dflt (refine' code_defC ?k1 ?k2 ?k3 ?k4 ?k5 ?kA ?kF ?kK ?k6 ?k7 ?k8 ?k9 ?kB ?kD ?_ ?c2 ?c3 ?c4; (case kA => exact rfl); (case kF => exact rfl); (case kK => assumption); (case k1 => k_asm); (case k2 => k_asm); (case k3 => k_asm); (case k4 => k_asm); (case k5 => k_asm); (case k6 => k_is); (case k7 => k_is); (case k8 => ktr_room); (case k9 => exact BindsTo.of_eq rfl); (case kB => exact rfl); (case kD => decide +kernel); (case c2 => exact rfl); (case c3 => exact rfl); (case c4 => exact rfl); k_whole; intro g' L' h' tk' cells' FG' F' N' Y' B' X' T' l1; (try k_lt l1); (have hY := CellsAre.one Y'); (obtain ⟨oc₀, hE', hoc₀⟩ := hY); subst hE'; (try simp only [List.cons_append, List.nil_append] at N'); (try dsimp only); (try k_lift B'); (try k_fold))
  repeat' ((fail_if_success (with_reducible show wpAny _ _ (exec (Stmt.For _ _ _ _ _) _) _ _ _)); first | (k_unfold; (try dsimp only)) | walk1 | (dsimp only; walk1))
  rename Fr _ _ _ _ => lF
  with_unfolding_all refine' For_turns lF ?_
  walk1
  rename News _ _ _ _ => lN
  rename_i D0 _ hD0 l0 _ hl0 _
  refine turns_seq (news := (L' + 1, oc₀) :: (news ++ [(l0, listOf [Value.ref D0].toArray 0), (D0, tupOb [] 0)]))
    (fun i mm nx => ∃ oc v₀ tl a us k, nx = (L' + 1, oc) :: (news ++ tl) ∧ oc.data = .cell v₀ ∧ Gt ((L' + 1, oc) :: news) tl ∧ mm (Str.ofString "rows") = some (.ref a) ∧ (a, listOf us.toArray k) ∈ tl ∧ TupsIn tl us (placesD (ns.take i)))
    rfl ?_ ho lF (news_sub lN ?_) ?_ ?_ ?_
  · exact List.mem_cons_of_mem _ (List.mem_append_left _ ht)
  · intro q hq
    simp only [List.mem_cons, List.mem_append, List.not_mem_nil, or_false] at hq ⊢
    rcases hq with h | h | h | h <;> simp [h]
  · refine ⟨oc₀, _, _, l0, _, _, rfl, hoc₀, ?_, rfl, List.mem_cons_self, .cons (List.mem_cons_of_mem _ List.mem_cons_self) .nil .nil⟩
    refine Gt.cons ?_ (Gt.cons ?_ Gt.nil)
    · exact ⟨hl0.2.1, hl0.2.2⟩
    · exact hD0
  · clear lN lF
    rintro i v m₁ nx own h tk hv hoff hkt ⟨oc, v₀, tl, a, us, k, rfl, hoc, hgt, hm, ha, hus⟩ F₁ N₁
    obtain ⟨n, tn, rfl, hn⟩ := IntsAre.at hI i v hv
    have F₂ := fr_know F₁ hm
    clear F₁
    repeat' ((fail_if_success (with_reducible show wpAny _ _ (exec (Stmt.For _ _ _ _ _) _) _ _ _)); first | (k_unfold; (try dsimp only)) | walk1 | (dsimp only; walk1))
    rename_i b0 _ hb0 _ F₃ N₃
    clear F₂ N₁
    with_unfolding_all refine' For_turns F₃ ?_
    walk1
    refine turns_seq (news := (L' + 1, oc) :: ((own ++ (news ++ tl)) ++ [(b0, listOf #[] 0)]))
      (fun j mm nx => ∃ oc v₀ tl2 b us2 k2, nx = (L' + 1, oc) :: ((own ++ (news ++ tl)) ++ tl2) ∧ oc.data = .cell v₀ ∧ Gt ((L' + 1, oc) :: (own ++ (news ++ tl))) tl2 ∧ mm (Str.ofString "s") = some (.int n tn) ∧ mm (Str.ofString "longer") = some (.ref b) ∧ (b, listOf us2.toArray k2) ∈ tl2 ∧ TupsIn tl2 us2 (((placesD (ns.take i)).take j).flatMap (rowsOf n)))
      rfl ?_ (SeqOb.lst (vs := us) (n := k)) F₃ (news_sub N₃ ?_) ?_ ?_ ?_
    · exact List.mem_cons_of_mem _ (List.mem_append_left _ (List.mem_append_right _ (List.mem_append_right _ ha)))
    · intro q hq
      simp only [List.mem_cons, List.mem_append, List.not_mem_nil, or_false] at hq ⊢
      rcases hq with h | (h | h | h) | h <;> simp [h]
    · refine ⟨oc, _, _, b0, [], 0, rfl, hoc, Gt.cons (allLt_of fun q hq => hb0 q ?_) Gt.nil, rfl, rfl, List.mem_cons_self, .nil⟩
      simp only [List.mem_cons, List.mem_append] at hq ⊢
      rcases hq with h | h | h | h <;> simp [h]
    · clear F₃ N₃
      rintro j v m₁ nx own2 h tk hv2 hoff2 hkt2 ⟨oc, v₀, tl2, b, us2, k2, rfl, hoc, hgt2, hms, hml, hbl, hus2⟩ F₁ N₁
      obtain ⟨a3, vs3, n3, row, rfl, hm3, hi3, hrow⟩ := hus.at j v hv2
      have F₂ := fr_know2 (fr_know F₁ hms) hml
      simp only [List.cons_append] at N₁
      clear F₁
      repeat' ((fail_if_success (with_reducible show wpAny _ _ (eval (Expr.ListComp _ _ _ _) _) _ _ _)); first | (k_unfold; (try dsimp only)) | walk1 | (dsimp only; walk1))
      refine store_cell F₂ N₁ rfl ?_ hoc ?_
      · intro q hq
        rcases List.mem_append.mp hq with hq | hq
        · rcases List.mem_append.mp hq with hq | hq
          · rcases List.mem_append.mp hq with hq | hq
            · exact hoff q hq _ (by simp)
            · rcases List.mem_append.mp hq with hq | hq
              · have h1 : (q.1 : Nat) < L' := l1 q hq
                have h2 : (L' : Nat) < L' + 1 := Nat.lt_succ_self _
                exact Nat.ne_of_lt (Nat.lt_trans h1 h2)
              · exact Nat.ne_of_gt (hgt _ List.mem_cons_self q hq)
          · exact Nat.ne_of_gt (hgt2 _ List.mem_cons_self q hq)
        · exact hoff2 q hq _ (by simp)
      intro h2 oc2 F₃ N₃ hoc2
      clear F₂ N₁
      repeat' ((fail_if_success (with_reducible show wpAny _ _ (eval (Expr.ListComp _ _ _ _) _) _ _ _)); first | (k_unfold; (try dsimp only)) | walk1 | (dsimp only; walk1))
      k_dflt (refine LCg.ListComp_U (F₀ := F₃) (by with_unfolding_all rfl) (by decide) (by rfl) (by decide) (by rfl) ?_)
      repeat' ((fail_if_success (with_reducible show LCg.CompSrc _ _ _ _ _ _ _ _ _ _ _ _ _ _)); first | (k_unfold; (try dsimp only)) | walk1 | (dsimp only; walk1))
      rename_i tk9 t9 u9 v9 hR F₄ N₄ _
      have hbn := hb n (List.mem_of_getElem? hn)
      refine LCg.CompSrc.range (n := n.toNat) rfl F₄ N₄ hR (small_one (by omega) (by omega) (by omega) (by omega)) (by rw [rangeSize_nat, Int.sub_zero]) (by rw [sizeLine_eq]; omega) fun g9 => ?_
      with_reducible refine comp_inv (fun i9 ys led => ∃ tl3, led = tl3 ++ (L' + 1, oc2) :: (own ++ (news ++ tl) ++ tl2 ++ own2) ∧ Gt ((L' + 1, oc2) :: (own ++ (news ++ tl) ++ tl2 ++ own2)) tl3 ∧ TupsIn tl3 ys ((List.range i9).map fun (k : Nat) => row ++ [(k : Int)])) ?_ ?_ ?_
      · exact ⟨[], rfl, Gt.nil, .nil⟩
      · rintro i9 v ys led I oI Cc oC D m₂ h3 tk3 E' hi9 ⟨t9, rfl⟩ ⟨tl3, rfl, hgt3, hys⟩ hC hx F₅ N₅ off5 ne5
        clear F₄ N₄
        walk1
        refine lcf_cell N₅ rfl (show (L' + 1, oc2) ∈ _ from ?_) hoc2 ?_ rfl rfl
        · simp

        repeat' ((fail_if_success (with_reducible show wpAny _ _ (binaryOp Operator.Add (Value.ref _) (Value.ref _)) _ _ _)); first | (k_unfold; (try dsimp only)) | walk1 | (dsimp only; walk1))
        rename_i T9 _ F6 N6 hT9
        have hi3 : IntsAre vs3 row := by assumption
        refine add_tup F6 N6 (vs := vs3) (n1 := n3) ?_ (ws := [.int (0 + (i9 : Int)) t9]) (n2 := 0) ?_ (by simp) ?_ ?_
        · simp [hm3]
        · simp
        · have h1 := placesD_len row (List.mem_of_getElem? hrow)
          have h2 := hi3.length
          rw [List.length_take] at h1
          simp only [List.length_cons, List.length_nil]
          omega
        · intro D6 k6 h6 add F7 N7 hga hD6
          have hT9' : Gt ((I, oI) :: (Cc, oC) :: (D, LCg.lst ys) :: (tl3 ++ (L' + 1, oc2) :: (own ++ (news ++ tl) ++ tl2 ++ own2))) [(T9, tupOb [.int (0 + (i9 : Int)) t9] 0)] := Gt.cons hT9 Gt.nil
          refine compEnd_grow (new := add ++ [(T9, tupOb [.int (0 + (i9 : Int)) t9] 0)]) F7 N7 off5 (Gt.app (hga.sub (by simp) (fun _ h => h)) (hT9'.sub (by simp) (fun _ h => h))) (by intro q hq; grind) trivial ⟨(add ++ [(T9, tupOb [.int (0 + (i9 : Int)) t9] 0)]) ++ tl3, (List.append_assoc _ _ _).symm, ?_, ?_⟩
          · exact Gt.app (Gt.app (hga.sub (by intro q hq; grind) (fun _ h => h)) (hT9'.sub (by intro q hq; grind) (fun _ h => h))) hgt3
          · rw [List.range_succ, List.map_append]
            refine (hys.mono (by intro q hq; grind)).append (.cons (n := k6) (vs := vs3 ++ [.int (0 + (i9 : Int)) t9]) (by grind) ?_ .nil)
            have := IntsAre.append hi3 (.cons (0 + (i9 : Int)) t9 .nil)
            rw [Int.zero_add] at this ⊢
            exact this
      · rintro ys led ⟨tl3, rfl, hgt3, hys⟩
        clear F₄ N₄
        unfold LCg.FinE
        intro D9 h9 tk9 F5 N5 o9
        dsimp only
        refine add_lst F5 N5 (vs := us2) (n1 := k2) ?_ (ws := ys) (n2 := ys.length) (by simp) ?_ ?_
        · simp [hbl]
        · have h1 := hus2.length
          have h2 := hys.length
          have h3 := flat_take_le (n := n) (placesD (ns.take i)) (j + 1)
          have h4 := hsz (i + 1)
          rw [placesD_step hn] at h4
          rw [flat_step hrow, List.length_append] at h3
          have h5 : (rowsOf n row).length = (List.map (fun (k : Nat) => row ++ [(k : Int)]) (List.range n.toNat)).length := rfl
          omega
        intro B9 h10 F6 N6 hB9
        clear F5 N5
        dsimp only
        k_steps
        refine InvEndG.intro (by assumption) (by assumption) ⟨?_, oc2, _, (B9, listOf (us2 ++ ys).toArray 0) :: (tl3 ++ tl2), B9, _, 0, rfl, hoc2, ?_, rfl, rfl, List.mem_cons_self, ?_⟩ ?_ ?_ ?_
        · intro q hq
          rw [List.mem_singleton.mp hq]
          simp [ha]
        · refine Gt.cons (allLt_sub hB9 (by intro q hq; grind)) (Gt.app (hgt3.sub (by intro q hq; grind) (fun _ h => h)) (Gt.re hgt2))
        · rw [flat_step hrow]
          exact (hus2.mono (by intro q hq; grind)).append (hys.mono (by intro q hq; grind))
        · refine off_of hoff2 fun q hq => ?_
          rcases List.mem_cons.mp hq with rfl | hq
          · exact .inl (by simp)
          rcases List.mem_append.mp hq with hq | hq
          · exact .inl (List.mem_map.mpr ⟨q, by grind, rfl⟩)
          rcases List.mem_cons.mp hq with rfl | hq
          · exact .inr fun p hp => ktn_ltOf hB9 p (by grind)
          rcases List.mem_append.mp hq with hq | hq
          · exact .inr fun p hp => hgt3 p (by grind) q hq
          · exact .inl (List.mem_map.mpr ⟨q, by grind, rfl⟩)
        · intro q hq
          grind
        · intro q hq
          grind
    · rintro m₁ nx h tk ⟨oc, v₀, tl2, b, us2, k2, rfl, hoc, hgt2, hms, hml, hbl, hus2⟩ hkt2 F₁ N₁
      have F₂ := fr_know2 (fr_know F₁ hms) hml
      clear F₁
      k_steps
      rw [hus.length, List.take_length] at hus2
      refine InvEndG.intro (by assumption) (by assumption) ⟨?_, oc, _, tl ++ tl2, b, us2, k2, rfl, hoc, ?_, rfl, List.mem_append_right _ hbl, ?_⟩ ?_ ?_ ?_
      · intro q hq
        rw [List.mem_singleton.mp hq]
        simp [ht]
      · exact Gt.app (Gt.re hgt) (hgt2.sub (by intro q hq; grind) (fun _ h => h))
      · rw [placesD_step hn]
        exact hus2.mono (by intro q hq; grind)
      · refine off_of hoff fun q hq => ?_
        rcases List.mem_cons.mp hq with rfl | hq
        · exact .inl (by simp)
        rcases List.mem_append.mp hq with hq | hq
        · exact .inl (List.mem_map.mpr ⟨q, by grind, rfl⟩)
        rcases List.mem_append.mp hq with hq | hq
        · exact .inl (List.mem_map.mpr ⟨q, by grind, rfl⟩)
        · exact .inr fun p hp => hgt2 p (by grind) q hq
      · intro q hq
        grind
      · intro q hq
        grind
  · clear lN lF
    rintro m₁ nx h tk ⟨oc, v₀, tl, a, us, k, rfl, hoc, hgt, hm, ha, hus⟩ hkt F₁ N₁
    have F₂ := fr_know F₁ hm
    clear F₁
    k_steps
    rw [hI.length, List.take_length] at hus
    exact ret a us k tl _ _ (by assumption) (news_sub (by assumption) (fun q hq => List.mem_cons_of_mem _ hq)) (hgt.sub (fun q hq => List.mem_cons_of_mem _ hq) (fun _ h => h)) ha hus
end
end Mine
end

section
open PySem PySem.W PyProof.Rows PySem.Calls PySem.Spec
namespace Mine
set_option maxRecDepth 100000

/-- one turn of the fewest rows -/
def fewStep (acc : List (Int × Int)) (p : Int × Int) : List (Int × Int) :=
  if p.1 = 1 then acc else match acc.getLast? with
    | some q => if q.2 = p.1 * p.2 then acc.dropLast ++ [(q.1 * p.1, p.2)] else acc ++ [p]
    | none => [p]
def fewD (ns ms : List Int) : List (Int × Int) := (ns.zip ms).foldl fewStep []
def prL (p : Int × Int) : List Int := [p.1, p.2]

theorem fewD_step {ns ms : List Int} {i : Nat} {a b : Int} (ha : ns[i]? = some a) (hb : ms[i]? = some b) : ((ns.zip ms).take (i + 1)).foldl fewStep [] = fewStep (((ns.zip ms).take i).foldl fewStep []) (a, b) := by
  have h : (ns.zip ms)[i]? = some (a, b) := by rw [List.getElem?_zip_eq_some]; exact ⟨ha, hb⟩
  rw [List.take_add_one, h]
  simp

theorem pairs_last {nx : List (Addr × Obj)} {us : List Value} {acc : List (Int × Int)} (h : TupsIn nx us (acc.map prL)) :
    (us = [] ∧ acc = []) ∨ ∃ us' a n q t t' acc', us = us' ++ [.ref a] ∧ acc = acc' ++ [q] ∧ (a, tupOb [.int q.1 t, .int q.2 t'] n) ∈ nx ∧ TupsIn nx us' (acc'.map prL) := by
  rcases List.eq_nil_or_concat acc with rfl | ⟨acc', q, rfl⟩
  · cases h; exact .inl ⟨rfl, rfl⟩
  · rw [List.concat_eq_append, List.map_append] at h
    obtain ⟨us', a, vs, n, rfl, h1, h2, h3⟩ := TupsIn.snoc h
    cases h3 with
    | cons _ t h3 =>
      cases h3 with
      | cons _ t' h3 =>
        cases h3
        exact .inr ⟨us', a, n, q, t, t', acc', rfl, by simp, h2, h1⟩

def FewJ (news : List (Addr × Obj)) (r0 : Addr) (ps : List (Int × Int)) (i : Nat) (mm : Str → Option Value) (nx : List (Addr × Obj)) : Prop :=
  ∃ us k tl, nx = (r0, listOf us.toArray k) :: (news ++ tl) ∧ Gt ((r0, listOf [].toArray 0) :: news) tl ∧ mm (Str.ofString "found") = some (.ref r0) ∧ TupsIn tl us (((ps.take i).foldl fewStep []).map prL) ∧ us.length ≤ i
theorem few_end {h₀ h' : Heap} {L r0 : Addr} {m' : Str → Option Value} {news tl own new all keep : List (Addr × Obj)} {o0 : Obj} {ps : List (Int × Int)} {i : Nat} {s₁ : Shared} {tk : Nat} (us2 : List Value) (k2 : Nat) (F : Fr h₀ L h' m') (N : News h₀ L h' all) (hk : ∀ q ∈ keep, q ∈ news)
    (hoff : OwnOff own (((r0, o0) :: (news ++ tl)).map (·.1))) (hgt : Gt ((r0, listOf [].toArray 0) :: news) tl) (hnew : Gt ((r0, listOf [].toArray 0) :: (news ++ tl ++ own)) new) (hm : m' (Str.ofString "found") = some (.ref r0))
    (hus : TupsIn (new ++ tl) us2 (((ps.take (i + 1)).foldl fewStep []).map prL)) (hl : us2.length ≤ i + 1) (sub : ∀ p ∈ new ++ ((r0, listOf us2.toArray k2) :: (news ++ tl ++ own)), p ∈ all) :
    InvEndG h₀ L (fun m' nx' => (∀ q ∈ keep, q ∈ nx') ∧ FewJ news r0 ps (i + 1) m' nx') own s₁ { s₁ with heap := h', toks := tk } := by
  refine InvEndG.intro F N ⟨fun q hq => List.mem_cons_of_mem _ (List.mem_append_left _ (hk q hq)), us2, k2, new ++ tl, rfl, ?_, hm, hus, hl⟩ ?_ (fun p hp => sub p (by grind)) (fun p hp => sub p (by grind))
  · exact Gt.app (hnew.sub (by intro q hq; grind) (fun _ h => h)) hgt
  · refine off_of hoff fun q hq => ?_
    rcases List.mem_cons.mp hq with rfl | hq
    · exact .inl (by simp)
    rcases List.mem_append.mp hq with hq | hq
    · exact .inl (List.mem_map.mpr ⟨q, by grind, rfl⟩)
    rcases List.mem_append.mp hq with hq | hq
    · exact .inr fun p hp => hnew p (by grind) q hq
    · exact .inl (List.mem_map.mpr ⟨q, by grind, rfl⟩)

section
local macro_rules | `(tactic| walk_at "truthy ref") => `(tactic| (k_here; (with_reducible show wpAny _ _ (truthy (Value.ref _)) _ _ _); k_dflt (first | (refine' truthy_nil ?N ?m ?_; (case N => k_asm); (case m => kcf_m)) | (refine' truthy_snoc ?N ?m ?z ?_; (case N => k_asm); (case m => kcf_m); (case z => first | omega | (simp only [List.length_append, List.length_cons, List.length_nil] at *; omega)))); intro tk'))
local macro_rules | `(tactic| walk_at "subscriptTail") => `(tactic| (k_here; (with_reducible show wpAny _ _ (subscriptTail _ _ (Value.ref _) (Value.int _ _)) _ _ _); k_dflt (refine' item_tup ?N ?m ?lo ?hi ?j ?x ?_ ?s; (case N => k_asm); (case m => kcf_m); (case lo => decide); (case hi => decide); (case j => rfl); (case x => rfl); (case s => with_unfolding_all rfl))))
local macro_rules | `(tactic| walk_at "subscriptTail") => `(tactic| (k_here; (with_reducible show wpAny _ _ (subscriptTail _ _ (Value.ref _) (Value.int _ _)) _ _ _); k_dflt (refine' last_sub ?N ?m ?k ?_ ?s ?g; (case N => k_asm); (case m => kcf_m); (case k => rfl); (case s => with_unfolding_all rfl); (case g => (intro _; with_unfolding_all rfl)))))
local macro_rules | `(tactic| k_all) => `(tactic| assumption)
local macro_rules | `(tactic| walk_at "call builtin:list.append") => `(tactic| (k_here; (try dsimp only); (try simp only [List.cons_append, List.nil_append]); (with_reducible show wpAny _ _ (call (Value.builtin _) [Value.ref _, _]) _ _ _); k_dflt (refine' app_U ?F ?N ?U ?z ?_; (case F => k_asm); (case N => k_asm); (case U => k_upd); (case z => first | omega | (simp only [List.length_append, List.length_cons, List.length_nil]; omega))); intro h' F' N'))
local macro_rules | `(tactic| walk_at "setItem ref int") => `(tactic| (k_here; (with_reducible show wpAny _ _ (setItem (Value.ref _) (Value.int _ _) _) _ _ _); k_dflt (refine' last_setU ?F ?N ?U ?k ?_; (case F => k_asm); (case N => k_asm); (case U => k_upd); (case k => rfl)); intro h' F' N'))
variable {w : World} {p : Program} {loose : List Str} {mean : ExcName → Option Value} {mg mb : Str → Option Value} {dp un : Nat} {gd : Option (List Code)} {cn : Str} {cs : Scope} {aa : Addr} {ccd : Value} {cl : List (Str × Addr)} {outer : List Env} {A₀ : Around} {base h₀ : Heap} {L : Addr} {m : Str → Option Value} {s : Shared} {Q E : Value → Shared → Prop}

set_option maxHeartbeats 1000000 in
theorem fewest_spec (t1 t2 : Addr) (n1 n2 : Nat) (vs ws : List Value) (ns ms : List Int) (news : List (Addr × Obj))
  (C : Cx w p loose mean mg mb dp un cs outer A₀ base h₀ L m s.heap news)
  (ht1 : (t1, tupOb vs n1) ∈ news) (ht2 : (t2, tupOb ws n2) ∈ news) (hI1 : IntsAre vs ns) (hI2 : IntsAre ws ms) (hlen : ms.length = ns.length) (hl : ns.length ≤ 100) (hb : ∀ n ∈ ns, -1000000 < n ∧ n < 1000000) (hdp : dp < 900) (hun : un < 9000)
  (ret : ∀ a us k tl h' tk', Fr h₀ L h' m → News h₀ L h' (news ++ tl) → Gt news tl → (a, listOf us.toArray k) ∈ tl → TupsIn tl us ((fewD ns ms).map prL) → Q (.ref a) { s with heap := h', toks := tk' }) :
  wpAny (model PySem.Challenge.rw_au0024_01.row.prog w) (ktrTop dp un gd cn cs L aa ccd cl outer) (call (.ref 63) [.ref t1, .ref t2]) Q E s := by
  obtain ⟨B, F, X, N, T, hk⟩ := C
  revert X; k_fill; intro X
  refine wpAny_call ?_
  k_dflt ktr_enter
  rename_i g' L' h' FG' F' N' B' X' T'
  repeat' ((fail_if_success (with_reducible show wpAny _ _ (exec (Stmt.For _ _ _ _ _) _) _ _ _)); first | (k_unfold; (try dsimp only)) | walk1 | (dsimp only; walk1))
  rename Fr _ _ _ _ => lF
  with_unfolding_all refine' For_turns lF ?_
  repeat' ((fail_if_success (with_reducible show wpAny _ _ (call (Value.type _) _) _ _ _)); first | (k_unfold; (try dsimp only)) | walk1 | (dsimp only; walk1))
  rename_i r0 _ hr0 _ lN
  refine for_zip (FewJ news r0 (ns.zip ms))
    rfl (List.mem_cons_of_mem _ ht1) (List.mem_cons_of_mem _ ht2) (by rw [hI1.length, hI2.length, hlen]) lF lN ⟨[], 0, [], by rw [List.append_nil], Gt.nil, rfl, .nil, Nat.zero_le _⟩ rfl rfl rfl ?_ ?_
  · clear lN lF
    rintro i a b m₁ nx own g0 t0 h tk ha hb' hoff hk1 hk2 ⟨us, k, tl, rfl, hgt, hm, hus, hul⟩ F₁ N₁
    obtain ⟨x, tx, rfl, hx⟩ := IntsAre.at hI1 i a ha
    obtain ⟨y, ty, rfl, hy⟩ := IntsAre.at hI2 i b hb'
    have hbx := hb x (List.mem_of_getElem? hx)
    have hi : i < ns.length := (List.getElem?_eq_some_iff.mp hx).1
    have F₂ := fr_know3 F₁ hm
    clear F₁
    simp only [List.cons_append] at N₁
    have hoR : ∀ p ∈ news ++ tl ++ own, p.1 ≠ r0 := by
      intro q hq
      rcases List.mem_append.mp hq with hq | hq
      · rcases List.mem_append.mp hq with hq | hq
        · exact Nat.ne_of_lt (hr0 q hq)
        · exact Nat.ne_of_gt (hgt _ List.mem_cons_self q hq)
      · exact hoff q hq _ (by simp)
    rcases pairs_last hus with ⟨rfl, hA⟩ | ⟨us', a', n', q, t', t'', acc', rfl, hA, hm', hus'⟩
    · k_steps
      · refine few_end [] k (by assumption) (by assumption) (by simp [ht1, ht2]) hoff hgt Gt.nil rfl ?_ (by simp) (fun p hp => hp)
        rw [fewD_step hx hy, hA]
        simp only [fewStep, if_pos ‹x = 1›]
        exact .nil
      · rename_i D9 _ _ _ hD9 _ _ N9
        refine few_end (new := [(D9, tupOb [.int x tx, .int y ty] 0)]) [.ref D9] (k + 1) (by assumption) N9 (by simp [ht1, ht2]) hoff hgt (Gt.cons hD9 Gt.nil) rfl ?_ (by simp) (fun p hp => hp)
        rw [fewD_step hx hy, hA]
        simp only [fewStep, if_neg ‹x ≠ 1›]
        exact .cons (List.mem_cons_self) (.cons _ _ (.cons _ _ .nil)) .nil
    · have hm'' : (a', tupOb [.int q.1 t', .int q.2 t''] n') ∈ news ++ tl ++ own := by grind
      k_steps
      · refine few_end (us' ++ [.ref a']) k (by assumption) (by assumption) (by simp [ht1, ht2]) hoff hgt Gt.nil rfl ?_ (by omega) (fun p hp => hp)
        rw [fewD_step hx hy]
        rw [hA] at hus ⊢
        simp only [fewStep, if_pos ‹x = 1›]
        exact hus
      · have hne : x ≠ 1 := by assumption
        have hq : q.2 = x * y := by assumption
        rename_i D9 _ _ _ hD9 _ _ N9
        refine' few_end (new := [(D9, _)]) (us' ++ [.ref D9]) k (by assumption) N9 (by simp [ht1, ht2]) hoff hgt (Gt.cons hD9 Gt.nil) rfl ?hus (by simp at hul ⊢; omega) ?sub
        case sub => exact fun p hp => hp
        case hus =>
          rw [fewD_step hx hy, hA]
          simp only [fewStep, if_neg hne, List.getLast?_append, List.getLast?_singleton, Option.some_or, if_pos hq, List.dropLast_concat, List.map_append, List.map_cons, List.map_nil]
          exact (hus'.mono (fun p hp => List.mem_cons_of_mem _ hp)).append (.cons (List.mem_cons_self) (.cons _ _ (.cons _ _ .nil)) .nil)
      · have hne : x ≠ 1 := by assumption
        have hq : q.2 ≠ x * y := by assumption
        rename_i D9 _ _ _ hD9 _ _ N9
        refine' few_end (new := [(D9, _)]) (us' ++ [.ref a'] ++ [.ref D9]) (k + 1) (by assumption) N9 (by simp [ht1, ht2]) hoff hgt (Gt.cons hD9 Gt.nil) rfl ?hus (by simp at hul ⊢; omega) ?sub
        case sub => exact fun p hp => hp
        case hus =>
          rw [fewD_step hx hy]
          rw [hA] at hus ⊢
          simp only [fewStep, if_neg hne, List.getLast?_append, List.getLast?_singleton, Option.some_or, if_neg hq]
          rw [List.map_append]
          exact (hus.mono (fun p hp => List.mem_cons_of_mem _ hp)).append (.cons (List.mem_cons_self) (.cons _ _ (.cons _ _ .nil)) .nil)
  · clear lN lF
    rintro m₁ nx h tk ⟨us, k, tl, rfl, hgt, hm, hus, hul⟩ hk1 hk2 F₁ N₁
    have F₂ := fr_know F₁ hm
    clear F₁
    k_steps
    rw [List.take_of_length_le (by rw [List.length_zip, hI1.length]; omega)] at hus
    refine ret r0 us k ((r0, listOf us.toArray k) :: tl) _ _ (by assumption) (news_sub (by assumption) (by intro q hq; grind)) ?_ List.mem_cons_self (hus.mono (fun p hp => List.mem_cons_of_mem _ hp))
    exact Gt.cons (allLt_of hr0) (hgt.sub (fun q hq => List.mem_cons_of_mem _ hq) (fun _ h => h))
end
end Mine
end

section
open PySem PySem.W PyProof.Rows PySem.Calls PySem.Spec
namespace Mine
set_option maxRecDepth 100000

/-- one turn of the merge -/
def mStep (σ : List (Int × Int × Int) × Bool) (p : Int × Int) : List (Int × Int × Int) × Bool :=
  if p.1 = 1 then σ else match σ.1.getLast? with
    | some q => if σ.2 = true ∨ q.2.1 = p.1 * p.2 then (σ.1.dropLast ++ [(q.1 * p.1, p.2, if p.2 = 0 then 0 else if σ.2 = true then p.1 else q.2.2 * p.1)], false)
      else (σ.1 ++ [(p.1, p.2, if p.2 = 0 then 0 else p.1)], false)
    | none => σ
def mStart (v0 w0 : Int) : List (Int × Int × Int) × Bool := ([(v0, w0, if w0 = 0 then 0 else v0)], v0 == 1)
def mergeD (v0 w0 : Int) (ns ms : List Int) : List (Int × Int × Int) := ((ns.zip ms).foldl mStep (mStart v0 w0)).1
def trL (p : Int × Int × Int) : List Int := [p.1, p.2.1, p.2.2]

theorem mStep_one {σ : List (Int × Int × Int) × Bool} {x y : Int} (h : x = 1) : mStep σ (x, y) = σ := by simp only [mStep, if_pos h]
theorem mStep_join {σ : List (Int × Int × Int) × Bool} {x y : Int} {acc : List (Int × Int × Int)} {q : Int × Int × Int} (h : x ≠ 1) (hs : σ.1 = acc ++ [q]) (hq : σ.2 = true ∨ q.2.1 = x * y) :
    mStep σ (x, y) = (acc ++ [(q.1 * x, y, if y = 0 then 0 else if σ.2 = true then x else q.2.2 * x)], false) := by
  have e : σ.1.getLast? = some q := by rw [hs]; simp
  have e2 : σ.1.dropLast = acc := by rw [hs]; simp
  simp only [mStep, if_neg h, e, if_pos hq, e2]
theorem mStep_new {σ : List (Int × Int × Int) × Bool} {x y : Int} {acc : List (Int × Int × Int)} {q : Int × Int × Int} (h : x ≠ 1) (hs : σ.1 = acc ++ [q]) (hb : σ.2 = false) (hq : q.2.1 ≠ x * y) :
    mStep σ (x, y) = (σ.1 ++ [(x, y, if y = 0 then 0 else x)], false) := by
  have e : σ.1.getLast? = some q := by rw [hs]; simp
  simp only [mStep, if_neg h, e, if_neg (show ¬ (σ.2 = true ∨ q.2.1 = x * y) by rw [hb]; simp [hq])]
theorem mSt_step {ns ms : List Int} {i : Nat} {a b : Int} {σ₀ : List (Int × Int × Int) × Bool} (ha : ns[i]? = some a) (hb : ms[i]? = some b) : ((ns.zip ms).take (i + 1)).foldl mStep σ₀ = mStep (((ns.zip ms).take i).foldl mStep σ₀) (a, b) := by
  have h : (ns.zip ms)[i]? = some (a, b) := by rw [List.getElem?_zip_eq_some]; exact ⟨ha, hb⟩
  rw [List.take_add_one, h]
  simp
theorem trs_last {nx : List (Addr × Obj)} {us : List Value} {acc : List (Int × Int × Int)} (h : TupsIn nx us (acc.map trL)) (hne : acc ≠ []) :
    ∃ us' a n q t ta tb acc', us = us' ++ [.ref a] ∧ acc = acc' ++ [q] ∧ (a, tupOb [.int q.1 t, .int q.2.1 ta, .int q.2.2 tb] n) ∈ nx ∧ TupsIn nx us' (acc'.map trL) := by
  rcases List.eq_nil_or_concat acc with rfl | ⟨acc', q, rfl⟩
  · exact absurd rfl hne
  · rw [List.concat_eq_append, List.map_append] at h
    obtain ⟨us', a, vs, n, rfl, h1, h2, h3⟩ := TupsIn.snoc h
    cases h3 with
    | cons _ t h3 =>
      cases h3 with
      | cons _ ta h3 =>
        cases h3 with
        | cons _ tb h3 =>
          cases h3
          exact ⟨us', a, n, q, t, ta, tb, acc', rfl, by simp, h2, h1⟩

def MrgJ (news : List (Addr × Obj)) (r0 : Addr) (σ₀ : List (Int × Int × Int) × Bool) (ps : List (Int × Int)) (i : Nat) (mm : Str → Option Value) (nx : List (Addr × Obj)) : Prop :=
  ∃ us k tl b σ, nx = (r0, listOf us.toArray k) :: (news ++ tl) ∧ Gt news tl ∧ (∀ p ∈ tl, p.1 ≠ r0) ∧ mm (Str.ofString "ret") = some (.ref r0) ∧ mm (Str.ofString "merging") = some (.bool b) ∧ mm (Str.ofString "mask") = some .none ∧ σ = (ps.take i).foldl mStep σ₀ ∧ σ.2 = b ∧ σ.1 ≠ [] ∧ TupsIn tl us (σ.1.map trL) ∧ us.length ≤ i + 1

theorem fr_knowM {h₀ h : Heap} {L : Addr} {m : Str → Option Value} {a b c y1 y2 y3 : Str} {va vb vc u1 u2 u3 : Value} (F : Fr h₀ L h (fun z => if z = c then some vc else if z = b then some vb else if z = a then some va else m z)) (e1 : m y1 = some u1) (e2 : m y2 = some u2) (e3 : m y3 = some u3) :
    Fr h₀ L h (fun z => if z = c then some vc else if z = b then some vb else if z = a then some va else if z = y1 then some u1 else if z = y2 then some u2 else if z = y3 then some u3 else m z) := by
  have key : ∀ z, (if z = y1 then some u1 else if z = y2 then some u2 else if z = y3 then some u3 else m z) = m z := by
    intro z
    by_cases h1 : z = y1
    · rw [if_pos h1, h1, e1]
    · rw [if_neg h1]
      by_cases h2 : z = y2
      · rw [if_pos h2, h2, e2]
      · rw [if_neg h2]
        by_cases h3 : z = y3
        · rw [if_pos h3, h3, e3]
        · rw [if_neg h3]
  simp only [key]
  exact F

theorem mrg_end {h₀ h' : Heap} {L r0 : Addr} {m' : Str → Option Value} {news tl own new all keep : List (Addr × Obj)} {o0 o1 : Obj} {ps : List (Int × Int)} {σ₀ : List (Int × Int × Int) × Bool} {i : Nat} {s₁ : Shared} {tk : Nat} (us2 : List Value) (k2 : Nat) (b2 : Bool) (σ2 : List (Int × Int × Int) × Bool) (F : Fr h₀ L h' m') (N : News h₀ L h' all) (hk : ∀ q ∈ keep, q ∈ news ++ tl)
    (hoff : OwnOff own (((r0, o0) :: (news ++ tl)).map (·.1))) (hgt : Gt news tl) (hr : ∀ p ∈ tl, p.1 ≠ r0) (hnew : Gt ((r0, o1) :: (news ++ tl ++ own)) new) (hm1 : m' (Str.ofString "ret") = some (.ref r0)) (hm2 : m' (Str.ofString "merging") = some (.bool b2)) (hm3 : m' (Str.ofString "mask") = some .none)
    (hσ : σ2 = (ps.take (i + 1)).foldl mStep σ₀) (hb : σ2.2 = b2) (hne : σ2.1 ≠ []) (hus : TupsIn (new ++ tl) us2 (σ2.1.map trL)) (hl : us2.length ≤ i + 1 + 1) (sub : ∀ p ∈ new ++ ((r0, listOf us2.toArray k2) :: (news ++ tl ++ own)), p ∈ all) :
    InvEndG h₀ L (fun m' nx' => (∀ q ∈ keep, q ∈ nx') ∧ MrgJ news r0 σ₀ ps (i + 1) m' nx') own s₁ { s₁ with heap := h', toks := tk } := by
  refine InvEndG.intro F N ⟨fun q hq => List.mem_cons_of_mem _ ?_, us2, k2, new ++ tl, b2, σ2, rfl, ?_, ?_, hm1, hm2, hm3, hσ, hb, hne, hus, hl⟩ ?_ (fun p hp => sub p (by grind)) (fun p hp => sub p (by grind))
  · have := hk q hq
    grind
  · exact Gt.app (hnew.sub (by intro q hq; grind) (fun _ h => h)) hgt
  · intro p hp
    rcases List.mem_append.mp hp with hp | hp
    · exact Nat.ne_of_gt (hnew _ List.mem_cons_self p hp)
    · exact hr p hp
  · refine off_of hoff fun q hq => ?_
    rcases List.mem_cons.mp hq with rfl | hq
    · exact .inl (by simp)
    rcases List.mem_append.mp hq with hq | hq
    · exact .inl (List.mem_map.mpr ⟨q, by grind, rfl⟩)
    rcases List.mem_append.mp hq with hq | hq
    · exact .inr fun p hp => hnew p (by grind) q hq
    · exact .inl (List.mem_map.mpr ⟨q, by grind, rfl⟩)

section
local macro_rules | `(tactic| walk_at "assign Tuple") => `(tactic| (k_here; (with_reducible show wpAny _ _ (assign (Expr.Tuple _ _ _) _ (Value.ref _)) _ _ _); k_dflt (refine' unpackN_ ?F ?N ?T ?k1 ?k2 ?k3 ?_; (case F => k_asm); (case N => k_asm); (case T => refine isTup_of (by k_asm) (by kcf_m)); (case k1 => exact rfl); (case k2 => exact rfl); (case k3 => exact rfl)); intro h' F' N'; (try k_sweep)))
local macro_rules | `(tactic| walk_at "call type:tuple") => `(tactic| (k_here; (with_reducible show wpAny _ _ (call (Value.type _) [Value.ref _]) _ _ _); k_dflt (refine' tupleOf_lst ?F ?N ?m ?z ?_; (case F => k_asm); (case N => k_asm); (case m => kcf_m); (case z => omega)); intro D' h' F' N' l1))
local macro_rules | `(tactic| walk_at "subscriptTail") => `(tactic| (k_here; (with_reducible show wpAny _ _ (subscriptTail _ _ (Value.ref _) (Value.int _ _)) _ _ _); k_dflt (refine' last_sub ?N ?m ?k ?_ ?s ?g; (case N => k_asm); (case m => kcf_m); (case k => rfl); (case s => with_unfolding_all rfl); (case g => (intro _; with_unfolding_all rfl)))))
local macro_rules | `(tactic| k_all) => `(tactic| assumption)
local macro_rules | `(tactic| walk_at "call builtin:list.append") => `(tactic| (k_here; (try dsimp only); (try simp only [List.cons_append, List.nil_append]); (with_reducible show wpAny _ _ (call (Value.builtin _) [Value.ref _, _]) _ _ _); k_dflt (refine' app_U ?F ?N ?U ?z ?_; (case F => k_asm); (case N => k_asm); (case U => k_upd); (case z => first | omega | (simp only [List.length_append, List.length_cons, List.length_nil] at *; omega))); intro h' F' N'))
local macro_rules | `(tactic| walk_at "setItem ref int") => `(tactic| (k_here; (with_reducible show wpAny _ _ (setItem (Value.ref _) (Value.int _ _) _) _ _ _); k_dflt (refine' last_setU ?F ?N ?U ?k ?_; (case F => k_asm); (case N => k_asm); (case U => k_upd); (case k => rfl)); intro h' F' N'))
local macro_rules | `(tactic| walk_at "callWith") => `(tactic| ((with_reducible show wpAny _ _ (callWith _ (Value.type _) [] _ (backToKw _ (keywordEach (_ :: _) _))) _ _ _); refine callWith_type_kw ?_))
local macro_rules | `(tactic| walk_at "subscriptTail") => `(tactic| (k_here; (with_reducible show wpAny _ _ (subscriptTail _ _ (Value.ref _) (Value.int 0 _)) _ _ _); k_dflt (refine' item0 ?N ?m ?_ ?s; (case N => k_asm); (case m => kcf_m); (case s => with_unfolding_all rfl))))
local macro_rules | `(tactic| walk_at "subscriptTail Name Slice ref ref") => `(tactic| (k_here; (with_reducible show wpAny _ _ (subscriptTail _ (PySem.Expr.Slice _ _ none _) (Value.ref _) (Value.ref _)) _ _ _); k_dflt (refine' from_tup ?F ?N ?m ?k ?h1 ?h2 ?z ?_ ?s ?g; (case F => k_asm); (case N => k_asm); (case m => kcf_m); (case k => rfl); (case h1 => decide); (case h2 => (simp only [List.length_cons]; omega)); (case z => (simp only [List.length_cons]; omega)); (case s => with_unfolding_all rfl); (case g => (intro _; with_unfolding_all rfl))); intro D' h' F' N' l1))
local macro_rules | `(tactic| walk_at "truthy ref") => `(tactic| (k_here; (with_reducible show wpAny _ _ (truthy (Value.ref _)) _ _ _); k_dflt (refine' truthy_tup ?N ?m ?z ?_; (case N => k_asm); (case m => kcf_m); (case z => omega)); intro tk'))
local macro_rules | `(tactic| walk_at "call builtin:len") => `(tactic| (k_here; (with_reducible show wpAny _ _ (call (Value.builtin "len") [Value.ref _]) _ _ _); k_dflt (refine' len_tup ?N ?m ?k ?z ?_; (case N => k_asm); (case m => kcf_m); (case k => with_reducible assumption); (case z => omega)); intro tk' tk''))
variable {w : World} {p : Program} {loose : List Str} {mean : ExcName → Option Value} {mg mb : Str → Option Value} {dp un : Nat} {gd : Option (List Code)} {cn : Str} {cs : Scope} {aa : Addr} {ccd : Value} {cl : List (Str × Addr)} {outer : List Env} {A₀ : Around} {base h₀ : Heap} {L : Addr} {m : Str → Option Value} {s : Shared} {Q E : Value → Shared → Prop}

set_option maxHeartbeats 1000000 in
theorem merge_spec (t1 t2 : Addr) (v0 w0 : Int) (tv tw : Tok) (vs ws : List Value) (ns ms : List Int) (news : List (Addr × Obj))
  (C : Cx w p loose mean mg mb dp un cs outer A₀ base h₀ L m s.heap news)
  (ht1 : (t1, tupOb (.int v0 tv :: vs) 0) ∈ news) (ht2 : (t2, tupOb (.int w0 tw :: ws) 0) ∈ news) (hI1 : IntsAre vs ns) (hI2 : IntsAre ws ms) (hlen : ms.length = ns.length) (hl : ns.length ≤ 100) (hv0 : -1000000 < v0 ∧ v0 < 1000000) (hb : ∀ n ∈ ns, -1000000 < n ∧ n < 1000000) (hdp : dp < 900) (hun : un < 9000)
  (ret : ∀ a us tl h' tk', Fr h₀ L h' m → News h₀ L h' (news ++ tl) → Gt news tl → (a, tupOb us 0) ∈ tl → TupsIn tl us ((mergeD v0 w0 ns ms).map trL) → Q (.ref a) { s with heap := h', toks := tk' }) :
  wpAny (model PySem.Challenge.rw_au0024_01.row.prog w) (ktrTop dp un gd cn cs L aa ccd cl outer) (call (.ref 22) [.ref t1, .ref t2]) Q E s := by
  obtain ⟨B, F, X, N, T, hk⟩ := C
  have hlv : vs.length ≤ 1000 := by rw [hI1.length]; omega
  have hlw : ws.length ≤ 1000 := by rw [hI2.length]; omega
  have hL1 : (Value.int v0 tv :: vs).length = ns.length + 1 := by rw [List.length_cons, hI1.length]
  have hL2 : (Value.int w0 tw :: ws).length = ns.length + 1 := by rw [List.length_cons, hI2.length, hlen]
  revert X; k_fill; intro X
  refine wpAny_call ?_
  k_dflt (refine' code_def ?k1 ?k2 ?k3 ?k4 ?k5 ?kA ?kF ?kK ?k6 ?k7 ?k8 ?k9 ?kB ?_ ?c2 ?c3 ?c4 ?c5; (case kA => exact rfl); (case kF => exact rfl); (case kK => assumption); (case k1 => k_asm); (case k2 => k_asm); (case k3 => k_asm); (case k4 => k_asm); (case k5 => k_asm); (case k6 => k_is); (case k7 => k_is); (case k8 => ktr_room); (case k9 => first | exact BindsTo.of_eq rfl | exact binds_K (by k_in) rfl (by k_is) rfl rfl rfl); (case c5 => decide); (case kB => exact locs rfl); (case c2 => exact rfl); (case c3 => exact rfl); (case c4 => exact rfl); k_whole; intro g' L' h' FG' F' N' B' X' T'; (try dsimp only); (try k_fold))
  repeat' ((fail_if_success (with_reducible show wpAny _ _ (eval (Expr.IfExp _ _ _ _) _) _ _ _)); first | (k_unfold; (try dsimp only)) | walk1 | (dsimp only; walk1))
  rotate_left
  · exfalso; rename ¬ _ => hbad; exact hbad rfl
  refine join_int (if w0 = 0 then 0 else v0) ?_ ?_
  · k_steps
    · exact ⟨tv, _, by rw [if_neg ‹w0 ≠ 0›], rfl⟩
    · exact ⟨_, _, by rw [if_pos ‹w0 = 0›], rfl⟩
  intro tj tkj
  repeat' ((fail_if_success (with_reducible show wpAny _ _ (exec (Stmt.For _ _ _ _ _) _) _ _ _)); first | (k_unfold; (try dsimp only)) | walk1 | (dsimp only; walk1))
  rename Fr _ _ _ _ => lF
  with_unfolding_all refine' wpAny_For ?_ ?_
  repeat' ((fail_if_success (with_reducible show wpAny _ _ (call (Value.type "zip") _) _ _ _)); first | (k_unfold; (try dsimp only)) | walk1 | (dsimp only; walk1))
  rename_i D0 _ hD0 r0 _ hr0 _ _ _ D1 _ _ _ hD1 Dn _ F9 N9 hDn
  clear lF
  have g1 := (N9 (D1, _) (List.mem_cons_of_mem _ List.mem_cons_self)).1
  have g2 := (N9 (Dn, _) List.mem_cons_self).1
  refine call_zipT (xs := vs.toArray) (ys := ws.toArray) ⟨_, g1, rfl, _, rfl⟩ ⟨_, g2, rfl, _, rfl⟩ fun h9 hz9 hZ9 keep9 => ?_
  repeat' ((fail_if_success (with_reducible show wpAny _ _ (call (Value.type "enumerate") _ _) _ _ _)); first | (k_unfold; (try dsimp only)) | walk1 | (dsimp only; walk1))
  have hnew9 : ∀ p ∈ (Dn, tupOb ws 0) :: (D1, tupOb vs 0) :: (r0, listOf [Value.ref D0].toArray 0) :: (D0, tupOb [.int v0 tv, .int w0 tw, .int (if w0 = 0 then 0 else v0) tj] 0) :: news, (p.1 : Nat) < _ := fun p hp => Heap.lt_size (N9 p hp).1
  refine for_enum (news := (r0, listOf [Value.ref D0].toArray 0) :: (news ++ [(Dn, tupOb ws 0), (D1, tupOb vs 0), (D0, tupOb [.int v0 tv, .int w0 tw, .int (if w0 = 0 then 0 else v0) tj] 0)])) (MrgJ news r0 (mStart v0 w0) (ns.zip ms))
    rfl (by passes_own) (l1 := D1) (l2 := Dn) (us := vs) (vs := ws) (n1 := 0) (n2 := 0) (by simp) (by simp) (by rw [hI1.length, hI2.length, hlen]) (F9.keeps keep9) (news_sub (N9.grown keep9) ?_) hz9 hZ9 (fun p hp => hnew9 p (by grind)) F9.ns.lt ?_ ?_ rfl rfl rfl rfl ?_ ?_
  · intro q hq
    simp at hq ⊢
    grind
  · intro b hb'
    cases e : Heap.get? _ b with
    | none => rfl
    | some o => exact absurd (Heap.lt_size (F9.keep b o e)) (Nat.not_lt.mpr hb')
  · refine ⟨[Value.ref D0], 0, _, _, _, rfl, ?_, ?_, rfl, rfl, rfl, rfl, rfl, ?_, ?_, Nat.le_refl _⟩
    · exact Gt.cons (allLt_sub hDn (by intro q hq; grind)) (Gt.cons (allLt_sub hD1 (by intro q hq; grind)) (Gt.cons (allLt_of hD0) Gt.nil))
    · have h1 : (r0 : Nat) < D1 := ktn_ltOf hD1 (r0, listOf [Value.ref D0].toArray 0) List.mem_cons_self
      have h2 : (r0 : Nat) < Dn := ktn_ltOf hDn (r0, listOf [Value.ref D0].toArray 0) (List.mem_cons_of_mem _ List.mem_cons_self)
      have h3 : (D0 : Nat) < r0 := hr0.1
      intro p hp
      simp at hp
      rcases hp with rfl | rfl | rfl
      · exact Nat.ne_of_gt h2
      · exact Nat.ne_of_gt h1
      · exact Nat.ne_of_lt h3
    · simp [mStart]
    · exact .cons (List.mem_cons_of_mem _ (List.mem_cons_of_mem _ List.mem_cons_self)) (.cons _ _ (.cons _ _ (.cons _ _ .nil))) .nil
  · clear N9 F9
    rintro i a b' j tj' m₁ nx own g0 t0 h tk ha hb' hoff hk1 hk2 ⟨us, k, tl, b, σ, rfl, hgt, hr, hm1, hm2, hm3, hσ, hσb, hσn, hus, hul⟩ F₁ N₁
    obtain ⟨x, tx, rfl, hx⟩ := IntsAre.at hI1 i a ha
    obtain ⟨y, ty, rfl, hy⟩ := IntsAre.at hI2 i b' hb'
    have hbx := hb x (List.mem_of_getElem? hx)
    have hi : i < ns.length := (List.getElem?_eq_some_iff.mp hx).1
    have F₂ := fr_knowM F₁ hm1 hm2 hm3
    clear F₁
    simp only [List.cons_append] at N₁
    have hoR : ∀ p ∈ news ++ tl ++ own, p.1 ≠ r0 := by
      intro q hq
      rcases List.mem_append.mp hq with hq | hq
      · rcases List.mem_append.mp hq with hq | hq
        · exact Nat.ne_of_lt (ktn_ltOf hr0.2 q hq)
        · exact hr q hq
      · exact hoff q hq _ (by simp)
    obtain ⟨us', a', n', q, t', ta, tb, acc', rfl, hA, hm', hus'⟩ := trs_last hus hσn
    have hm'' : (a', tupOb [.int q.1 t', .int q.2.1 ta, .int q.2.2 tb] n') ∈ news ++ tl ++ own := by grind
    have hkeep : ∀ q ∈ [(D1, tupOb vs 0), (Dn, tupOb ws 0)], q ∈ news ++ tl := by
      have c1 : (D1, tupOb vs 0) ≠ (r0, W.listOf (us' ++ [Value.ref a']).toArray k) := by
        intro e
        have := congrArg (fun p => p.2.cls) e
        simp [W.listOf] at this
      have c2 : (Dn, tupOb ws 0) ≠ (r0, W.listOf (us' ++ [Value.ref a']).toArray k) := by
        intro e
        have := congrArg (fun p => p.2.cls) e
        simp [W.listOf] at this
      intro q hq
      simp only [List.mem_cons, List.not_mem_nil, or_false] at hq
      rcases hq with rfl | rfl
      · exact (List.mem_cons.mp hk1).resolve_left c1
      · exact (List.mem_cons.mp hk2).resolve_left c2
    cases b
    · k_steps
      · refine mrg_end (o1 := W.listOf #[] 0) (us' ++ [Value.ref a']) k false σ (by assumption) (by assumption) hkeep hoff hgt hr Gt.nil rfl rfl rfl ?_ hσb hσn hus (by omega) (fun p hp => hp)
        rw [mSt_step hx hy, ← hσ, mStep_one (by assumption)]
      · rename_i D9 _ hD9 _ _ _ N9
        have hx1 : x ≠ 1 := by assumption
        refine' mrg_end (o1 := W.listOf (us' ++ [Value.ref a']).toArray k) (new := [(D9, _)]) (us' ++ [Value.ref D9]) k _ _ (by assumption) N9 hkeep hoff hgt hr (Gt.cons hD9 Gt.nil) rfl rfl rfl rfl ?hb ?hne ?hus (by simp at hul ⊢; omega) ?sub
        case sub => exact fun p hp => hp
        all_goals rw [mSt_step hx hy, ← hσ, mStep_join hx1 hA (.inr ‹q.2.1 = x * y›), if_neg ‹y ≠ 0›, hσb]
        case hb => simp [hx1]
        case hne => simp
        case hus =>
          rw [List.map_append]
          exact (hus'.mono (fun p hp => List.mem_cons_of_mem _ hp)).append (.cons (List.mem_cons_self) (.cons _ _ (.cons _ _ (.cons _ _ .nil))) .nil)
      · rename_i D9 _ hD9 _ _ _ N9
        have hx1 : x ≠ 1 := by assumption
        refine' mrg_end (o1 := W.listOf (us' ++ [Value.ref a']).toArray k) (new := [(D9, _)]) (us' ++ [Value.ref D9]) k _ _ (by assumption) N9 hkeep hoff hgt hr (Gt.cons hD9 Gt.nil) rfl rfl rfl rfl ?hb ?hne ?hus (by simp at hul ⊢; omega) ?sub
        case sub => exact fun p hp => hp
        all_goals rw [mSt_step hx hy, ← hσ, mStep_join hx1 hA (.inr ‹q.2.1 = x * y›), if_pos ‹y = 0›]
        case hb => simp [hx1]
        case hne => simp
        case hus =>
          rw [List.map_append]
          exact (hus'.mono (fun p hp => List.mem_cons_of_mem _ hp)).append (.cons (List.mem_cons_self) (.cons _ _ (.cons _ _ (.cons _ _ .nil))) .nil)
      · rename_i D9 _ hD9 _ _ _ N9
        have hx1 : x ≠ 1 := by assumption
        refine' mrg_end (o1 := W.listOf (us' ++ [Value.ref a']).toArray k) (new := [(D9, _)]) (us' ++ [Value.ref a'] ++ [Value.ref D9]) (k + 1) _ _ (by assumption) N9 hkeep hoff hgt hr (Gt.cons hD9 Gt.nil) rfl rfl rfl rfl ?hb ?hne ?hus (by simp at hul ⊢; omega) ?sub
        case sub => exact fun p hp => hp
        all_goals rw [mSt_step hx hy, ← hσ, mStep_new hx1 hA hσb ‹q.2.1 ≠ x * y›, if_neg ‹y ≠ 0›]
        case hb => simp [hx1]
        case hne => simp
        case hus =>
          rw [List.map_append]
          exact (hus.mono (fun p hp => List.mem_cons_of_mem _ hp)).append (.cons (List.mem_cons_self) (.cons _ _ (.cons _ _ (.cons _ _ .nil))) .nil)
      · rename_i D9 _ hD9 _ _ _ N9
        have hx1 : x ≠ 1 := by assumption
        refine' mrg_end (o1 := W.listOf (us' ++ [Value.ref a']).toArray k) (new := [(D9, _)]) (us' ++ [Value.ref a'] ++ [Value.ref D9]) (k + 1) _ _ (by assumption) N9 hkeep hoff hgt hr (Gt.cons hD9 Gt.nil) rfl rfl rfl rfl ?hb ?hne ?hus (by simp at hul ⊢; omega) ?sub
        case sub => exact fun p hp => hp
        all_goals rw [mSt_step hx hy, ← hσ, mStep_new hx1 hA hσb ‹q.2.1 ≠ x * y›, if_pos ‹y = 0›]
        case hb => simp [hx1]
        case hne => simp
        case hus =>
          rw [List.map_append]
          exact (hus.mono (fun p hp => List.mem_cons_of_mem _ hp)).append (.cons (List.mem_cons_self) (.cons _ _ (.cons _ _ (.cons _ _ .nil))) .nil)
    · k_steps
      · refine mrg_end (o1 := W.listOf #[] 0) (us' ++ [Value.ref a']) k true σ (by assumption) (by assumption) hkeep hoff hgt hr Gt.nil rfl rfl rfl ?_ hσb hσn hus (by omega) (fun p hp => hp)
        rw [mSt_step hx hy, ← hσ, mStep_one (by assumption)]
      · rename_i D9 _ hD9 _ _ _ N9
        have hx1 : x ≠ 1 := by assumption
        refine' mrg_end (o1 := W.listOf (us' ++ [Value.ref a']).toArray k) (new := [(D9, _)]) (us' ++ [Value.ref D9]) k _ _ (by assumption) N9 hkeep hoff hgt hr (Gt.cons hD9 Gt.nil) rfl rfl rfl rfl ?hb ?hne ?hus (by simp at hul ⊢; omega) ?sub
        case sub => exact fun p hp => hp
        all_goals rw [mSt_step hx hy, ← hσ, mStep_join hx1 hA (.inl hσb), if_neg ‹y ≠ 0›, hσb]
        case hb => simp [hx1]
        case hne => simp
        case hus =>
          rw [List.map_append]
          exact (hus'.mono (fun p hp => List.mem_cons_of_mem _ hp)).append (.cons (List.mem_cons_self) (.cons _ _ (.cons _ _ (.cons _ _ .nil))) .nil)
      · rename_i D9 _ hD9 _ _ _ N9
        have hx1 : x ≠ 1 := by assumption
        refine' mrg_end (o1 := W.listOf (us' ++ [Value.ref a']).toArray k) (new := [(D9, _)]) (us' ++ [Value.ref D9]) k _ _ (by assumption) N9 hkeep hoff hgt hr (Gt.cons hD9 Gt.nil) rfl rfl rfl rfl ?hb ?hne ?hus (by simp at hul ⊢; omega) ?sub
        case sub => exact fun p hp => hp
        all_goals rw [mSt_step hx hy, ← hσ, mStep_join hx1 hA (.inl hσb), if_pos ‹y = 0›]
        case hb => simp [hx1]
        case hne => simp
        case hus =>
          rw [List.map_append]
          exact (hus'.mono (fun p hp => List.mem_cons_of_mem _ hp)).append (.cons (List.mem_cons_self) (.cons _ _ (.cons _ _ (.cons _ _ .nil))) .nil)
  · clear N9 F9
    rintro m₁ nx h tk ⟨us, k, tl, b, σ, rfl, hgt, hr, hm1, hm2, hm3, hσ, hσb, hσn, hus, hul⟩ hk1 hk2 F₁ N₁
    have F₂ := fr_know F₁ hm1
    clear F₁
    have hz9' : us.length ≤ 2000 := by omega
    k_steps
    rename_i D9 _ _ _ hD9 _ _ _ _
    rw [List.take_of_length_le (by rw [List.length_zip, hI1.length]; omega)] at hσ
    rw [hσ] at hus
    refine ret D9 us ((D9, tupOb us 0) :: (r0, listOf us.toArray k) :: tl) _ _ (by assumption) (news_sub (by assumption) (by intro q hq; grind)) ?_ List.mem_cons_self (hus.mono (fun p hp => List.mem_cons_of_mem _ (List.mem_cons_of_mem _ hp)))
    exact Gt.cons (allLt_sub hD9 (by intro q hq; grind)) (Gt.cons hr0.2 hgt)
end
end Mine
end

section
open PySem PySem.W PyProof.Rows PySem.Calls PySem.Spec
namespace Mine
set_option maxRecDepth 100000

def dot (row ms : List Int) : Int := (List.zipWith (· * ·) row ms).sum
def walkD (ns ms : List Int) : List Int := (placesD ns).map fun row => dot row ms

theorem intsAre_of : ∀ {ys : List Value} {l : List Int}, ys.length = l.length → (∀ (i : Nat) (v : Value), ys[i]? = some v → ∃ (t : Tok) (c : Int), v = Value.int c t ∧ l[i]? = some c) → IntsAre ys l
  | [], [], _, _ => .nil
  | [], _ :: _, h, _ => by simp at h
  | _ :: _, [], h, _ => by simp at h
  | y :: ys, c :: l, h, hG => by
    obtain ⟨t, c', e1, e2⟩ := hG 0 y rfl
    simp at e2
    subst e1 e2
    exact .cons c t (intsAre_of (by simpa using h) fun i v e => hG (i + 1) v (by simpa using e))

section
variable {w : World} {p : Program} {loose : List Str} {mean : ExcName → Option Value} {mg mb : Str → Option Value} {dp un : Nat} {gd : Option (List Code)} {cn : Str} {cs : Scope} {aa : Addr} {ccd : Value} {cl : List (Str × Addr)} {outer : List Env} {A₀ : Around} {base h₀ : Heap} {L : Addr} {m : Str → Option Value} {s : Shared} {Q E : Value → Shared → Prop}

set_option maxHeartbeats 1000000 in
theorem walk_spec (t1 t2 : Addr) (n1 n2 : Nat) (vs ws : List Value) (ns ms : List Int) (news : List (Addr × Obj))
  (C : Cx w p loose mean mg mb dp un cs outer A₀ base h₀ L m s.heap news)
  (ht1 : (t1, tupOb vs n1) ∈ news) (ht2 : (t2, tupOb ws n2) ∈ news) (hI1 : IntsAre vs ns) (hI2 : IntsAre ws ms) (hlen : ms.length = ns.length) (hl : ns.length ≤ 100) (hb : ∀ n ∈ ns, 0 ≤ n ∧ n < 1000000) (hb2 : ∀ n ∈ ms, -1000000 < n ∧ n < 1000000) (hsz : ∀ i, (placesD (ns.take i)).length ≤ 1000000) (hdp : dp < 800) (hun : un < 8000)
  (ret : ∀ a us k h' tk', Fr h₀ L h' m → News h₀ L h' ((a, listOf us.toArray k) :: news) → (∀ p ∈ news, p.1 ≠ a) → IntsAre us (walkD ns ms) → Q (.ref a) { s with heap := h', toks := tk' }) :
  wpAny (model PySem.Challenge.rw_au0024_01.row.prog w) (ktrTop dp un gd cn cs L aa ccd cl outer) (call (.ref 51) [.ref t1, .ref t2]) Q E s := by
  obtain ⟨B, F, X, N, T, hk⟩ := C
  revert X; k_fill; intro X
  refine wpAny_call ?_
  k_dflt (refine' code_defC ?k1 ?k2 ?k3 ?k4 ?k5 ?kA ?kF ?kK ?k6 ?k7 ?k8 ?k9 ?kB ?kD ?_ ?c2 ?c3 ?c4; (case kA => exact rfl); (case kF => exact rfl); (case kK => assumption); (case k1 => k_asm); (case k2 => k_asm); (case k3 => k_asm); (case k4 => k_asm); (case k5 => k_asm); (case k6 => k_is); (case k7 => k_is); (case k8 => ktr_room); (case k9 => exact BindsTo.of_eq rfl); (case kB => exact rfl); (case kD => decide +kernel); (case c2 => exact rfl); (case c3 => exact rfl); (case c4 => exact rfl); k_whole; intro g' L' h' tk' cells' FG' F' N' Y' B' X' T' l1; (try k_lt l1); (have hY := CellsAre.one Y'); (obtain ⟨oc₀, hE', hoc₀⟩ := hY); subst hE'; (try simp only [List.cons_append, List.nil_append] at N'); (try dsimp only); (try k_lift B'); (try k_fold))
  repeat' ((fail_if_success (with_reducible show wpAny _ _ (eval (Expr.ListComp _ _ _ _) _) _ _ _)); first | (k_unfold; (try dsimp only)) | walk1 | (dsimp only; walk1))
  k_dflt (refine LCg.ListComp_U (F₀ := F') (by with_unfolding_all rfl) (by decide) (by rfl) (by decide) (by rfl) ?_)
  repeat' ((fail_if_success (with_reducible show LCg.CompSrc _ _ _ _ _ _ _ _ _ _ _ _ _ _)); (fail_if_success (with_reducible show wpAny _ _ (call (Value.ref _) _) _ _ _)); first | (k_unfold; (try dsimp only)) | walk1 | (dsimp only; walk1))
  refine places_spec t1 (tupOb vs n1) vs ns ((L' + 1, oc₀) :: news) ⟨B', F', X', N', T', rfl⟩ (List.mem_cons_of_mem _ ht1) SeqOb.tup hI1 hb hl hsz (by ktr_room) (by ktr_units) fun a us k tl h2 tk2 F2 N2 hgt ha hus => ?_
  clear F' N'
  refine LCg.CompSrc.ledger (its := us.toArray) rfl F2 N2 (List.mem_append_right _ ha) (by have := hus.length; have := hsz ns.length; rw [List.take_length] at this; rw [sizeLine_eq, List.size_toArray]; omega) fun g9 => ?_
  with_reducible refine comp_inv (fun i ys led => led = (L' + 1, oc₀) :: news ++ tl ∧ IntsAre ys (((placesD ns).take i).map fun row => dot row ms)) ?_ ?_ ?_
  · exact ⟨rfl, .nil⟩
  · rintro i v ys led I oI Cc oC D m₂ h3 tk3 E' hi hv ⟨rfl, hys⟩ hC hx F5 N5 off5 ne5
    clear F2 N2
    obtain ⟨a3, vs3, n3, row, rfl, hm3, hi3, hrow⟩ := hus.at i v (by simpa using hv)
    repeat' ((fail_if_success (with_reducible show wpAny _ _ (eval (Expr.ListComp _ _ _ _) _) _ _ _)); first | (k_unfold; (try dsimp only)) | walk1 | (dsimp only; walk1))
    k_dflt (refine ListComp_Z (by with_unfolding_all rfl) (by rfl) (by decide) ?_)
    repeat' ((fail_if_success (with_reducible show wpAny _ _ (eval (Expr.Name (Str.ofString "strides") _) _) _ _ _)); first | (k_unfold; (try dsimp only)) | walk1 | (dsimp only; walk1))
    refine lcf_cell N5 rfl (show (L' + 1, oc₀) ∈ _ from ?_) hoc₀ ?_ rfl rfl
    · simp
    repeat' ((fail_if_success (with_reducible show wpAny _ _ (call (Value.type _) _) _ _ _)); first | (k_unfold; (try dsimp only)) | walk1 | (dsimp only; walk1))
    have hrl := placesD_len row (List.mem_of_getElem? hrow)
    have hvl := hi3.length
    have hwl := hI2.length
    refine srcZ_zip (us := vs3) (vs := ws) (fun i v => ∃ t c, v = Value.int c t ∧ (List.zipWith (· * ·) row ms)[i]? = some c) rfl F5 N5 (n1 := n3) (n2 := n2) (by simp [hm3]) (by simp [ht2]) (by omega) (by omega) (by decide) rfl rfl rfl (by decide) ?_ ?_
    · clear F5 N5
      intro g t0 i2 a2 b2 C2 oC2 m3 h4 tk4 E2 ha2 hb2' hC2 hxa hxb F6 N6
      obtain ⟨x, tx, rfl, hx6⟩ := IntsAre.at hi3 i2 a2 ha2
      obtain ⟨y, ty, rfl, hy6⟩ := IntsAre.at hI2 i2 b2 hb2'
      have hbd := hb2 y (List.mem_of_getElem? hy6)
      repeat' (first | (k_unfold; (try dsimp only)) | walk1 | (dsimp only; walk1))
      exact ⟨⟨_, x * y, rfl, (by rw [List.getElem?_zipWith, hx6, hy6])⟩, _, rfl⟩
    · clear F5 N5
      intro D6 h6 tk6 zs F6 N6 offD6 hzl hG
      have hzi : IntsAre zs (List.zipWith (· * ·) row ms) := intsAre_of (by rw [hzl, List.length_zipWith]; omega) hG
      dsimp only
      repeat' ((fail_if_success (with_reducible show wpAny _ _ (call (Value.builtin _) _) _ _ _)); first | (k_unfold; (try dsimp only)) | walk1 | (dsimp only; walk1))
      refine LSm.sum_ints F6 N6 rfl (isList_of N6 (n := zs.length) List.mem_cons_self) hzi fun h7 tk7 t7 F7 N7 => ?_
      refine compEnd_grow (new := []) F7 N7 off5 Gt.nil (by intro q hq; exact List.mem_cons_of_mem _ hq) (.inr ⟨W.listOf us.toArray k, (show (a, W.listOf us.toArray k) ∈ [] ++ ((L' + 1, oc₀) :: news ++ tl) from List.mem_append_right _ (List.mem_append_right _ ha)), rfl, k, rfl⟩) ⟨rfl, ?_⟩
      rw [List.take_add_one, hrow]
      simp only [Option.toList_some, List.map_append, List.map_cons, List.map_nil]
      exact IntsAre.append hys (.cons _ t7 .nil)
  · rintro ys led ⟨rfl, hys⟩
    clear F2 N2
    unfold LCg.FinE
    intro D9 h9 tk9 F5 N5 o9
    dsimp only
    k_steps
    rw [List.size_toArray, hus.length, List.take_length] at hys
    refine ret D9 ys ys.length _ _ (by assumption) (news_sub (by assumption) (by intro q hq; grind)) ?_ hys
    intro q hq
    exact off1_mem o9 q (by simp [hq])
end
end Mine
end

section
open PySem PySem.W PyProof.Rows PySem.Calls PySem.Spec
namespace Mine
set_option maxRecDepth 100000

/-- the two objects of the script's state -/
def StIn (a b : Addr) (o1 o2 : Obj) : Prop :=
  ∃ (x y : Int) (tx ty : Tok) (nA nB : Nat) (us : List Value) (ns : List Int), o1 = stOb b x y tx ty nA ∧ o2 = W.listOf us.toArray nB ∧ IntsAre us ns ∧ us.length ≤ 24 ∧ 0 ≤ y ∧ y < 2147483647 ∧ @Ne Nat a b

section
variable {w : World} {p : Program} {loose : List Str} {mean : ExcName → Option Value} {mg mb : Str → Option Value} {dp un : Nat} {gd : Option (List Code)} {cn : Str} {cs : Scope} {aa : Addr} {ccd : Value} {cl : List (Str × Addr)} {outer : List Env} {A₀ : Around} {base h₀ : Heap} {L : Addr} {m : Str → Option Value} {s : Shared} {Q E : Value → Shared → Prop}

theorem take_o (a b : Addr) (o1 o2 : Obj) (many : Int) (tm : Tok) (rest news : List (Addr × Obj)) (hS : StIn a b o1 o2)
  (C : Cx w p loose mean mg mb dp un cs outer A₀ base h₀ L m s.heap news) (hsub : ∀ q ∈ (a, o1) :: (b, o2) :: rest, q ∈ news)
  (off : ∀ q ∈ rest, q.1 ≠ a ∧ q.1 ≠ b) (hm : 0 < many) (hm2 : many < 1000) (hdp : dp < 900) (hun : un < 9000)
  (ret : ∀ r tr o1' o2' h' tk', 0 ≤ r → r < many → StIn a b o1' o2' → Fr h₀ L h' m → News h₀ L h' ((a, o1') :: (b, o2') :: rest) → Q (.int r tr) { s with heap := h', toks := tk' }) :
  wpAny (model PySem.Challenge.rw_au0024_01.row.prog w) (ktrTop dp un gd cn cs L aa ccd cl outer) (call (.ref 34) [.ref a, .int many tm]) Q E s := by
  obtain ⟨x, y, tx, ty, nA, nB, us, ns, rfl, rfl, hI, hl, hy0, hy1, hab⟩ := hS
  obtain ⟨B, F, X, N, T, hk⟩ := C
  refine take_spec a b x y many tx ty tm nA nB us ns rest ⟨B, F, X, news_sub N hsub, T, hk⟩ hab ?_ hI hl hy0 hy1 hm hm2 hdp hun ?_
  · intro q hq c hc
    simp only [List.mem_cons, List.not_mem_nil, or_false] at hc
    rcases hc with rfl | rfl
    · exact (off q hq).1
    · exact (off q hq).2
  · intro r tr x' y' tx' ty' nA' nB' us' ns' h' tk' h1 h2 h3 h4 h5 h6 F' N'
    exact ret r tr _ _ h' tk' h1 h2 ⟨x', y', tx', ty', nA', nB', us', ns', rfl, rfl, h5, h6, h3, h4, hab⟩ F' N'
end
end Mine
end

section
open PySem PySem.W PyProof.Rows PySem.Calls PySem.Spec
namespace Mine
set_option maxRecDepth 100000

theorem prodI_small {ns : List Int} (h : ns.length ≤ 1) (hb : ∀ z ∈ ns, 1 ≤ z ∧ z ≤ 4) : prodI ns ≤ 4 := by
  match ns, h with
  | [], _ => decide
  | [z], _ =>
    have := hb z (by simp)
    simp only [prodI, List.foldl_cons, List.foldl_nil]
    omega
theorem step_bound {c x r h : Int} {i : Nat} (hi : i ≤ 3) (hc : -(13 * 4 ^ i) ≤ c ∧ c ≤ 13 * 4 ^ i) (hx : 1 ≤ x ∧ x ≤ 4) (hr : 0 ≤ r ∧ r < 17) (hh : 0 ≤ h ∧ h < 4) :
    -(13 * 4 ^ (i + 1)) ≤ ([c * x, c * x, 0, r - 4] : List Int).getD h.toNat 0 ∧ ([c * x, c * x, 0, r - 4] : List Int).getD h.toNat 0 ≤ 13 * 4 ^ (i + 1) := by
  have hcx : -(13 * 4 ^ (i + 1)) ≤ c * x ∧ c * x ≤ 13 * 4 ^ (i + 1) := by
    rcases (by omega : x = 1 ∨ x = 2 ∨ x = 3 ∨ x = 4) with rfl | rfl | rfl | rfl <;> rcases (by omega : i = 0 ∨ i = 1 ∨ i = 2 ∨ i = 3) with rfl | rfl | rfl | rfl <;> omega
  have hp : (52 : Int) ≤ 13 * 4 ^ (i + 1) := by
    rcases (by omega : i = 0 ∨ i = 1 ∨ i = 2 ∨ i = 3) with rfl | rfl | rfl | rfl <;> decide
  rcases (by omega : h = 0 ∨ h = 1 ∨ h = 2 ∨ h = 3) with rfl | rfl | rfl | rfl
  · exact hcx
  · exact hcx
  · show -(13 * 4 ^ (i + 1)) ≤ (0 : Int) ∧ (0 : Int) ≤ 13 * 4 ^ (i + 1)
    omega
  · show -(13 * 4 ^ (i + 1)) ≤ r - 4 ∧ r - 4 ≤ 13 * 4 ^ (i + 1)
    omega
section
local macro_rules | `(tactic| walk_at "call type:tuple") => `(tactic| (k_here; (with_reducible show wpAny _ _ (call (Value.type _) [Value.ref _]) _ _ _); k_dflt (refine' tupleOf_lst ?F ?N ?m ?z ?_; (case F => k_asm); (case N => k_asm); (case m => kcf_m); (case z => omega)); intro D' h' F' N' l1))
local macro_rules | `(tactic| k_all) => `(tactic| assumption)
local macro_rules | `(tactic| walk_at "call builtin:list.pop") => `(tactic| (k_here; (with_reducible show wpAny _ _ (call (Value.builtin _) [Value.ref _]) _ _ _); k_dflt (refine' kpa_pop ?F ?N ?U ?i ?l ?z ?_; (case F => k_asm); (case N => k_asm); (case i => with_reducible assumption); (case U => k_upd); (case l => omega); (case z => (rw [sizeLine_eq]; omega))); (intro h' t' F' N' hI')))
variable {w : World} {p : Program} {loose : List Str} {mean : ExcName → Option Value} {mg mb : Str → Option Value} {dp un : Nat} {gd : Option (List Code)} {cn : Str} {cs : Scope} {aa : Addr} {ccd : Value} {cl : List (Str × Addr)} {outer : List Env} {A₀ : Around} {base h₀ : Heap} {L : Addr} {m : Str → Option Value} {s : Shared} {Q E : Value → Shared → Prop}

set_option maxHeartbeats 1000000 in
theorem given_spec (a b : Addr) (o1 o2 : Obj) (rest : List (Addr × Obj)) (hS : StIn a b o1 o2)
  (C : Cx w p loose mean mg mb dp un cs outer A₀ base h₀ L m s.heap ((a, o1) :: (b, o2) :: rest))
  (off : ∀ q ∈ rest, q.1 ≠ a ∧ q.1 ≠ b) (hdp : dp < 800) (hun : un < 8000)
  (ret : ∀ D D1 D2 vs ws ns ms o1' o2' h' tk', StIn a b o1' o2' → Fr h₀ L h' m → News h₀ L h' ((a, o1') :: (b, o2') :: (D, tupOb [.ref D1, .ref D2] 0) :: (D1, tupOb vs 0) :: (D2, tupOb ws 0) :: rest) → IntsAre vs ns → IntsAre ws ms →
      1 ≤ ns.length → ns.length ≤ 4 → (∀ n ∈ ns, 1 ≤ n ∧ n ≤ 4) → prodI ns ≤ 100 → ms.length = ns.length → (∀ n ∈ ms, -10000 < n ∧ n < 10000) → Q (.ref D) { s with heap := h', toks := tk' }) :
  wpAny (model PySem.Challenge.rw_au0024_01.row.prog w) (ktrTop dp un gd cn cs L aa ccd cl outer) (call (.ref 56) [.ref a]) Q E s := by
  obtain ⟨B, F, X, N, T, hk⟩ := C
  revert X; k_fill; intro X
  refine wpAny_call ?_
  k_dflt (refine' code_defC ?k1 ?k2 ?k3 ?k4 ?k5 ?kA ?kF ?kK ?k6 ?k7 ?k8 ?k9 ?kB ?kD ?_ ?c2 ?c3 ?c4; (case kA => exact rfl); (case kF => exact rfl); (case kK => assumption); (case k1 => k_asm); (case k2 => k_asm); (case k3 => k_asm); (case k4 => k_asm); (case k5 => k_asm); (case k6 => k_is); (case k7 => k_is); (case k8 => ktr_room); (case k9 => exact BindsTo.of_eq rfl); (case kB => exact rfl); (case kD => decide +kernel); (case c2 => exact rfl); (case c3 => exact rfl); (case c4 => exact rfl); k_whole; intro g' L' h' tk' cells' FG' F' N' Y' B' X' T' l1; (try k_lt l1); (have hY := CellsAre.one Y'); (obtain ⟨oc₀, hE', hoc₀⟩ := hY); subst hE'; (try simp only [List.cons_append, List.nil_append] at N'); (try dsimp only); (try k_lift B'); (try k_fold))
  repeat' ((fail_if_success (with_reducible show wpAny _ _ (exec (Stmt.Assign _ _ _) _) _ _ _)); first | (k_unfold; (try dsimp only)) | walk1 | (dsimp only; walk1))
  k_dflt (refine LCg.Assign_ListComp_U (F₀ := F') (by rfl) (by with_unfolding_all rfl) (by with_unfolding_all rfl) (by decide) (by rfl) (by decide) (by rfl) (by rfl) (by rfl) ?_)
  repeat' ((fail_if_success (with_reducible show wpAny _ _ (call (Value.ref _) _) _ _ _)); first | (k_unfold; (try dsimp only)) | walk1 | (dsimp only; walk1))
  have offG : ∀ q ∈ (L' + 1, oc₀) :: rest, q.1 ≠ a ∧ q.1 ≠ b := by
    intro q hq
    rcases List.mem_cons.mp hq with rfl | hq
    · have h1 : (a : Nat) < L' := l1.1
      have h2 : (b : Nat) < L' := l1.2.1
      exact ⟨Nat.ne_of_gt (Nat.lt_succ_of_lt h1), Nat.ne_of_gt (Nat.lt_succ_of_lt h2)⟩
    · exact off q hq
  refine take_o a b o1 o2 4 _ ((L' + 1, oc₀) :: rest) _ hS ⟨B', F', X', N', T', rfl⟩ (by intro q hq; grind) offG (by decide) (by decide) (by ktr_room) (by ktr_units) ?_
  intro r tr o1' o2' h1 tk1 hr0 hr4 hS1 F1 N1
  clear F' N'
  repeat' ((fail_if_success (with_reducible show LCg.CompSrc _ _ _ _ _ _ _ _ _ _ _ _ _ _)); first | (k_unfold; (try dsimp only)) | walk1 | (dsimp only; walk1))
  rename_i t9 u9 v9 hR F4 N4 _
  refine LCg.CompSrc.range (n := (1 + r).toNat) rfl F4 N4 hR (small_one (by omega) (by omega) (by omega) (by omega)) (by rw [rangeSize_nat, Int.sub_zero]) (by rw [sizeLine_eq]; omega) fun g9 => ?_
  with_reducible refine comp_inv (fun i ys led => ∃ o1 o2 zs, led = (a, o1) :: (b, o2) :: (L' + 1, oc₀) :: rest ∧ StIn a b o1 o2 ∧ IntsAre ys zs ∧ zs.length = i ∧ ∀ z ∈ zs, 1 ≤ z ∧ z ≤ 4) ?_ ?_ ?_
  · exact ⟨_, _, [], rfl, hS1, .nil, rfl, by simp⟩
  · rintro i v ys led I oI Cc oC D m₂ h3 tk3 E' hi ⟨t9, rfl⟩ ⟨p1, p2, zs, rfl, hS2, hys, hzl, hzb⟩ hC hx F5 N5 off5 ne5
    clear F4 N4
    repeat' ((fail_if_success (with_reducible show wpAny _ _ (eval (Expr.Name (Str.ofString "state") _) _) _ _ _)); first | (k_unfold; (try dsimp only)) | walk1 | (dsimp only; walk1))
    refine lcf_cell N5 rfl (show (L' + 1, oc₀) ∈ _ from ?_) hoc₀ ?_ rfl rfl
    · simp
    repeat' ((fail_if_success (with_reducible show wpAny _ _ (call (Value.ref _) _) _ _ _)); first | (k_unfold; (try dsimp only)) | walk1 | (dsimp only; walk1))
    have o5 := off5.mem
    have oA := o5 (a, p1) (by simp)
    have oB := o5 (b, p2) (by simp)
    refine take_o a b p1 p2 4 _ ((I, oI) :: (Cc, oC) :: (D, LCg.lst ys) :: (L' + 1, oc₀) :: rest) _ hS2 ⟨B', F5, X', N5, T', rfl⟩ (by intro q hq; grind) ?_ (by decide) (by decide) (by ktr_room) (by ktr_units) ?_
    · intro q hq
      rcases List.mem_cons.mp hq with rfl | hq
      · exact ⟨Ne.symm oA.1, Ne.symm oB.1⟩
      rcases List.mem_cons.mp hq with rfl | hq
      · exact ⟨Ne.symm oA.2.1, Ne.symm oB.2.1⟩
      rcases List.mem_cons.mp hq with rfl | hq
      · exact ⟨Ne.symm oA.2.2, Ne.symm oB.2.2⟩
      · exact offG q hq
    intro r2 tr2 p1' p2' h6 tk6 hr20 hr24 hS3 F6 N6
    clear F5 N5
    repeat' (first | (k_unfold; (try dsimp only)) | walk1 | (dsimp only; walk1))
    refine LCg.CompEnd.intro F6 N6 ((a, p1') :: (b, p2') :: (L' + 1, oc₀) :: rest) (by intro q hq; grind) (LCg.Off3.of ?_) trivial ⟨p1', p2', zs ++ [1 + r2], rfl, hS3, hys.append (.cons _ _ .nil), by simp [hzl], ?_⟩
    · intro q hq
      rcases List.mem_cons.mp hq with rfl | hq
      · exact oA
      rcases List.mem_cons.mp hq with rfl | hq
      · exact oB
      · exact o5 q (by simp at hq ⊢; grind)
    · intro z hz
      rcases List.mem_append.mp hz with hz | hz
      · exact hzb z hz
      · rw [List.mem_singleton.mp hz]; omega
  · rintro ys led ⟨p1, p2, zs, rfl, hS2, hys, hzl, hzb⟩
    clear F4 N4
    unfold LCg.FinA
    intro r0 h9 tk9 F5 N5 o9
    dsimp only
    repeat' ((fail_if_success (with_reducible show wpAny _ _ (exec (Stmt.While _ _ _ _) _) _ _ _)); first | (k_unfold; (try dsimp only)) | walk1 | (dsimp only; walk1))
    have hr : ∀ p ∈ (a, p1) :: (b, p2) :: (L' + 1, oc₀) :: rest, p.1 ≠ r0 := off1_mem o9
    refine While_inv2 (fun n mm nx => ∃ us ns k, nx = (r0, W.listOf us.toArray k) :: (a, p1) :: (b, p2) :: (L' + 1, oc₀) :: rest ∧ mm (Str.ofString "shape") = some (.ref r0) ∧ IntsAre us ns ∧ ns.length = n ∧ 1 ≤ n ∧ n ≤ 4 ∧ ∀ z ∈ ns, 1 ≤ z ∧ z ≤ 4) (n₀ := zs.length) F5 N5 ⟨ys, zs, ys.length, rfl, rfl, hys, rfl, by omega, by omega, hzb⟩ ?_ (by passes_own)
    clear F5 N5
    rintro n m₁ nx h tk F₁ N₁ ⟨us, ns, k, rfl, hm, hI, hn, h1n, hn4, hnb⟩
    have F₂ := fr_know F₁ hm
    clear F₁
    repeat' ((fail_if_success (with_reducible show wpAny _ _ (call (Value.ref _) _) _ _ _)); first | (k_unfold; (try dsimp only)) | walk1 | (dsimp only; walk1))
    refine size_spec r0 (W.listOf us.toArray k) us ns _ ⟨B', F₂, X', N₁, T', rfl⟩ List.mem_cons_self SeqOb.lst hI (fun z hz => by have := hnb z hz; omega) (by ktr_room) (by ktr_units) ?_
    intro tr7 h7 tk7 F7 N7
    clear F₂ N₁
    have hul := hI.length
    repeat' ((fail_if_success (with_reducible show wpAny _ _ (call (Value.ref _) _) _ _ _)); first | (k_unfold; (try dsimp only)) | walk1 | (dsimp only; walk1))
    · have h2n : 2 ≤ ns.length := by
        rcases Nat.lt_or_ge 1 ns.length with h | h
        · exact h
        · have := prodI_small h hnb
          omega
      exact ⟨_, _, _, _, n - 1, rfl, by assumption, by assumption, by omega, us.dropLast, ns.dropLast, _, rfl, rfl, by assumption, by rw [List.length_dropLast, hn], by omega, by omega, fun z hz => hnb z (List.dropLast_subset _ hz)⟩
    · have hle : prodI ns ≤ 100 := by
        rename ¬ _ => hq
        omega
      rename News _ _ _ _ => N8
      rename Fr _ _ _ _ => F8
      rename_i E0 _ hE0 M0 _ hM0
      refine take_o a b p1 p2 5 _ ((M0, W.listOf [Value.int 0 tk, Value.int 1 (tk + 1), Value.int 2 (tk + 1 + 1), Value.int (-1) (tk + 1 + 1 + 1 + 1), Value.int 3 (tk + 1 + 1 + 1 + 1 + 1)].toArray 0) :: (E0, W.listOf #[] 0) :: (r0, W.listOf us.toArray k) :: (L' + 1, oc₀) :: rest) _ hS2 ⟨B', F8, X', N8, T', rfl⟩ (by intro q hq; simp only [List.mem_cons] at hq ⊢; rcases hq with h | h | h | h | h | h <;> simp [h]) ?_ (by decide) (by decide) (by ktr_room) (by ktr_units) ?_
      · intro q hq
        rcases List.mem_cons.mp hq with rfl | hq
        · exact ⟨Nat.ne_of_gt hM0.2.2.1, Nat.ne_of_gt hM0.2.2.2.1⟩
        rcases List.mem_cons.mp hq with rfl | hq
        · exact ⟨Nat.ne_of_gt hE0.2.1, Nat.ne_of_gt hE0.2.2.1⟩
        rcases List.mem_cons.mp hq with rfl | hq
        · exact ⟨Ne.symm (hr (a, p1) (by simp)), Ne.symm (hr (b, p2) (by simp))⟩
        · exact offG q hq
      intro r9 tr9 p1' p2' h9' tk9' hr0' hr5 hS9 F9 N9
      clear F8 N8
      repeat' ((fail_if_success (with_reducible show wpAny _ _ (subscriptTail _ _ _ _) _ _ _)); first | (k_unfold; (try dsimp only)) | walk1 | (dsimp only; walk1))
      refine' ksa_sub (ns := [0, 1, 2, -1, 3]) ?N ?m ?i hr0' hr5 (by omega) ?_ ?s
      case N => exact N9
      case m => exact List.mem_cons_of_mem _ (List.mem_cons_of_mem _ List.mem_cons_self)
      case i => exact .cons _ _ (.cons _ _ (.cons _ _ (.cons _ _ (.cons _ _ .nil))))
      case s => with_unfolding_all rfl
      intro tc
      have hc : -13 ≤ ([0, 1, 2, -1, 3] : List Int).getD r9.toNat 0 ∧ ([0, 1, 2, -1, 3] : List Int).getD r9.toNat 0 ≤ 13 := by
        rcases (by omega : r9 = 0 ∨ r9 = 1 ∨ r9 = 2 ∨ r9 = 3 ∨ r9 = 4) with rfl | rfl | rfl | rfl | rfl <;> decide
      revert hc
      generalize ([0, 1, 2, -1, 3] : List Int).getD r9.toNat 0 = c0
      intro hc
      repeat' ((fail_if_success (with_reducible show wpAny _ _ (exec (Stmt.For _ _ _ _ _) _) _ _ _)); first | (k_unfold; (try dsimp only)) | walk1 | (dsimp only; walk1))
      rename Fr _ _ _ _ => lF
      with_unfolding_all refine' For_turns lF ?_
      repeat' ((fail_if_success (with_reducible show wpAny _ _ (pyIter _) _ _ _)); first | (k_unfold; (try dsimp only)) | walk1 | (dsimp only; walk1))
      rename_i S0 wsr _ F10 N10 hIr hCr hS0
      obtain ⟨hSD, hSa, hSb, hSM, hSE, hSr, hSL, hSrest⟩ := hS0
      refine turns_seq (news := (a, p1') :: (b, p2') :: (((S0, W.listOf wsr.toArray 0) :: (r0, W.listOf us.toArray k) :: (L' + 1, oc₀) :: rest) ++ [(E0, W.listOf ([] : List Value).toArray 0)]))
        (fun i mm nx => ∃ o1 o2 tl D ws ms k' c t, nx = (a, o1) :: (b, o2) :: (((S0, W.listOf wsr.toArray 0) :: (r0, W.listOf us.toArray k) :: (L' + 1, oc₀) :: rest) ++ tl) ∧ StIn a b o1 o2 ∧ (∀ q ∈ tl, q.1 ≠ a ∧ q.1 ≠ b) ∧ mm (Str.ofString "strides") = some (.ref D) ∧ (D, W.listOf ws.toArray k') ∈ tl ∧ IntsAre ws ms ∧ ms.length = i ∧ (∀ z ∈ ms, -10000 < z ∧ z < 10000) ∧
          mm (Str.ofString "step") = some (.int c t) ∧ (-(13 * 4 ^ i) ≤ c ∧ c ≤ 13 * 4 ^ i) ∧ mm (Str.ofString "shape") = some (.ref r0))
        rfl (by simp) (SeqOb.lst (vs := wsr) (n := 0)) F10 (news_sub N10 ?_) ?_ ?_ ?_
      · intro q hq
        simp at hq ⊢
        grind
      · refine ⟨p1', p2', _, E0, [], [], 0, c0, tc, rfl, hS9, ?_, rfl, by simp, .nil, rfl, by simp, rfl, by simpa using hc, rfl⟩
        intro q hq
        rw [List.mem_singleton.mp hq]
        exact ⟨Nat.ne_of_gt hE0.2.1, Nat.ne_of_gt hE0.2.2.1⟩
      · clear F10 N10
        rintro i v m₂ nx own h tk hv hoff hkt ⟨o1, o2, tl, D, ws, ms, k', c, t, rfl, hS10, htl, hm1, hD, hIw, hml, hmb, hm2, hcb, hm3⟩ F₁ N₁
        obtain ⟨x, tx, rfl, hx⟩ := IntsAre.at hIr i v hv
        have hxb := hnb x (List.mem_reverse.mp (List.mem_of_getElem? hx))
        have hi : i < ns.length := by
          have := (List.getElem?_eq_some_iff.mp hx).1
          rwa [List.length_reverse] at this
        have hi4 : i = 0 ∨ i = 1 ∨ i = 2 ∨ i = 3 := by omega
        have hcb2 : -10000 < c ∧ c < 10000 := by rcases hi4 with rfl | rfl | rfl | rfl <;> omega
        have F₂ := fr_know (y := Str.ofString "shape") (u := .ref r0) (fr_know (y := Str.ofString "step") (u := .int c t) (fr_know F₁ hm1) hm2) hm3
        clear F₁
        repeat' ((fail_if_success (with_reducible show wpAny _ _ (binaryOp Operator.Add (Value.ref _) (Value.ref _)) _ _ _)); first | (k_unfold; (try dsimp only)) | walk1 | (dsimp only; walk1))
        have hwl : ws.length ≤ 4 := by have := hIw.length; omega
        rename_i T0 _ F3 N3 hT0
        refine add_lst F3 N3 (vs := [.int c t]) (n1 := 0) (by simp) (ws := ws) (n2 := k') (List.mem_cons_of_mem _ (by simp [hD])) (by simp only [List.length_cons, List.length_nil]; omega) ?_
        intro B9 h10 F6 N6 hB9
        have hBall : ∀ q ∈ (a, o1) :: (b, o2) :: (S0, W.listOf wsr.toArray 0) :: (r0, W.listOf us.toArray k) :: (L' + 1, oc₀) :: (rest ++ tl ++ own), (q.1 : Nat) < B9 := fun q hq => ktn_ltOf hB9 q (by grind)
        have N7 : News g' _ _ ((a, o1) :: (b, o2) :: (B9, W.listOf ([Value.int c t] ++ ws).toArray 0) :: (S0, W.listOf wsr.toArray 0) :: (r0, W.listOf us.toArray k) :: (L' + 1, oc₀) :: (rest ++ tl ++ own)) := news_sub N6 (by intro q hq; grind)
        clear N6 N3
        have off7 : ∀ q ∈ (B9, W.listOf ([Value.int c t] ++ ws).toArray 0) :: (S0, W.listOf wsr.toArray 0) :: (r0, W.listOf us.toArray k) :: (L' + 1, oc₀) :: (rest ++ tl ++ own), q.1 ≠ a ∧ q.1 ≠ b := by
          intro q hq
          rcases List.mem_cons.mp hq with rfl | hq
          · exact ⟨Nat.ne_of_gt (hBall (a, o1) (by simp)), Nat.ne_of_gt (hBall (b, o2) (by simp))⟩
          rcases List.mem_cons.mp hq with rfl | hq
          · exact ⟨Nat.ne_of_gt hSa, Nat.ne_of_gt hSb⟩
          rcases List.mem_cons.mp hq with rfl | hq
          · exact ⟨Ne.symm (hr (a, p1) (by simp)), Ne.symm (hr (b, p2) (by simp))⟩
          rcases List.mem_cons.mp hq with rfl | hq
          · exact offG _ List.mem_cons_self
          rcases List.mem_append.mp hq with hq | hq
          · rcases List.mem_append.mp hq with hq | hq
            · exact off q hq
            · exact htl q hq
          · exact ⟨hoff q hq a (by simp), hoff q hq b (by simp)⟩
        repeat' ((fail_if_success (with_reducible show wpAny _ _ (call (Value.ref _) _) _ _ _)); first | (k_unfold; (try dsimp only)) | walk1 | (dsimp only; walk1))
        rename Fr _ _ _ _ => F11
        rename News _ _ _ _ => N11
        refine take_o a b o1 o2 4 _ _ _ hS10 ⟨B', F11, X', N11, T', rfl⟩ (fun q hq => hq) off7 (by decide) (by decide) (by ktr_room) (by ktr_units) ?_
        intro rh trh q1 q2 h12 tk12 hrh0 hrh4 hS12 F12 N12
        clear F11 N11
        repeat' ((fail_if_success (with_reducible show wpAny _ _ (call (Value.ref _) _) _ _ _)); first | (k_unfold; (try dsimp only)) | walk1 | (dsimp only; walk1))
        rename Fr _ _ _ _ => F13
        rename News _ _ _ _ => N13
        refine take_o a b q1 q2 17 _ _ _ hS12 ⟨B', F13, X', N13, T', rfl⟩ (fun q hq => hq) off7 (by decide) (by decide) (by ktr_room) (by ktr_units) ?_
        intro r17 tr17 q3 q4 h14 tk14 h170 h1717 hS14 F14 N14
        clear F13 N13
        repeat' ((fail_if_success (with_reducible show wpAny _ _ (subscriptTail _ _ _ _) _ _ _)); first | (k_unfold; (try dsimp only)) | walk1 | (dsimp only; walk1))
        refine' ksa_sub (ns := [c * x, c * x, 0, r17 - 4]) ?N ?m ?i hrh0 hrh4 (by omega) ?_ ?s
        case N => assumption
        case m => exact List.mem_cons_self
        case i => exact .cons _ _ (.cons _ _ (.cons _ _ (.cons _ _ .nil)))
        case s => with_unfolding_all rfl
        intro tc2
        have hc2 := step_bound (c := c) (x := x) (r := r17) (h := rh) (i := i) (by omega) hcb hxb ⟨h170, h1717⟩ ⟨hrh0, hrh4⟩
        revert hc2
        generalize ([c * x, c * x, 0, r17 - 4] : List Int).getD rh.toNat 0 = c2
        intro hc2
        repeat' (first | (k_unfold; (try dsimp only)) | walk1 | (dsimp only; walk1))
        refine InvEndG.intro (by assumption) (by assumption) ⟨?_, q3, q4, (B9, W.listOf ([Value.int c t] ++ ws).toArray 0) :: tl, B9, [Value.int c t] ++ ws, c :: ms, 0, c2, tc2, rfl, hS14, ?_, rfl, List.mem_cons_self, .cons c t hIw, by simp [hml], ?_, rfl, hc2, rfl⟩ ?_ ?_ ?_
        · intro q hq
          rw [List.mem_singleton.mp hq]
          simp
        · intro q hq
          rcases List.mem_cons.mp hq with rfl | hq
          · exact off7 _ List.mem_cons_self
          · exact htl q hq
        · intro z hz
          rcases List.mem_cons.mp hz with rfl | hz
          · exact hcb2
          · exact hmb z hz
        · refine off_of hoff fun q hq => ?_
          simp only [List.mem_cons, List.mem_append, List.cons_append] at hq
          rcases hq with rfl | rfl | rfl | rfl | rfl | hq | rfl | hq
          · exact .inl (by simp)
          · exact .inl (by simp)
          · exact .inl (by simp)
          · exact .inl (by simp)
          · exact .inl (by simp)
          · exact .inl (List.mem_map.mpr ⟨q, by simp [hq], rfl⟩)
          · exact .inr fun p hp => hBall p (by simp [hp])
          · exact .inl (List.mem_map.mpr ⟨q, by simp [hq], rfl⟩)
        · intro q hq
          simp only [List.mem_cons, List.mem_append, List.cons_append] at hq ⊢
          grind
        · intro q hq
          simp only [List.mem_cons, List.mem_append, List.cons_append] at hq ⊢
          grind
      · clear F10 N10
        rintro m₂ nx h tk ⟨o1, o2, tl, D, ws, ms, k', c, t, rfl, hS10, htl, hm1, hD, hIw, hml, hmb, hm2, hcb, hm3⟩ hkt F₁ N₁
        have F₂ := fr_know (y := Str.ofString "shape") (u := .ref r0) (fr_know F₁ hm1) hm3
        clear F₁
        have hwl1 := hIw.length
        have hwl2 := hIr.length
        have hwl : ws.length ≤ 4 := by omega
        k_steps
        rename_i Ds _ _ Dt _ _ Dp _ _ _ _ kF kN _ _
        exact ret Dp Ds Dt us ws ns ms o1 o2 _ _ hS10 kF (news_sub kN (by intro q hq; simp only [List.mem_cons] at hq ⊢; grind)) hI hIw (by omega) (by omega) hnb hle (by rw [hml, hwl2, List.length_reverse]) hmb
end
end Mine
end

section
open PySem PySem.W PyProof.Rows PySem.Calls PySem.Spec PyProof.Rows.LCg
namespace Mine
set_option maxRecDepth 100000

theorem ne_of_news {h₀ h : Heap} {L : Addr} {news : List (Addr × Obj)} (N : News h₀ L h news) {a b : Addr} {o o' : Obj} (ha : (a, o) ∈ news) (hb : (b, o') ∈ news) (hne : o ≠ o') : a ≠ b := by
  rintro rfl
  have h1 := (N _ ha).1
  have h2 := (N _ hb).1
  rw [h1] at h2
  exact hne (Option.some.inj h2)

section
variable {prog : Program} {w : World} {A : Around} {E : Value → Shared → Prop} {s : Shared} {h₀ : Heap} {L : Addr} {m : Str → Option Value} {news : List (Addr × Obj)} {env : Env}

/-- the source of a comprehension: a tuple of the ledger -/
def CompTup (prog : Program) (w : World) (A : Around) (h₀ : Heap) (L : Addr) (m : Str → Option Value) (env : Env) (elt : PySem.Expr) (x : Str) (scope : Scope) (cl : List (Str × Addr)) (Fin : Shared → List Value → List (Addr × Obj) → Prop) (xv : Value) (s₁ : Shared) : Prop :=
  ∃ (ax : Addr) (us : List Value) (n : Nat) (news : List (Addr × Obj)), xv = .ref ax ∧ A.handled = none ∧ Fr h₀ L s₁.heap m ∧ News h₀ L s₁.heap news ∧ (ax, tupOb us n) ∈ news ∧ us.length ≤ 10000 ∧
    ∀ g : Heap, CompRest prog w A h₀ L m env elt x scope cl { s₁ with heap := g } (fun nw => (ax, tupOb us n) ∈ nw) (fun i v => us.toArray[i]? = some v) (Fin { s₁ with heap := g }) us.toArray.size 0 [] news
theorem compTup_led {elt : PySem.Expr} {x : Str} {scope : Scope} {cl : List (Str × Addr)} {Fin : Shared → List Value → List (Addr × Obj) → Prop} {ax : Addr} {us : List Value} {n : Nat} {s₁ : Shared} (hh : A.handled = none) (F : Fr h₀ L s₁.heap m) (N : News h₀ L s₁.heap news) (hm : (ax, tupOb us n) ∈ news) (hsz : us.length ≤ 10000)
    (h : ∀ g : Heap, CompRest prog w A h₀ L m env elt x scope cl { s₁ with heap := g } (fun nw => (ax, tupOb us n) ∈ nw) (fun i v => us.toArray[i]? = some v) (Fin { s₁ with heap := g }) us.toArray.size 0 [] news) :
    CompTup prog w A h₀ L m env elt x scope cl Fin (.ref ax) s₁ := ⟨ax, us, n, news, rfl, hh, F, N, hm, hsz, h⟩

theorem ListComp_T {elt iter : PySem.Expr} {x : Str} {px : Pos} {scope : Scope} {cl : List (Str × Addr)} {pos : Pos} {Q : Value → Shared → Prop} (_F₀ : Fr h₀ L s.heap m)
    (hclos : closureFor scope env = pure cl) (hcell : ∀ y ∈ scope.names, y.2 ≠ .cell) (hkind : scope.kind = .function)
    (hnames : ∀ y ∈ scope.names, y.2 = .local → scope.names.lookup y.1 = some .local) (hx : scope.names.lookup x = some .local)
    (h : wpAny (model prog w) A (eval iter env) (CompTup prog w A h₀ L m env elt x scope cl (fun s₂ => FinE h₀ L m s₂ Q)) E s)
    (hs : ∀ x, foldedSetIterable iter env x = pure x := by intro _; rfl) :
    wpAny (model prog w) A (eval (.ListComp elt [⟨.Name x px, iter, [], 0⟩] scope pos) env) Q E s := by
  rw [eval_ListComp]
  refine wpAny_comprehension_free (use := none) rfl hs hclos hkind hnames (wpAny_mono h (fun xv s₁ h₁ => ?_) fun _ _ e => e)
  obtain ⟨ax, us, n, nw, rfl, hh, F, N, hm, hsz, R⟩ := h₁
  have hl : s₁.heap.IsTuple ax us.toArray := ⟨_, (N _ hm).1, rfl, _, rfl⟩
  have hlt : ax < s₁.heap.objs.size := Heap.lt_size (N _ hm).1
  refine wpAny_pyIter_tuple hl ?_
  have up : ∀ b o, s₁.heap.get? b = some o → (s₁.heap.push { cls := .type "tuple_iterator", data := .fields #[.ref ax, .int 0 0] }).get? b = some o := fun b o e => Heap.get?_push_of_some _ e
  refine block_U (S := fun nw => (ax, tupOb us n) ∈ nw) (Walks.tuple hh s₁.heap.objs.size ax (Nat.ne_of_lt hlt) us.toArray) (by rw [sizeLine_eq, List.size_toArray]; omega) (fun i h st => by obtain ⟨o, e, _⟩ := st.1; exact ⟨o, e⟩) ?_ hcell hkind hx
    ⟨⟨_, Heap.get?_push_size _ rfl, rfl, rfl⟩, hl.at fun o e => up _ _ e⟩ (fun b hb => ?_)
    (F.keeps up) (N.grown up) (Nat.ne_of_lt F.ns.lt) (next_is_new F) (fun p hp => Nat.ne_of_lt (Heap.lt_size (N p hp).1)) hm (R _) ?_
  · intro i h h' o nw' st e e' _ N' S'
    obtain ⟨o', q, r⟩ := st.1
    rw [e] at q
    cases q
    exact ⟨⟨o, e', r⟩, ⟨_, (N' _ S').1, rfl, _, rfl⟩⟩
  · show b < (s₁.heap.push _).objs.size
    rw [Heap.size_push]
    rcases List.mem_cons.mp hb with rfl | hb
    · exact Nat.lt_succ_self _
    · rw [List.mem_singleton.mp hb]; exact Nat.lt_succ_of_lt hlt
  · intro D C h tk m' ys news' F' N' o1 hn hC₀ hD₀ hCL hDL hCD offC fin
    refine ⟨m', hn, fun h'' hs'' => fin D h'' tk (F'.change hs'' hCL hC₀) (fun p hp => ?_) o1⟩
    refine ⟨hs''.extBut _ _ ?_ (N' p hp).1, (N' p hp).2⟩
    rcases List.mem_cons.mp hp with rfl | hp
    · exact Ne.symm hCD
    · exact offC p hp

/-- two lists of the same ints -/
theorem ne_ints {a b : Addr} {xs ys : List Value} {n1 n2 : Nat} {ns ms : List Int} {Q : Value → Shared → Prop} (N : News h₀ L s.heap news) (ha : (a, W.listOf xs.toArray n1) ∈ news) (hb : (b, W.listOf ys.toArray n2) ∈ news) (hI : IntsAre xs ns) (hJ : IntsAre ys ms) (e : ns = ms) (hu : A.units + 64 < cLine) (h : Q (.bool false) s) :
    wpAny (model prog w) A (compareOp .NotEq (.ref a) (.ref b)) Q E s := by
  subst e
  refine ke_ne_ints (isList_of N ha) (isList_of N hb) hI hJ hu ?_
  simpa using h

def rowDat (row : List Int) : Dat := .tuple (row.map Dat.int)
theorem datAll_ints {news : List (Addr × Obj)} {vs : List Value} {row : List Int} (h : IntsAre vs row) : DatAll news vs (row.map Dat.int) := by
  induction h with
  | nil => exact .nil
  | cons n t _ ih => exact .cons (.int n t) ih
theorem TupsIn.dat {news : List (Addr × Obj)} {us : List Value} {rows : List (List Int)} (h : TupsIn news us rows) : DatAll news us (rows.map rowDat) := by
  induction h with
  | nil => exact .nil
  | cons hm hi _ ih => exact .cons (.tuple hm (datAll_ints hi)) ih
theorem rowDat_ok (rows : List (List Int)) : ∀ d ∈ rows.map rowDat, kqdOk 8 d = true := by
  intro d hd
  obtain ⟨row, _, rfl⟩ := List.mem_map.mp hd
  simp only [rowDat, kqdOk, List.all_map]
  rw [List.all_eq_true]
  intro i _
  rfl
/-- two lists of the same tuples of ints -/
theorem ne_rows {a b : Addr} {xs ys : List Value} {n1 n2 : Nat} {rows rows' : List (List Int)} {t1 t2 : List (Addr × Obj)} {Q : Value → Shared → Prop} (N : News h₀ L s.heap news) (ha : (a, W.listOf xs.toArray n1) ∈ news) (hb : (b, W.listOf ys.toArray n2) ∈ news) (hI : TupsIn t1 xs rows) (s1 : ∀ p ∈ t1, p ∈ news) (hJ : TupsIn t2 ys rows') (s2 : ∀ p ∈ t2, p ∈ news) (e : rows = rows') (hu : A.units + 64 < cLine) (h : Q (.bool false) s) :
    wpAny (model prog w) A (compareOp .NotEq (.ref a) (.ref b)) Q E s := by
  subst e
  refine kqd_ne N ha rfl rfl hI.dat s1 hb rfl rfl hJ.dat s2 (rowDat_ok _) (rowDat_ok _) hu ?_
  simpa using h

/-- a sum of two tuples, not both empty -/
theorem add_tups {t b : Addr} {vs ws : List Value} {Q : Value → Shared → Prop} (F : Fr h₀ L s.heap m) (N : News h₀ L s.heap news) (ht : (t, tupOb vs 0) ∈ news) (hb : (b, tupOb ws 0) ∈ news) (hne : vs ≠ [] ∨ ws ≠ []) (hz : vs.length + ws.length ≤ 16384)
    (h : ∀ D h', Fr h₀ L h' m → News h₀ L h' ((D, tupOb (vs ++ ws) 0) :: news) → Q (.ref D) { s with heap := h' }) : wpAny (model prog w) A (binaryOp .Add (.ref t) (.ref b)) Q E s := by
  have it := isTup_of N ht
  have ib := isTup_of N hb
  by_cases hv : vs = []
  · subst hv
    refine kde_addT0 F N it ib rfl (by simpa using hz) ?_
    refine h b s.heap F fun p hp => ?_
    rcases List.mem_cons.mp hp with rfl | hp
    · exact N _ hb
    · exact N p hp
  · by_cases hw : ws = []
    · subst hw
      refine kde_addT1 F N it ib (by simpa using hv) rfl (by simpa using hz) ?_
      refine h t s.heap F fun p hp => ?_
      rcases List.mem_cons.mp hp with rfl | hp
      · rw [List.append_nil]; exact N _ ht
      · exact N p hp
    · refine kde_addT F N it ib (by simpa using hv) (by simpa using hw) (by simpa using hz) rfl fun D h' F' N' hl => ?_
      exact h D h' F' N'
end

theorem ints_uncons {vs : List Value} {ns : List Int} (h : IntsAre vs ns) (hl : 1 ≤ ns.length) : ∃ n0 tv ns' vs', ns = n0 :: ns' ∧ vs = .int n0 tv :: vs' ∧ IntsAre vs' ns' := by
  cases h with
  | nil => simp at hl
  | cons n t r => exact ⟨n, t, _, _, rfl, rfl, r⟩
end Mine
end

section
open PySem PySem.W PyProof.Rows PySem.Calls PySem.Spec
namespace Mine
set_option maxRecDepth 100000

/-! the plain law -/
def pr2 (t : Int × Int × Int) : Int × Int := (t.1, t.2.1)

theorem few_one {acc : List (Int × Int)} {x y : Int} (h : x = 1) : fewStep acc (x, y) = acc := by simp only [fewStep, if_pos h]
theorem few_nil {x y : Int} (h : x ≠ 1) : fewStep [] (x, y) = [(x, y)] := by simp only [fewStep, if_neg h, List.getLast?_nil]
theorem few_join {acc : List (Int × Int)} {q : Int × Int} {x y : Int} (h : x ≠ 1) (hq : q.2 = x * y) : fewStep (acc ++ [q]) (x, y) = acc ++ [(q.1 * x, y)] := by
  simp only [fewStep, if_neg h, List.getLast?_append, List.getLast?_singleton, Option.some_or, if_pos hq, List.dropLast_concat]
theorem few_new {acc : List (Int × Int)} {q : Int × Int} {x y : Int} (h : x ≠ 1) (hq : q.2 ≠ x * y) : fewStep (acc ++ [q]) (x, y) = acc ++ [q] ++ [(x, y)] := by
  simp only [fewStep, if_neg h, List.getLast?_append, List.getLast?_singleton, Option.some_or, if_neg hq]
theorem snoc_of {α : Type} {l : List α} (h : l ≠ []) : ∃ a b, l = a ++ [b] := by
  rcases List.eq_nil_or_concat l with rfl | ⟨a, b, e⟩
  · exact absurd rfl h
  · exact ⟨a, b, by rw [e, List.concat_eq_append]⟩

theorem merge_few : ∀ (ps : List (Int × Int)) (acc : List (Int × Int × Int)), acc ≠ [] → (ps.foldl mStep (acc, false)).1.map pr2 = ps.foldl fewStep (acc.map pr2)
  | [], _, _ => rfl
  | (x, y) :: ps, acc, h => by
    obtain ⟨acc', q, rfl⟩ := snoc_of h
    simp only [List.foldl_cons]
    by_cases hx : x = 1
    · rw [mStep_one hx, few_one hx]
      exact merge_few ps _ h
    · by_cases hq : q.2.1 = x * y
      · rw [mStep_join (acc := acc') hx rfl (.inr hq), merge_few ps _ (by simp), List.map_append, List.map_append, List.map_singleton, List.map_singleton, few_join (q := pr2 q) hx hq]
        rfl
      · rw [mStep_new (acc := acc') hx rfl rfl hq, merge_few ps _ (by simp), List.map_append, List.map_append, List.map_singleton, List.map_singleton, few_new (q := pr2 q) hx hq]
        rfl
theorem merge_ones_all : ∀ (ps : List (Int × Int)) (σ : List (Int × Int × Int) × Bool), (∀ p ∈ ps, p.1 = 1) → ps.foldl mStep σ = σ
  | [], _, _ => rfl
  | (x, y) :: ps, σ, h => by
    rw [List.foldl_cons, mStep_one (h _ List.mem_cons_self)]
    exact merge_ones_all ps σ fun p hp => h p (List.mem_cons_of_mem _ hp)
theorem merge_ones : ∀ (ps : List (Int × Int)) (w c : Int), (∃ p ∈ ps, p.1 ≠ 1) → (ps.foldl mStep ([(1, w, c)], true)).1.map pr2 = ps.foldl fewStep []
  | [], _, _, h => by simp at h
  | (x, y) :: ps, w, c, h => by
    rw [List.foldl_cons, List.foldl_cons]
    by_cases hx : x = 1
    · rw [mStep_one hx, few_one hx]
      refine merge_ones ps w c ?_
      obtain ⟨p, hp, hne⟩ := h
      rcases List.mem_cons.mp hp with rfl | hp
      · exact absurd hx hne
      · exact ⟨p, hp, hne⟩
    · rw [mStep_join (acc := []) hx rfl (.inl rfl), few_nil hx, List.nil_append, merge_few ps _ (by simp)]
      simp [pr2]

theorem merge_eq_few {n0 m0 : Int} {ns ms : List Int} (hl : ms.length = ns.length) (h : ∃ n ∈ n0 :: ns, n ≠ 1) : (mergeD n0 m0 ns ms).map pr2 = fewD (n0 :: ns) (m0 :: ms) := by
  unfold mergeD fewD mStart
  rw [List.zip_cons_cons, List.foldl_cons]
  by_cases h0 : n0 = 1
  · subst h0
    rw [few_one rfl]
    refine merge_ones _ _ _ ?_
    obtain ⟨n, hn, hne⟩ := h
    rcases List.mem_cons.mp hn with rfl | hn
    · exact absurd rfl hne
    · obtain ⟨i, hi, rfl⟩ := List.getElem_of_mem hn
      refine ⟨(ns[i], ms[i]'(by omega)), ?_, hne⟩
      have : (ns.zip ms)[i]? = some (ns[i], ms[i]'(by omega)) := by
        rw [List.getElem?_zip_eq_some]
        exact ⟨List.getElem?_eq_getElem _, List.getElem?_eq_getElem _⟩
      exact List.mem_of_getElem? this
  · rw [show (n0 == 1) = false by simpa using h0, few_nil h0, merge_few _ _ (by simp)]
    rfl
theorem merge_all_ones {n0 m0 : Int} {ns ms : List Int} (h : ∀ n ∈ n0 :: ns, n = 1) : mergeD n0 m0 ns ms = [(1, m0, if m0 = 0 then 0 else 1)] := by
  have h0 := h n0 List.mem_cons_self
  subst h0
  unfold mergeD mStart
  rw [merge_ones_all]
  rintro ⟨x, y⟩ hp
  exact h x (List.mem_cons_of_mem _ (List.of_mem_zip hp).1)

/-! the product -/
theorem foldl_mul : ∀ (ns : List Int) (a : Int), ns.foldl (· * ·) a = a * prodI ns
  | [], a => by simp [prodI]
  | n :: ns, a => by
    rw [List.foldl_cons, foldl_mul ns (a * n)]
    show _ = a * ns.foldl (· * ·) (1 * n)
    rw [foldl_mul ns (1 * n), Int.one_mul, Int.mul_assoc]
theorem prodI_cons (n : Int) (ns : List Int) : prodI (n :: ns) = n * prodI ns := by
  show ns.foldl (· * ·) (1 * n) = _
  rw [foldl_mul, Int.one_mul]
theorem prodI_append : ∀ (l r : List Int), prodI (l ++ r) = prodI l * prodI r
  | [], r => by simp [prodI]
  | n :: l, r => by rw [List.cons_append, prodI_cons, prodI_append l r, prodI_cons, Int.mul_assoc]
theorem prodI_nil : prodI [] = 1 := rfl
theorem prodI_one (n : Int) : prodI [n] = n := by rw [prodI_cons, prodI_nil, Int.mul_one]
theorem prodI_pos : ∀ {ns : List Int}, (∀ n ∈ ns, 1 ≤ n) → 1 ≤ prodI ns
  | [], _ => Int.le_refl _
  | n :: ns, h => by
    have h1 := h n List.mem_cons_self
    have h2 := prodI_pos fun m hm => h m (List.mem_cons_of_mem _ hm)
    rw [prodI_cons]
    have := Int.mul_le_mul h1 h2 (by decide) (by omega)
    omega
theorem le_mul_of {a b : Int} (ha : 1 ≤ a) (hb : 1 ≤ b) : a ≤ a * b ∧ b ≤ a * b := by
  have h1 := Int.mul_le_mul_of_nonneg_left hb (show 0 ≤ a by omega)
  have h2 := Int.mul_le_mul_of_nonneg_right ha (show 0 ≤ b by omega)
  rw [Int.mul_one] at h1
  rw [Int.one_mul] at h2
  exact ⟨h1, h2⟩
theorem mem_le_prod : ∀ {ns : List Int}, (∀ n ∈ ns, 1 ≤ n) → ∀ n ∈ ns, n ≤ prodI ns
  | n :: ns, h, m, hm => by
    have h1 := h n List.mem_cons_self
    have h2 := prodI_pos fun m hm => h m (List.mem_cons_of_mem _ hm)
    have h3 := le_mul_of h1 h2
    rw [prodI_cons]
    rcases List.mem_cons.mp hm with rfl | hm
    · exact h3.1
    · exact Int.le_trans (mem_le_prod (fun m hm => h m (List.mem_cons_of_mem _ hm)) m hm) h3.2
theorem prodI_take_le {ns : List Int} (h : ∀ n ∈ ns, 1 ≤ n) (i : Nat) : prodI (ns.take i) ≤ prodI ns := by
  have e : prodI ns = prodI (ns.take i) * prodI (ns.drop i) := by rw [← prodI_append, List.take_append_drop]
  rw [e]
  exact (le_mul_of (prodI_pos fun n hn => h n (List.mem_of_mem_take hn)) (prodI_pos fun n hn => h n (List.mem_of_mem_drop hn))).1
theorem prodI_ones : ∀ {ns : List Int}, (∀ n ∈ ns, n = 1) → prodI ns = 1
  | [], _ => rfl
  | n :: ns, h => by rw [prodI_cons, h n List.mem_cons_self, prodI_ones fun m hm => h m (List.mem_cons_of_mem _ hm)]; rfl
theorem ones_of_prod {ns : List Int} (h : ∀ n ∈ ns, 1 ≤ n) (hp : prodI ns = 1) : ∀ n ∈ ns, n = 1 := by
  intro n hn
  have h1 := mem_le_prod h n hn
  have h2 := h n hn
  omega
theorem not_ones {ns : List Int} (hp : prodI ns ≠ 1) : ∃ n ∈ ns, n ≠ 1 := by
  apply Classical.byContradiction
  intro hc
  refine hp (prodI_ones fun n hn => ?_)
  apply Classical.byContradiction
  intro hne
  exact hc ⟨n, hn, hne⟩

theorem places_len : ∀ (ns : List Int) (rows : List (List Int)), (∀ n ∈ ns, 1 ≤ n) → ((ns.foldl (fun rows s => rows.flatMap (rowsOf s)) rows).length : Int) = rows.length * prodI ns
  | [], rows, _ => by simp [prodI]
  | n :: ns, rows, h => by
    have h1 := h n List.mem_cons_self
    rw [List.foldl_cons, places_len ns _ fun m hm => h m (List.mem_cons_of_mem _ hm), prodI_cons, ← Int.mul_assoc]
    congr 1
    have : ∀ rows : List (List Int), ((rows.flatMap (rowsOf n)).length : Int) = rows.length * n := by
      intro rows
      induction rows with
      | nil => simp
      | cons r rows ih =>
        rw [List.flatMap_cons, List.length_append, Int.natCast_add, ih, List.length_cons, Int.natCast_add, Int.add_mul]
        have : ((rowsOf n r).length : Int) = n := by
          simp [rowsOf]
          omega
        rw [this]
        simp
        omega
    exact this rows
theorem placesD_len_le {ns : List Int} (h : ∀ n ∈ ns, 1 ≤ n) (hp : prodI ns ≤ 100) (i : Nat) : (placesD (ns.take i)).length ≤ 1000000 := by
  have h1 := places_len (ns.take i) [[]] fun n hn => h n (List.mem_of_mem_take hn)
  have h2 := prodI_take_le h i
  have h3 : (placesD (ns.take i)).length = (List.foldl (fun rows s => List.flatMap (rowsOf s) rows) [[]] (ns.take i)).length := rfl
  rw [h3]
  simp at h1
  omega

theorem flat_congr {α β : Type} {f g : α → List β} : ∀ {l : List α}, (∀ a ∈ l, f a = g a) → l.flatMap f = l.flatMap g
  | [], _ => rfl
  | a :: l, h => by rw [List.flatMap_cons, List.flatMap_cons, h a List.mem_cons_self, flat_congr fun b hb => h b (List.mem_cons_of_mem _ hb)]
/-! the walk -/
def wStep (vals : List Int) (p : Int × Int) : List Int := vals.flatMap fun v => (List.range p.1.toNat).map fun (k : Nat) => v + (k : Int) * p.2
def wP (l : List (Int × Int)) : List Int := l.foldl wStep [0]
theorem dot_snoc {row pre : List Int} {k st : Int} (h : row.length = pre.length) : dot (row ++ [k]) (pre ++ [st]) = dot row pre + k * st := by
  unfold dot
  rw [List.zipWith_append h]
  simp
theorem walk_fold : ∀ (ns ms : List Int) (rows : List (List Int)) (pre : List Int), ns.length = ms.length → (∀ row ∈ rows, row.length = pre.length) →
    (ns.foldl (fun rows s => rows.flatMap (rowsOf s)) rows).map (fun row => dot row (pre ++ ms)) = (ns.zip ms).foldl wStep (rows.map fun row => dot row pre)
  | [], [], rows, pre, _, _ => by simp
  | [], _ :: _, _, _, h, _ => by simp at h
  | _ :: _, [], _, _, h, _ => by simp at h
  | n :: ns, m :: ms, rows, pre, h, hr => by
    rw [List.zip_cons_cons, List.foldl_cons, List.foldl_cons]
    have ih := walk_fold ns ms (rows.flatMap (rowsOf n)) (pre ++ [m]) (by simpa using h) (fun r hr' => by
      obtain ⟨r0, h0, h1⟩ := List.mem_flatMap.mp hr'
      obtain ⟨i, _, rfl⟩ := List.mem_map.mp h1
      simp [hr r0 h0])
    rw [List.append_assoc] at ih
    rw [show pre ++ m :: ms = pre ++ ([m] ++ ms) from rfl, ih]
    congr 1
    unfold wStep
    rw [List.map_flatMap, List.flatMap_map]
    refine flat_congr fun row hrow => ?_
    unfold rowsOf
    rw [List.map_map]
    refine List.map_congr_left fun k _ => ?_
    exact dot_snoc (hr row hrow)
theorem walkD_eq {ns ms : List Int} (h : ns.length = ms.length) : walkD ns ms = wP (ns.zip ms) := by
  have := walk_fold ns ms [[]] [] h (by simp)
  simpa [walkD, wP, placesD, dot] using this

theorem range_mul (x : Nat) : ∀ q : Nat, List.range (q * x) = (List.range q).flatMap fun k => (List.range x).map fun j => k * x + j
  | 0 => by simp
  | q + 1 => by
    rw [List.range_succ, List.flatMap_append, ← range_mul x q, Nat.add_mul, Nat.one_mul, List.range_add]
    simp
theorem wStep_one (vals : List Int) (y : Int) : wStep vals (1, y) = vals := by
  unfold wStep
  simp
theorem wStep_join (vals : List Int) {q : Int × Int} {x y : Int} (hq : 0 ≤ q.1) (hx : 0 ≤ x) (h : q.2 = x * y) : wStep (wStep vals q) (x, y) = wStep vals (q.1 * x, y) := by
  unfold wStep
  rw [List.flatMap_assoc]
  refine flat_congr fun v _ => ?_
  rw [List.flatMap_map]
  have e : (q.1 * x).toNat = q.1.toNat * x.toNat := Int.toNat_mul hq hx
  show _ = (List.range (q.1 * x).toNat).map _
  rw [e, range_mul, List.map_flatMap]
  refine flat_congr fun k _ => ?_
  rw [List.map_map]
  refine List.map_congr_left fun j _ => ?_
  have ex : ((x.toNat : Nat) : Int) = x := Int.toNat_of_nonneg hx
  simp only [Function.comp, h, Int.natCast_add, Int.natCast_mul, ex, Int.add_mul, Int.mul_assoc, Int.add_assoc]
theorem wP_snoc (l : List (Int × Int)) (p : Int × Int) : wP (l ++ [p]) = wStep (wP l) p := by simp [wP]

/-! rows of fewest sides -/
theorem few_fold {acc : List (Int × Int)} {p : Int × Int} (h1 : 1 ≤ p.1) (ha : ∀ q ∈ acc, 2 ≤ q.1) :
    wP (fewStep acc p) = wStep (wP acc) p ∧ prodI ((fewStep acc p).map (·.1)) = prodI (acc.map (·.1)) * p.1 ∧ ∀ q ∈ fewStep acc p, 2 ≤ q.1 := by
  obtain ⟨x, y⟩ := p
  simp only at h1
  by_cases hx : x = 1
  · rw [few_one hx, hx]
    exact ⟨(wStep_one _ _).symm, by simp, ha⟩
  · rcases List.eq_nil_or_concat acc with rfl | ⟨acc', q, e⟩
    · rw [few_nil hx]
      refine ⟨rfl, by simp [prodI], ?_⟩
      intro q hq
      rw [List.mem_singleton.mp hq]
      simp only
      omega
    · rw [List.concat_eq_append] at e
      subst e
      have hq2 := ha q (by simp)
      by_cases hq : q.2 = x * y
      · rw [few_join hx hq, wP_snoc, wP_snoc, wStep_join _ (by omega) (by omega) hq]
        refine ⟨rfl, by simp only [List.map_append, List.map_cons, List.map_nil, prodI_append, prodI_one, Int.mul_assoc], ?_⟩
        intro r hr
        rcases List.mem_append.mp hr with hr | hr
        · exact ha r (List.mem_append_left _ hr)
        · rw [List.mem_singleton.mp hr]
          have := (le_mul_of (a := q.1) (b := x) (by omega) h1).1
          simp only
          omega
      · rw [few_new hx hq, wP_snoc]
        refine ⟨rfl, by simp only [List.map_append, List.map_cons, List.map_nil, prodI_append, prodI_one], ?_⟩
        intro r hr
        rcases List.mem_append.mp hr with hr | hr
        · exact ha r hr
        · rw [List.mem_singleton.mp hr]
          simp only
          omega
theorem fews_fold : ∀ (ps acc : List (Int × Int)), (∀ p ∈ ps, 1 ≤ p.1) → (∀ q ∈ acc, 2 ≤ q.1) →
    wP (ps.foldl fewStep acc) = ps.foldl wStep (wP acc) ∧ prodI ((ps.foldl fewStep acc).map (·.1)) = prodI (acc.map (·.1)) * prodI (ps.map (·.1)) ∧ ∀ q ∈ ps.foldl fewStep acc, 2 ≤ q.1
  | [], acc, _, ha => ⟨rfl, by simp [prodI], ha⟩
  | p :: ps, acc, hp, ha => by
    obtain ⟨h1, h2, h3⟩ := few_fold (hp p List.mem_cons_self) ha
    obtain ⟨g1, g2, g3⟩ := fews_fold ps (fewStep acc p) (fun q hq => hp q (List.mem_cons_of_mem _ hq)) h3
    rw [List.foldl_cons, List.foldl_cons, g1, g2, h1, h2, List.map_cons, prodI_cons, Int.mul_assoc]
    exact ⟨rfl, rfl, g3⟩

/-- neighbours, from the end -/
def Apart : List (Int × Int) → Prop
  | [] => True
  | [_] => True
  | a :: b :: l => a.2 ≠ b.1 * b.2 ∧ Apart (b :: l)
theorem apart_snoc2 : ∀ (l : List (Int × Int)) (a b : Int × Int), Apart (l ++ [a, b]) ↔ (Apart (l ++ [a]) ∧ a.2 ≠ b.1 * b.2)
  | [], a, b => by simp [Apart]
  | [c], a, b => by simp [Apart]
  | c :: d :: l, a, b => by
    have := apart_snoc2 (d :: l) a b
    simp only [List.cons_append, Apart] at this ⊢
    rw [this, and_assoc]
theorem apart_last : ∀ (l : List (Int × Int)) (a b : Int × Int), a.1 * a.2 = b.1 * b.2 → Apart (l ++ [a]) → Apart (l ++ [b])
  | [], _, _, _, _ => trivial
  | [c], a, b, e, h => by simp [Apart] at h ⊢; rw [← e]; exact h
  | c :: d :: l, a, b, e, h => by
    simp only [List.cons_append, Apart] at h ⊢
    exact ⟨h.1, apart_last (d :: l) a b e h.2⟩
theorem apart_app : ∀ (l r : List (Int × Int)), Apart (l ++ r) → Apart l
  | [], _, _ => trivial
  | [_], _, _ => trivial
  | a :: b :: l, r, h => by
    simp only [List.cons_append, Apart] at h ⊢
    exact ⟨h.1, apart_app (b :: l) r h.2⟩
theorem few_apart {acc : List (Int × Int)} {p : Int × Int} (ha : Apart acc) : Apart (fewStep acc p) := by
  obtain ⟨x, y⟩ := p
  by_cases hx : x = 1
  · rw [few_one hx]; exact ha
  · rcases List.eq_nil_or_concat acc with rfl | ⟨acc', q, e⟩
    · rw [few_nil hx]; trivial
    · rw [List.concat_eq_append] at e
      subst e
      by_cases hq : q.2 = x * y
      · rw [few_join hx hq]
        refine apart_last acc' q _ ?_ ha
        simp only
        rw [hq, Int.mul_assoc]
      · rw [few_new hx hq, List.append_assoc]
        exact (apart_snoc2 acc' q (x, y)).mpr ⟨ha, hq⟩
theorem fews_apart : ∀ (ps acc : List (Int × Int)), Apart acc → Apart (ps.foldl fewStep acc)
  | [], _, h => h
  | p :: ps, acc, h => fews_apart ps (fewStep acc p) (few_apart h)

/-- a row that is apart is its own fewest row -/
theorem fews_fix : ∀ (ps acc : List (Int × Int)), Apart (acc ++ ps) → (∀ p ∈ ps, p.1 ≠ 1) → ps.foldl fewStep acc = acc ++ ps
  | [], acc, _, _ => by simp
  | (x, y) :: ps, acc, h, h1 => by
    have hx : x ≠ 1 := h1 (x, y) List.mem_cons_self
    have e : fewStep acc (x, y) = acc ++ [(x, y)] := by
      rcases List.eq_nil_or_concat acc with rfl | ⟨acc', q, e⟩
      · rw [few_nil hx]; rfl
      · rw [List.concat_eq_append] at e
        subst e
        refine few_new hx ?_
        have := apart_app (acc' ++ [q] ++ [(x, y)]) ps (by simpa using h)
        rw [List.append_assoc] at this
        exact ((apart_snoc2 acc' q (x, y)).mp this).2
    rw [List.foldl_cons, e, fews_fix ps _ (by simpa using h) fun p hp => h1 p (List.mem_cons_of_mem _ hp)]
    simp
/-- a row cut in two is put together again -/
theorem fews_cut {l r : List (Int × Int)} {s t d k : Int} (h : Apart (l ++ (s, t) :: r)) (h2 : ∀ p ∈ l ++ (s, t) :: r, p.1 ≠ 1) (hs : s = k * d) (hd : d ≠ 1) : (l ++ (k, t * d) :: (d, t) :: r).foldl fewStep [] = l ++ (s, t) :: r := by
  have hl : l.foldl fewStep [] = l := fews_fix l [] (apart_app l _ (by simpa using h)) fun p hp => h2 p (by simp [hp])
  have hfin : r.foldl fewStep (l ++ [(s, t)]) = l ++ (s, t) :: r := by
    rw [fews_fix r _ (by simpa using h) fun p hp => h2 p (by simp [hp])]
    simp
  have hs1 : s ≠ 1 := h2 (s, t) (by simp)
  have hone : fewStep l (s, t) = l ++ [(s, t)] := by
    have := fews_fix [(s, t)] l (apart_app (l ++ [(s, t)]) r (by simpa using h)) (by simpa using hs1)
    simpa using this
  rw [List.foldl_append, hl, List.foldl_cons, List.foldl_cons]
  rw [← hfin]
  congr 1
  by_cases hk : k = 1
  · rw [few_one hk]
    rw [hk, Int.one_mul] at hs
    rw [← hs]
    exact hone
  · have hkt : k * (t * d) = s * t := by rw [hs, Int.mul_comm t d, ← Int.mul_assoc]
    have e1 : fewStep l (k, t * d) = l ++ [(k, t * d)] := by
      rcases List.eq_nil_or_concat l with e | ⟨l', q, e⟩
      · rw [e, few_nil hk]; rfl
      · rw [List.concat_eq_append] at e
        rw [e]
        refine few_new hk ?_
        have := apart_app (l ++ [(s, t)]) r (by simpa using h)
        rw [e, List.append_assoc] at this
        rw [hkt]
        exact ((apart_snoc2 l' q (s, t)).mp this).2
    rw [e1, few_join hd (Int.mul_comm t d), ← hs]

/-! the merge, summed up -/
def Third (t : Int × Int × Int) : Prop := t.2.2 = if t.2.1 = 0 then 0 else t.1
structure MInv (σ : List (Int × Int × Int) × Bool) : Prop where
  ne : σ.1 ≠ []
  one : σ.2 = true → ∃ w c, σ.1 = [(1, w, c)]
  each : ∀ t ∈ σ.1, Third t ∧ 1 ≤ t.1 ∧ -10000 < t.2.1 ∧ t.2.1 < 10000

theorem minv_step {σ : List (Int × Int × Int) × Bool} {x y : Int} (h : MInv σ) (hx : 1 ≤ x) (hy : -10000 < y ∧ y < 10000) : MInv (mStep σ (x, y)) ∧ (mStep σ (x, y)).1.length ≤ σ.1.length + 1 := by
  by_cases h1 : x = 1
  · rw [mStep_one h1]
    exact ⟨h, Nat.le_succ _⟩
  · obtain ⟨acc, q, e⟩ := snoc_of h.ne
    have hq := h.each q (by rw [e]; simp)
    by_cases hj : σ.2 = true ∨ q.2.1 = x * y
    · rw [mStep_join h1 e hj]
      refine ⟨⟨by simp, by simp, ?_⟩, by rw [e]; simp⟩
      intro t ht
      rcases List.mem_append.mp ht with ht | ht
      · exact h.each t (by rw [e]; exact List.mem_append_left _ ht)
      · rw [List.mem_singleton.mp ht]
        refine ⟨?_, ?_, hy⟩
        · simp only [Third]
          by_cases hy0 : y = 0
          · rw [if_pos hy0, if_pos hy0]
          · rw [if_neg hy0, if_neg hy0]
            by_cases hb : σ.2 = true
            · rw [if_pos hb]
              obtain ⟨w, c, e1⟩ := h.one hb
              rw [e1] at e
              have : acc = [] ∧ q = (1, w, c) := by
                cases acc with
                | nil => simpa using e.symm
                | cons a l => simp at e
              rw [this.2, Int.one_mul]
            · rw [if_neg hb]
              have hq2 := hj.resolve_left hb
              have hne : q.2.1 ≠ 0 := by rw [hq2]; exact Int.mul_ne_zero (by omega) hy0
              have := hq.1
              simp only [Third, if_neg hne] at this
              rw [this]
        · exact Int.le_trans hx (le_mul_of hq.2.1 hx).2
    · have hb : σ.2 = false := by simpa using fun hb => hj (.inl hb)
      rw [mStep_new h1 e hb fun hq => hj (.inr hq)]
      refine ⟨⟨by simp, by simp, ?_⟩, by simp⟩
      intro t ht
      rcases List.mem_append.mp ht with ht | ht
      · exact h.each t ht
      · rw [List.mem_singleton.mp ht]
        exact ⟨rfl, hx, hy⟩
theorem minv_fold : ∀ (ps : List (Int × Int)) (σ : List (Int × Int × Int) × Bool), MInv σ → (∀ p ∈ ps, 1 ≤ p.1 ∧ -10000 < p.2 ∧ p.2 < 10000) → MInv (ps.foldl mStep σ) ∧ (ps.foldl mStep σ).1.length ≤ σ.1.length + ps.length
  | [], σ, h, _ => ⟨h, Nat.le_refl _⟩
  | (x, y) :: ps, σ, h, hp => by
    have h1 := hp (x, y) List.mem_cons_self
    obtain ⟨g1, g2⟩ := minv_step h h1.1 h1.2
    obtain ⟨g3, g4⟩ := minv_fold ps _ g1 fun p hp' => hp p (List.mem_cons_of_mem _ hp')
    refine ⟨g3, ?_⟩
    rw [List.foldl_cons, List.length_cons]
    simp only at g4 g2 ⊢
    omega

theorem zip_maps {α β : Type} : ∀ (l : List (α × β)), (l.map (·.1)).zip (l.map (·.2)) = l
  | [] => rfl
  | p :: l => by rw [List.map_cons, List.map_cons, List.zip_cons_cons, zip_maps l]
theorem apart_get : ∀ {l : List (Int × Int)}, Apart l → ∀ (i : Nat) (a b : Int × Int), l[i]? = some a → l[i + 1]? = some b → a.2 ≠ b.1 * b.2
  | [], _, i, a, b, h, _ => by simp at h
  | [_], _, i, a, b, _, h => by simp at h
  | c :: d :: l, hA, 0, a, b, h1, h2 => by
    simp at h1 h2
    subst h1 h2
    exact hA.1
  | c :: d :: l, hA, i + 1, a, b, h1, h2 => apart_get hA.2 i a b (by simpa using h1) (by simpa using h2)
theorem of_zip {ns ms : List Int} {P R : Int → Prop} (h1 : ∀ n ∈ ns, P n) (h2 : ∀ m ∈ ms, R m) : ∀ p ∈ ns.zip ms, P p.1 ∧ R p.2 := by
  rintro ⟨x, y⟩ hp
  exact ⟨h1 x (List.of_mem_zip hp).1, h2 y (List.of_mem_zip hp).2⟩

section
variable {n0 m0 : Int} {ns ms : List Int}
/-- the row that is merged, and what is known of it -/
structure MFacts (n0 m0 : Int) (ns ms : List Int) (M : List (Int × Int × Int)) : Prop where
  ne : M ≠ []
  len : M.length ≤ ns.length + 1
  each : ∀ t ∈ M, Third t ∧ 1 ≤ t.1 ∧ -10000 < t.2.1 ∧ t.2.1 < 10000
  le : ∀ t ∈ M, t.1 ≤ 100
  prod : prodI (M.map (·.1)) = prodI (n0 :: ns)
  walk : walkD (M.map (·.1)) (M.map (·.2.1)) = walkD (n0 :: ns) (m0 :: ms)
  next : ∀ (i : Nat) (a b : Int × Int × Int), M[i]? = some a → M[i + 1]? = some b → a.2.1 ≠ b.1 * b.2.1 ∧ b.1 ≠ 1 ∧ a.1 ≠ 1
  single : prodI (n0 :: ns) = 1 → M.length = 1
  few : prodI (n0 :: ns) ≠ 1 → M.map pr2 = fewD (n0 :: ns) (m0 :: ms)
  ap : Apart (M.map pr2)
  two : prodI (n0 :: ns) ≠ 1 → ∀ t ∈ M, 2 ≤ t.1

theorem mfacts (hl : ms.length = ns.length) (h1 : ∀ n ∈ n0 :: ns, 1 ≤ n) (hp : prodI (n0 :: ns) ≤ 100) (h2 : ∀ m ∈ m0 :: ms, -10000 < m ∧ m < 10000) : MFacts n0 m0 ns ms (mergeD n0 m0 ns ms) := by
  have hS : MInv (mStart n0 m0) := by
    refine ⟨by simp [mStart], ?_, ?_⟩
    · intro h
      have : n0 = 1 := by simpa [mStart] using h
      exact ⟨m0, _, by rw [mStart, this]⟩
    · intro t ht
      rw [List.mem_singleton.mp ht]
      exact ⟨rfl, h1 n0 List.mem_cons_self, h2 m0 List.mem_cons_self⟩
  have hz := of_zip (fun n hn => h1 n (List.mem_cons_of_mem _ hn)) (fun m hm => h2 m (List.mem_cons_of_mem _ hm))
  obtain ⟨hI, hlen⟩ := minv_fold (ns.zip ms) (mStart n0 m0) hS hz
  have hM : mergeD n0 m0 ns ms = ((ns.zip ms).foldl mStep (mStart n0 m0)).1 := rfl
  have hlen' : (mergeD n0 m0 ns ms).length ≤ ns.length + 1 := by
    rw [hM]
    have : (mStart n0 m0).1.length = 1 := rfl
    rw [this, List.length_zip] at hlen
    omega
  have hwl : walkD (n0 :: ns) (m0 :: ms) = wP ((n0 :: ns).zip (m0 :: ms)) := walkD_eq (by simp [hl])
  have hzf : ((n0 :: ns).zip (m0 :: ms)).map (·.1) = n0 :: ns := List.map_fst_zip (by simp [hl])
  have hps : ∀ p ∈ (n0 :: ns).zip (m0 :: ms), 1 ≤ p.1 := fun p hp => (of_zip h1 h2 p hp).1
  have hF := fews_fold ((n0 :: ns).zip (m0 :: ms)) [] hps (by simp)
  have hA := fews_apart ((n0 :: ns).zip (m0 :: ms)) [] trivial
  have e1 : ∀ M : List (Int × Int × Int), M.map (·.1) = (M.map pr2).map (·.1) := fun M => by simp [pr2]
  have e2 : ∀ M : List (Int × Int × Int), M.map (·.2.1) = (M.map pr2).map (·.2) := fun M => by simp [pr2]
  have hsw : ∀ M : List (Int × Int × Int), walkD (M.map (·.1)) (M.map (·.2.1)) = wP (M.map pr2) := fun M => by
    rw [walkD_eq (by simp), e1, e2, zip_maps]
  by_cases hone : prodI (n0 :: ns) = 1
  · have hall := ones_of_prod h1 hone
    have hMe := merge_all_ones (m0 := m0) (ms := ms) hall
    have hw1 : wP ((n0 :: ns).zip (m0 :: ms)) = [0] := by
      have : ∀ (ps : List (Int × Int)) (v : List Int), (∀ p ∈ ps, p.1 = 1) → ps.foldl wStep v = v := by
        intro ps
        induction ps with
        | nil => intro v _; rfl
        | cons p ps ih =>
          intro v h
          obtain ⟨x, y⟩ := p
          have hx : x = 1 := h (x, y) List.mem_cons_self
          rw [List.foldl_cons, hx, wStep_one]
          exact ih v fun q hq => h q (List.mem_cons_of_mem _ hq)
      exact this _ _ fun p hp => hall p.1 (List.of_mem_zip (a := p.1) (b := p.2) hp).1
    refine ⟨hI.ne, hlen', hI.each, ?_, ?_, ?_, ?_, ?_, fun h => absurd hone h, ?_, fun h => absurd hone h⟩
    · rw [hMe]
      intro t ht
      rw [List.mem_singleton.mp ht]
      show (1 : Int) ≤ 100
      decide
    · rw [hMe, hone]
      rfl
    · rw [hsw, hMe, hwl, hw1]
      exact wStep_one [0] m0
    · rw [hMe]
      intro i a b _ hb
      simp at hb
    · intro _
      rw [hMe]
      rfl
    · rw [hMe]
      trivial
  · have hfew := merge_eq_few (m0 := m0) (ms := ms) hl (not_ones hone)
    have hpr : prodI ((mergeD n0 m0 ns ms).map (·.1)) = prodI (n0 :: ns) := by
      rw [e1, hfew]
      have := hF.2.1
      rw [hzf] at this
      show prodI ((((n0 :: ns).zip (m0 :: ms)).foldl fewStep []).map (·.1)) = _
      rw [this]
      simp [prodI_nil]
    have htwo : ∀ t ∈ mergeD n0 m0 ns ms, 2 ≤ t.1 := by
      intro t ht
      refine hF.2.2 (pr2 t) ?_
      show pr2 t ∈ fewD (n0 :: ns) (m0 :: ms)
      rw [← hfew]
      exact List.mem_map.mpr ⟨t, ht, rfl⟩
    have hap : Apart ((mergeD n0 m0 ns ms).map pr2) := by rw [hfew]; exact hA
    refine ⟨hI.ne, hlen', hI.each, ?_, hpr, ?_, ?_, fun h => absurd h hone, fun _ => hfew, hap, fun _ => htwo⟩
    · intro t ht
      have := mem_le_prod (ns := (mergeD n0 m0 ns ms).map (·.1)) (fun n hn => by
        obtain ⟨u, hu, rfl⟩ := List.mem_map.mp hn
        exact (hI.each u hu).2.1) t.1 (List.mem_map.mpr ⟨t, ht, rfl⟩)
      rw [hpr] at this
      omega
    · rw [hsw, hfew, hwl]
      exact hF.1
    · intro i a b ha hb
      have := apart_get hap i (pr2 a) (pr2 b) (by rw [List.getElem?_map, ha]; rfl) (by rw [List.getElem?_map, hb]; rfl)
      have h3 := htwo a (List.mem_of_getElem? ha)
      have h4 := htwo b (List.mem_of_getElem? hb)
      exact ⟨this, by omega, by omega⟩

/-- a row of pairs, merged again -/
theorem remerge {p : Int × Int} {l : List (Int × Int)} (h : ∃ q ∈ p :: l, q.1 ≠ 1) : (mergeD p.1 p.2 (l.map (·.1)) (l.map (·.2))).map pr2 = (p :: l).foldl fewStep [] := by
  rw [merge_eq_few (by simp) (by
    obtain ⟨q, hq, hne⟩ := h
    rcases List.mem_cons.mp hq with rfl | hq
    · exact ⟨_, List.mem_cons_self, hne⟩
    · exact ⟨q.1, List.mem_cons_of_mem _ (List.mem_map.mpr ⟨q, hq, rfl⟩), hne⟩)]
  unfold fewD
  rw [List.zip_cons_cons, zip_maps]
theorem remerge_same {p : Int × Int} {l : List (Int × Int)} (hA : Apart (p :: l)) (h2 : ∀ q ∈ p :: l, 2 ≤ q.1) : (mergeD p.1 p.2 (l.map (·.1)) (l.map (·.2))).map pr2 = p :: l := by
  rw [remerge ⟨p, List.mem_cons_self, by have := h2 p List.mem_cons_self; omega⟩]
  exact fews_fix (p :: l) [] hA fun q hq => by have := h2 q hq; omega
end

theorem tri_at {nx : List (Addr × Obj)} {us : List Value} {M : List (Int × Int × Int)} (h : TupsIn nx us (M.map trL)) {i : Nat} {v : Value} (e : us[i]? = some v) : ∃ a n t x y z, v = .ref a ∧ (a, tupOb [.int t.1 x, .int t.2.1 y, .int t.2.2 z] n) ∈ nx ∧ M[i]? = some t := by
  obtain ⟨a, vs, n, row, h1, h2, h3, h4⟩ := h.at i v e
  rw [List.getElem?_map] at h4
  cases hM : M[i]? with
  | none => rw [hM] at h4; simp at h4
  | some t =>
    rw [hM] at h4
    simp at h4
    subst h4
    cases h3 with
    | cons _ x h3 =>
      cases h3 with
      | cons _ y h3 =>
        cases h3 with
        | cons _ z h3 =>
          cases h3
          exact ⟨a, n, t, x, y, z, h1, h2, rfl⟩
end Mine
end

section
open PySem PySem.W PyProof.Rows PySem.Calls PySem.Spec
namespace Mine
theorem st_start {h₀ h : Heap} {L sa sb : Addr} {x y : Int} {tx ty : Tok} {n : Nat} {ys : List Value} {ns : List Int} {rest : List (Addr × Obj)} (_N : News h₀ L h ((sa, W.listOf #[Value.ref sb, .int x tx, .int y ty] n) :: (sb, LCg.lst ys) :: rest)) (hI : IntsAre ys ns) (hl : ns.length ≤ 24) (hy0 : 0 ≤ y) (hy1 : y < 2147483647) (hab : @Ne Nat sa sb) :
    StIn sa sb (W.listOf #[Value.ref sb, .int x tx, .int y ty] n) (LCg.lst ys) := ⟨x, y, tx, ty, n, ys.length, ys, ns, rfl, rfl, hI, by rw [hI.length]; exact hl, hy0, hy1, hab⟩
theorem news_drop3 {h₀ h : Heap} {L : Addr} {p q r : Addr × Obj} {rest : List (Addr × Obj)} (N : News h₀ L h (p :: q :: r :: rest)) : News h₀ L h (p :: q :: rest) := news_sub N (by intro x hx; simp only [List.mem_cons] at hx ⊢; grind)
theorem news_drop2 {h₀ h : Heap} {L : Addr} {p q : Addr × Obj} {rest : List (Addr × Obj)} (N : News h₀ L h (p :: q :: rest)) : News h₀ L h (p :: rest) := news_sub N (by intro x hx; simp only [List.mem_cons] at hx ⊢; grind)
theorem mem9 {h₀ h : Heap} {L : Addr} {a b c d e f g i j : Addr × Obj} {tl : List (Addr × Obj)} (_N : News h₀ L h (a :: b :: c :: d :: e :: f :: g :: i :: j :: tl)) : ∀ q ∈ tl, q ∈ a :: b :: c :: d :: e :: f :: g :: i :: j :: tl := by
  intro q hq
  simp [hq]
theorem memT {h₀ h : Heap} {L : Addr} {a : Addr × Obj} {l1 l2 tl : List (Addr × Obj)} (_N : News h₀ L h (a :: (l1 ++ l2))) (hs : ∀ q ∈ tl, q ∈ l2) : ∀ q ∈ tl, q ∈ a :: (l1 ++ l2) := fun q hq => List.mem_cons_of_mem _ (List.mem_append_right _ (hs q hq))
theorem cells_off {h₀ h : Heap} {L : Addr} {p q c2 c1 : Addr × Obj} (_N : News h₀ L h [p, q, c2, c1]) (h2 : c2.1 ≠ p.1 ∧ c2.1 ≠ q.1) (h1 : c1.1 ≠ p.1 ∧ c1.1 ≠ q.1) : ∀ x ∈ [c2, c1], x.1 ≠ p.1 ∧ x.1 ≠ q.1 := by
  intro x hx
  simp only [List.mem_cons, List.not_mem_nil, or_false] at hx
  rcases hx with rfl | rfl
  · exact h2
  · exact h1
theorem news_abs {h₀ h : Heap} {L : Addr} {G tl : List (Addr × Obj)} (N : News h₀ L h (G ++ tl)) : ∃ LED, News h₀ L h LED ∧ (∀ q ∈ G, q ∈ LED) ∧ ∀ q ∈ tl, q ∈ LED :=
  ⟨_, N, fun _ hq => List.mem_append_left _ hq, fun _ hq => List.mem_append_right _ hq⟩
theorem news_tail {h₀ h : Heap} {L : Addr} {p : Addr × Obj} {l : List (Addr × Obj)} (N : News h₀ L h (p :: l)) : News h₀ L h l := fun q hq => N q (List.mem_cons_of_mem _ hq)
theorem law_base {h₀ h : Heap} {L : Addr} {G tl LED : List (Addr × Obj)} (N : News h₀ L h LED) (hG : ∀ q ∈ G, q ∈ LED) (hT : ∀ q ∈ tl, q ∈ LED) : News h₀ L h (G ++ tl) := fun q hq => (List.mem_append.mp hq).elim (fun h => N q (hG q h)) fun h => N q (hT q h)
theorem ints_cons {vs : List Value} {n : Int} {ns : List Int} (h : IntsAre vs (n :: ns)) : ∃ t vs', vs = .int n t :: vs' ∧ IntsAre vs' ns := by
  cases h with
  | cons n t r => exact ⟨t, _, rfl, r⟩
theorem news_abs1 {h₀ h : Heap} {L : Addr} {l : List (Addr × Obj)} (N : News h₀ L h l) : ∃ LED, News h₀ L h LED ∧ ∀ q ∈ l, q ∈ LED := ⟨l, N, fun _ h => h⟩
theorem law_back {h₀ h : Heap} {L : Addr} {l B LC : List (Addr × Obj)} (N : News h₀ L h l) (h1 : ∀ q ∈ B, q ∈ LC) (h2 : ∀ q ∈ LC, q ∈ l) : News h₀ L h B := fun q hq => N q (h2 q (h1 q hq))
theorem take_led {h₀ h : Heap} {L : Addr} {c1 c2 p q d1 d2 t1 t2 : Addr × Obj} {tl : List (Addr × Obj)} (N : News h₀ L h ([c1, c2, p, q, d1, d2, t1, t2] ++ tl)) : News h₀ L h (p :: q :: c1 :: c2 :: d1 :: d2 :: t1 :: t2 :: tl) :=
  news_sub N (by intro x hx; simp only [List.mem_cons, List.mem_append, List.not_mem_nil, or_false] at hx ⊢; grind)
theorem store_led {h₀ h : Heap} {L : Addr} {c1 c2 p q d1 d2 t1 t2 : Addr × Obj} {tl : List (Addr × Obj)} (N : News h₀ L h (p :: q :: c1 :: c2 :: d1 :: d2 :: t1 :: t2 :: tl)) : News h₀ L h (c2 :: c1 :: p :: q :: d1 :: d2 :: t1 :: t2 :: tl) :=
  news_sub N (by intro x hx; simp only [List.mem_cons] at hx ⊢; grind)
/-- a fact kept from the walk -/
def Box (P : Prop) : Prop := P
theorem stin_list {a b : Addr} {o1 o2 : Obj} (h : StIn a b o1 o2) : o1.cls = .type "list" ∧ o2.cls = .type "list" := by
  obtain ⟨_, _, _, _, _, _, _, _, rfl, rfl, _⟩ := h
  exact ⟨rfl, rfl⟩
theorem ne_cls {o o' : Obj} (h : o.cls ≠ o'.cls) : o ≠ o' := fun e => h (by rw [e])
theorem ne_data {o o' : Obj} (h : o.data ≠ o'.data) : o ≠ o' := fun e => h (by rw [e])

structure LawLed (p q d1 d2 c2 c1 t1 t2 : Addr × Obj) (tl : List (Addr × Obj)) : Prop where
  cc : c2.1 ≠ c1.1
  cp : (c1.1 ≠ p.1 ∧ c1.1 ≠ q.1) ∧ (c2.1 ≠ p.1 ∧ c2.1 ≠ q.1)
  rc : ∀ x ∈ d1 :: d2 :: t1 :: t2 :: tl, x.1 ≠ c1.1 ∧ x.1 ≠ c2.1
  rp : ∀ x ∈ d1 :: d2 :: t1 :: t2 :: tl, x.1 ≠ p.1 ∧ x.1 ≠ q.1

theorem law_led {h₀ h : Heap} {L : Addr} {p q dd d1 d2 c2 c1 t1 t2 X Y : Addr × Obj} {tl LED LED1 : List (Addr × Obj)} {v v' : Option Value} (N : News h₀ L h (X :: t2 :: Y :: LED1)) (hG : ∀ x ∈ [p, q, dd, d1, d2, c2, c1], x ∈ LED) (hS1 : ∀ x ∈ LED, x ∈ LED1) (hT : ∀ x ∈ tl, x ∈ LED) (ht1 : t1 ∈ LED1)
    (hgt : Gt [p, q, dd, d1, d2, c2, c1] tl) (h1 : ∀ x ∈ LED, (x.1 : Nat) < t1.1) (h2 : ∀ x ∈ LED1, (x.1 : Nat) < t2.1) (hoff : ∀ x ∈ [c2, c1], x.1 ≠ p.1 ∧ x.1 ≠ q.1) (hcc : c2.1 ≠ c1.1)
    (hp : p.2.cls = .type "list" ∧ q.2.cls = .type "list") (hd : d1.2.cls = .type "tuple" ∧ d2.2.cls = .type "tuple") (hds : (∀ u, d1.2.data ≠ .cell u) ∧ ∀ u, d2.2.data ≠ .cell u) (hv : c2.2.data = .cell v) (hv' : c1.2.data = .cell v') :
    News h₀ L h (c1 :: c2 :: p :: q :: d1 :: d2 :: t1 :: t2 :: tl) ∧ LawLed p q d1 d2 c2 c1 t1 t2 tl := by
  have hL : News h₀ L h LED := fun x hx => N x (by simp [hS1 x hx])
  have m : ∀ x ∈ [p, q, dd, d1, d2, c2, c1], x ∈ LED := hG
  have mp := m p (by simp)
  have mq := m q (by simp)
  have md1 := m d1 (by simp)
  have md2 := m d2 (by simp)
  have mc1 := m c1 (by simp)
  have mc2 := m c2 (by simp)
  have nlt : ("list" : String) ≠ "tuple" := by decide
  have ty : ∀ {a b : String}, a ≠ b → Value.type a ≠ Value.type b := fun h e => h (by injection e)
  refine ⟨fun x hx => ?_, hcc, ⟨hoff c1 (by simp), hoff c2 (by simp)⟩, ?_, ?_⟩
  · simp only [List.mem_cons] at hx
    rcases hx with rfl | rfl | rfl | rfl | rfl | rfl | rfl | rfl | hx
    · exact hL _ mc1
    · exact hL _ mc2
    · exact hL _ mp
    · exact hL _ mq
    · exact hL _ md1
    · exact hL _ md2
    · exact N _ (by simp [ht1])
    · exact N _ (by simp)
    · exact hL _ (hT _ hx)
  · intro x hx
    simp only [List.mem_cons] at hx
    rcases hx with rfl | rfl | rfl | rfl | hx
    · exact ⟨ne_of_news hL md1 mc1 (ne_data (by rw [hv']; exact hds.1 _)), ne_of_news hL md1 mc2 (ne_data (by rw [hv]; exact hds.1 _))⟩
    · exact ⟨ne_of_news hL md2 mc1 (ne_data (by rw [hv']; exact hds.2 _)), ne_of_news hL md2 mc2 (ne_data (by rw [hv]; exact hds.2 _))⟩
    · exact ⟨Nat.ne_of_gt (h1 _ mc1), Nat.ne_of_gt (h1 _ mc2)⟩
    · exact ⟨Nat.ne_of_gt (h2 _ (hS1 _ mc1)), Nat.ne_of_gt (h2 _ (hS1 _ mc2))⟩
    · exact ⟨Nat.ne_of_gt (hgt c1 (by simp) x hx), Nat.ne_of_gt (hgt c2 (by simp) x hx)⟩
  · intro x hx
    simp only [List.mem_cons] at hx
    rcases hx with rfl | rfl | rfl | rfl | hx
    · exact ⟨ne_of_news hL md1 mp (ne_cls (by rw [hd.1, hp.1]; exact ty nlt.symm)), ne_of_news hL md1 mq (ne_cls (by rw [hd.1, hp.2]; exact ty nlt.symm))⟩
    · exact ⟨ne_of_news hL md2 mp (ne_cls (by rw [hd.2, hp.1]; exact ty nlt.symm)), ne_of_news hL md2 mq (ne_cls (by rw [hd.2, hp.2]; exact ty nlt.symm))⟩
    · exact ⟨Nat.ne_of_gt (h1 _ mp), Nat.ne_of_gt (h1 _ mq)⟩
    · exact ⟨Nat.ne_of_gt (h2 _ (hS1 _ mp)), Nat.ne_of_gt (h2 _ (hS1 _ mq))⟩
    · exact ⟨Nat.ne_of_gt (hgt p (by simp) x hx), Nat.ne_of_gt (hgt q (by simp) x hx)⟩

theorem LawLed.c1rest {p q d1 d2 c2 c1 t1 t2 : Addr × Obj} {tl : List (Addr × Obj)} (h : LawLed p q d1 d2 c2 c1 t1 t2 tl) : ∀ x ∈ c2 :: p :: q :: d1 :: d2 :: t1 :: t2 :: tl, x.1 ≠ c1.1 := by
  intro x hx
  rcases List.mem_cons.mp hx with rfl | hx
  · exact h.cc
  rcases List.mem_cons.mp hx with rfl | hx
  · exact Ne.symm h.cp.1.1
  rcases List.mem_cons.mp hx with rfl | hx
  · exact Ne.symm h.cp.1.2
  · exact (h.rc x hx).1
theorem LawLed.c2rest {p q d1 d2 c2 c1 t1 t2 : Addr × Obj} {tl : List (Addr × Obj)} (h : LawLed p q d1 d2 c2 c1 t1 t2 tl) {o p' q' : Obj} : ∀ x ∈ (c1.1, o) :: (p.1, p') :: (q.1, q') :: d1 :: d2 :: t1 :: t2 :: tl, x.1 ≠ c2.1 := by
  intro x hx
  rcases List.mem_cons.mp hx with rfl | hx
  · exact Ne.symm h.cc
  rcases List.mem_cons.mp hx with rfl | hx
  · exact Ne.symm h.cp.2.1
  rcases List.mem_cons.mp hx with rfl | hx
  · exact Ne.symm h.cp.2.2
  · exact (h.rc x hx).2
theorem LawLed.prest {p q d1 d2 c2 c1 t1 t2 : Addr × Obj} {tl : List (Addr × Obj)} (h : LawLed p q d1 d2 c2 c1 t1 t2 tl) {o o' : Obj} : ∀ x ∈ (c1.1, o) :: (c2.1, o') :: d1 :: d2 :: t1 :: t2 :: tl, x.1 ≠ p.1 ∧ x.1 ≠ q.1 := by
  intro x hx
  rcases List.mem_cons.mp hx with rfl | hx
  · exact h.cp.1
  rcases List.mem_cons.mp hx with rfl | hx
  · exact h.cp.2
  · exact h.rp x hx

section
variable {prog : Program} {w : World} {A : Around} {E : Value → Shared → Prop} {s : Shared} {h₀ : Heap} {L : Addr} {news : List (Addr × Obj)}
/-- an item of a tuple at a place that is known to be there -/
theorem item_at {value slice : PySem.Expr} {Q : Value → Shared → Prop} {a : Addr} {l : List Value} {n : Nat} {k : Int} {u : Tok} {j : Nat} {x : Value} (N : News h₀ L s.heap news) (hm : (a, tupOb l n) ∈ news) (hx : l[j]? = some x) (hk : k = (j : Int)) (hl : l.length ≤ 1000) (h : Q x s)
    (hs : subscripted slice false (.ref a) (.int k u) = operate [.ref a, .int k u] (getItem (.ref a) (.int k u)) := by with_unfolding_all rfl) :
    wpAny (model prog w) A (subscriptTail value slice (.ref a) (.int k u)) Q E s := by
  have hj : j < l.length := (List.getElem?_eq_some_iff.mp hx).1
  refine item_tup N hm (by omega) (by omega) (j := j) ?_ hx h hs
  subst hk
  exact seqIndex_of (by omega) (by omega)
end
theorem range_from1 (n : Nat) (h : 1 ≤ n) : Builtin.Range.rangeSize 1 (n : Int) 1 = ((n - 1 : Nat) : Int) := by
  unfold Builtin.Range.rangeSize
  simp
  omega
end Mine
end

section
open PySem PySem.W PyProof.Rows PySem.Calls PySem.Spec
namespace Mine
/-- what the list of the parts may be -/
def PartOk (sc : Int) (ps : List Value) : Prop := ps = [] ∨ ∃ d ds, IntsAre ps (d :: ds) ∧ (d = 2 ∨ d = 3) ∧ Int.fmod sc d = 0
def PartEnd (h₀ : Heap) (L : Addr) (m : Str → Option Value) (base : List (Addr × Obj)) (sc : Int) (s : Shared) (f : Flow) (s' : Shared) : Prop :=
  f = .next ∧ ∃ (D : Addr) (ps : List Value) (k : Nat) (h' : Heap) (tk : Nat), s' = { s with heap := h', toks := tk } ∧ Fr h₀ L h' (fun z => if z = Str.ofString "part" then some (.ref D) else m z) ∧ News h₀ L h' ((D, W.listOf ps.toArray k) :: base) ∧ PartOk sc ps ∧ ps.length ≤ 2
theorem part_join {M : Model} {A : Around} {E : Value → Shared → Prop} {s : Shared} {h₀ : Heap} {L : Addr} {m : Str → Option Value} {base : List (Addr × Obj)} {e : Stmt} {env : Env} {Q : Flow → Shared → Prop} (sc : Int) (_F : Fr h₀ L s.heap m) (_N : News h₀ L s.heap base)
    (h1 : wpAny M A (exec e env) (PartEnd h₀ L m base sc s) E s)
    (h2 : ∀ D ps k h' tk, Fr h₀ L h' (fun z => if z = Str.ofString "part" then some (.ref D) else m z) → News h₀ L h' ((D, W.listOf ps.toArray k) :: base) → PartOk sc ps → ps.length ≤ 2 → Q .next { s with heap := h', toks := tk }) : wpAny M A (exec e env) Q E s := by
  refine wpAny_mono h1 (fun f s' h => ?_) fun _ _ x => x
  obtain ⟨rfl, D, ps, k, h', tk, rfl, F, N, ho, hl⟩ := h
  exact h2 D ps k h' tk F N ho hl

/-- a row cut in two and merged is the row -/
theorem cut_merge {l r : List (Int × Int)} {s t d k : Int} {p : Int × Int} {q : List (Int × Int)} (h : Apart (l ++ (s, t) :: r)) (h2 : ∀ x ∈ l ++ (s, t) :: r, 2 ≤ x.1) (hs : s = k * d) (hd : d ≠ 1) (e : l ++ (k, t * d) :: (d, t) :: r = p :: q) : (mergeD p.1 p.2 (q.map (·.1)) (q.map (·.2))).map pr2 = l ++ (s, t) :: r := by
  have hne : ∃ x ∈ p :: q, x.1 ≠ 1 := ⟨(d, t), by rw [← e]; simp, hd⟩
  rw [remerge hne, ← e]
  exact fews_cut h (fun x hx => by have := h2 x hx; omega) hs hd
theorem split_at {α : Type} : ∀ {l : List α} {j : Nat} {a : α}, l[j]? = some a → l = l.take j ++ a :: l.drop (j + 1)
  | [], j, a, h => by simp at h
  | b :: l, 0, a, h => by simp at h; subst h; rfl
  | b :: l, j + 1, a, h => by
    have := split_at (l := l) (j := j) (a := a) (by simpa using h)
    rw [List.take_succ_cons, List.drop_succ_cons, List.cons_append, ← this]

theorem bools_snoc {vs : List Value} {bs : List Bool} (h : LSm.BoolsAre vs bs) (b : Bool) : LSm.BoolsAre (vs ++ [.bool b]) (bs ++ [b]) := by
  induction h with
  | nil => exact .cons b .nil
  | cons c _ ih => exact .cons c ih
theorem head_ints {h₀ h : Heap} {L P : Addr} {lx : List Value} {rest : List (Addr × Obj)} {ns ns' : List Int} {n : Int} (N : News h₀ L h ((P, tupOb lx 0) :: rest)) (hI : IntsAre lx ns) (e : ns = n :: ns') : ∃ t lx', News h₀ L h ((P, tupOb (.int n t :: lx') 0) :: rest) ∧ IntsAre lx' ns' := by
  subst e
  obtain ⟨t, lx', rfl, hi⟩ := ints_cons hI
  exact ⟨t, lx', N, hi⟩
theorem cut_div {s d : Int} (hd : d = 2 ∨ d = 3) (h : Int.fmod s d = 0) : s = Int.fdiv s d * d := by
  rcases hd with rfl | rfl
  · rw [Int.fmod_eq_emod_of_nonneg _ (by decide)] at h
    rw [Int.fdiv_eq_ediv_of_nonneg _ (by decide)]
    omega
  · rw [Int.fmod_eq_emod_of_nonneg _ (by decide)] at h
    rw [Int.fdiv_eq_ediv_of_nonneg _ (by decide)]
    omega
theorem cut_row {M : List (Int × Int × Int)} {j : Nat} {tc : Int × Int × Int} {d : Int} (hap : Apart (M.map pr2)) (h2 : ∀ t ∈ M, 2 ≤ t.1) (hle : ∀ t ∈ M, t.1 ≤ 100) (hMc : M[j]? = some tc) (hd : d = 2 ∨ d = 3) (hm : Int.fmod tc.1 d = 0) :
    ∃ (p : Int × Int) (q : List (Int × Int)), (M.map (·.1)).take j ++ [Int.fdiv tc.1 d, d] ++ (M.map (·.1)).drop (j + 1) = (p :: q).map (·.1) ∧ (M.map (·.2.1)).take j ++ [tc.2.1 * d, tc.2.1] ++ (M.map (·.2.1)).drop (j + 1) = (p :: q).map (·.2) ∧
      (mergeD p.1 p.2 (q.map (·.1)) (q.map (·.2))).map pr2 = M.map pr2 ∧ (∀ x ∈ (p :: q).map (·.1), -1000000 < x ∧ x < 1000000) ∧ q.length ≤ M.length := by
  have hs := cut_div hd hm
  have hL : M.map pr2 = (M.map pr2).take j ++ (tc.1, tc.2.1) :: (M.map pr2).drop (j + 1) := split_at (by rw [List.getElem?_map, hMc]; rfl)
  have hj : j < M.length := (List.getElem?_eq_some_iff.mp hMc).1
  have hA := hap
  rw [hL] at hA
  have hT : ∀ x ∈ (M.map pr2).take j ++ (tc.1, tc.2.1) :: (M.map pr2).drop (j + 1), 2 ≤ x.1 := by
    rw [← hL]
    intro x hx
    obtain ⟨t, ht, rfl⟩ := List.mem_map.mp hx
    exact h2 t ht
  have e1 : ((M.map pr2).take j ++ (Int.fdiv tc.1 d, tc.2.1 * d) :: (d, tc.2.1) :: (M.map pr2).drop (j + 1)).map (·.1) = (M.map (·.1)).take j ++ [Int.fdiv tc.1 d, d] ++ (M.map (·.1)).drop (j + 1) := by
    simp [List.map_take, List.map_drop]
    rfl
  have e2 : ((M.map pr2).take j ++ (Int.fdiv tc.1 d, tc.2.1 * d) :: (d, tc.2.1) :: (M.map pr2).drop (j + 1)).map (·.2) = (M.map (·.2.1)).take j ++ [tc.2.1 * d, tc.2.1] ++ (M.map (·.2.1)).drop (j + 1) := by
    simp [List.map_take, List.map_drop]
    rfl
  have hlen : ((M.map pr2).take j ++ (Int.fdiv tc.1 d, tc.2.1 * d) :: (d, tc.2.1) :: (M.map pr2).drop (j + 1)).length = M.length + 1 := by
    simp
    omega
  have hbd : ∀ x ∈ ((M.map pr2).take j ++ (Int.fdiv tc.1 d, tc.2.1 * d) :: (d, tc.2.1) :: (M.map pr2).drop (j + 1)).map (·.1), -1000000 < x ∧ x < 1000000 := by
    rw [e1]
    have hall : ∀ x ∈ M.map (·.1), -1000000 < x ∧ x < 1000000 := by
      intro x hx
      obtain ⟨t, ht, rfl⟩ := List.mem_map.mp hx
      have := h2 t ht
      have := hle t ht
      omega
    intro x hx
    rcases List.mem_append.mp hx with hx | hx
    · rcases List.mem_append.mp hx with hx | hx
      · exact hall x (List.mem_of_mem_take hx)
      · have b1 := h2 tc (List.mem_of_getElem? hMc)
        have b2 := hle tc (List.mem_of_getElem? hMc)
        simp only [List.mem_cons, List.not_mem_nil, or_false] at hx
        rcases hx with rfl | rfl
        · rcases hd with rfl | rfl <;> omega
        · rcases hd with rfl | rfl <;> omega
    · exact hall x (List.mem_of_mem_drop hx)
  generalize hLe : (M.map pr2).take j ++ (Int.fdiv tc.1 d, tc.2.1 * d) :: (d, tc.2.1) :: (M.map pr2).drop (j + 1) = L' at e1 e2 hlen hbd
  cases L' with
  | nil => simp at hlen
  | cons p q =>
    refine ⟨p, q, e1.symm, e2.symm, ?_, hbd, by simp at hlen; omega⟩
    rw [cut_merge hA hT hs (by rcases hd with rfl | rfl <;> decide) hLe, ← hL]
theorem IntsAre.two {vs ws : List Value} {ns ms : List Int} {a b : Int} {ta tb : Tok} (h : IntsAre vs ns) (h' : IntsAre ws ms) : IntsAre (vs ++ [.int a ta, .int b tb] ++ ws) (ns ++ [a, b] ++ ms) := (h.append (.cons a ta (.cons b tb .nil))).append h'
section
variable {prog : Program} {w : World} {A : Around} {E : Value → Shared → Prop} {s : Shared} {h₀ : Heap} {L : Addr} {news : List (Addr × Obj)}
theorem truthy_cons {Q : Bool → Shared → Prop} {D : Addr} {v : Value} {us : List Value} {n : Nat} (N : News h₀ L s.heap news) (hm : (D, W.listOf (v :: us).toArray n) ∈ news) (hz : us.length ≤ 1000) (h : ∀ tk, Q true { s with toks := tk }) : wpAny (model prog w) A (truthy (.ref D)) Q E s :=
  kgr_truthy (vs := v :: us) N hm rfl rfl (by rw [List.length_cons]; omega) (h _)
end
end Mine
end

section
open PySem PySem.W PyProof.Rows
namespace Mine
section
local macro_rules | `(tactic| walk_at "binaryOp FloorDiv int int") => `(tactic| (with_reducible refine floordiv_int (by omega) ?_ (Or.inl (PyProof.noPylong_small (by omega)))))
local macro_rules | `(tactic| walk_at "call builtin:len") => `(tactic| (k_here; (with_reducible show wpAny _ _ (call (Value.builtin "len") [Value.ref _]) _ _ _); k_dflt (refine' len_tup ?N ?m ?k ?z ?_; (case N => k_asm); (case m => kcf_m); (case k => with_reducible assumption); (case z => omega)); intro tk' tk''))
local macro_rules | `(tactic| walk_at "subscriptTail") => `(tactic| (k_here; (with_reducible show wpAny _ _ (subscriptTail _ _ (Value.ref _) (Value.int _ _)) _ _ _); k_dflt (refine' item_tup ?N ?m ?lo ?hi ?j ?x ?_ ?s; (case N => k_asm); (case m => kcf_m); (case lo => decide); (case hi => decide); (case j => rfl); (case x => rfl); (case s => with_unfolding_all rfl))))
local macro_rules | `(tactic| walk_at "call type:tuple") => `(tactic| (k_here; (with_reducible show wpAny _ _ (call (Value.type _) [Value.ref _]) _ _ _); k_dflt (refine' tupleOf_lst ?F ?N ?m ?z ?_; (case F => k_asm); (case N => k_asm); (case m => kcf_m); (case z => omega)); intro D' h' F' N' l1))
local macro_rules | `(tactic| walk_at "assign Tuple") => `(tactic| (k_here; (with_reducible show wpAny _ _ (assign (Expr.Tuple _ _ _) _ (Value.ref _)) _ _ _); k_dflt (refine' unpackN_ ?F ?N ?T ?k1 ?k2 ?k3 ?_; (case F => k_asm); (case N => k_asm); (case T => refine isTup_of (by k_asm) (by kcf_m)); (case k1 => exact rfl); (case k2 => exact rfl); (case k3 => exact rfl)); intro h' F' N'; (try k_sweep)))
set_option maxRecDepth 100000 in
set_option maxHeartbeats 8000000 in
theorem t1 : PySem.Challenge.rw_au0024_01.Holds := Mine.hd (by
  w_strict k_go0
  repeat' ((fail_if_success (with_reducible show wpAny _ _ (call (Value.ref 56) _) _ _ _)); first | (k_unfold; (try dsimp only)) | walk1 | (dsimp only; walk1))
  rename_i sb _ tks hsb sa _ _ _ hsa _ kX _ F1 N1
  rename IntsAre _ _ => hI8
  have hS := st_start N1 hI8 (by rw [List.length_map, List.length_take]; omega) (by omega) (by omega) (Nat.ne_of_gt hsa.1)
  have N2 := news_drop3 N1
  clear N1
  have hoff0 := cells_off N2 ⟨Nat.ne_of_lt hsa.2.2.1, hsb.2.1⟩ ⟨Nat.ne_of_lt hsa.2.2.2, hsb.2.2⟩
  refine given_spec sa sb _ _ _ hS ⟨by assumption, F1, kX, N2, by assumption, rfl⟩ hoff0 (by decide) (by decide) ?_
  intro D D1 D2 vs ws ns ms o1 o2 h2 tk2 hS2 F2 N2' hI1 hI2 hn1 hn4 hnb hple hml hmb
  clear F1 N2
  obtain ⟨n0, tv, ns, vs, rfl, rfl, hJ1⟩ := ints_uncons hI1 hn1
  obtain ⟨m0, tw, ms, ws, rfl, rfl, hJ2⟩ := ints_uncons hI2 (by omega)
  have hml' : ms.length = ns.length := by simpa using hml
  have hn4' : ns.length ≤ 3 := by simpa using hn4
  have hMF := mfacts hml' (fun n hn => (hnb n hn).1) hple hmb
  repeat' ((fail_if_success (with_reducible show wpAny _ _ (call (Value.ref 22) _) _ _ _)); first | (k_unfold; (try dsimp only)) | walk1 | (dsimp only; walk1))
  rename Fr _ _ _ _ => F3
  rename News _ _ _ _ => N3
  refine merge_spec D1 D2 n0 m0 tv tw vs ws ns ms _ ⟨by assumption, F3, kX, N3, by assumption, rfl⟩ (by simp) (by simp) hJ1 hJ2 hml' (by omega) (by have := hnb n0 (by simp); omega) (fun n hn => by have := hnb n (by simp [hn]); omega) (by decide) (by decide) ?_
  intro Am usm tl1 h4 tk4 F4 N4 hgt1 hAm hrows
  clear F3 N3
  generalize hMe : mergeD n0 m0 ns ms = M at hMF hrows
  have hul := hrows.length
  rw [List.length_map] at hul
  have hMl := hMF.len
  obtain ⟨LED, N4, hG, hT⟩ := news_abs N4
  have hD1L := hG (D1, _) (List.mem_cons_of_mem _ (List.mem_cons_of_mem _ (List.mem_cons_of_mem _ List.mem_cons_self)))
  have hD2L := hG (D2, _) (List.mem_cons_of_mem _ (List.mem_cons_of_mem _ (List.mem_cons_of_mem _ (List.mem_cons_of_mem _ List.mem_cons_self))))
  have hAmL := hT _ hAm
  have hM4 : M.length ≤ 4 := by omega
  have hM1 : 1 ≤ M.length := by have := hMF.ne; cases M with | nil => exact absurd rfl this | cons a l => simp
  have hrowsL := hrows.mono hT
  repeat' ((fail_if_success (with_reducible show wpAny _ _ (eval (Expr.ListComp _ _ _ _) _) _ _ _)); first | (k_unfold; (try dsimp only)) | walk1 | (dsimp only; walk1))
  rename Fr _ _ _ _ => F5
  rename News _ _ _ _ => N5
  k_dflt (refine ListComp_T F5 (by with_unfolding_all rfl) (by decide) (by rfl) (by decide) (by rfl) ?_)
  repeat' (first | (k_unfold; (try dsimp only)) | walk1 | (dsimp only; walk1))
  refine compTup_led rfl F5 N5 (us := usm) (n := 0) hAmL (by omega) fun g => ?_
  with_reducible refine comp_inv (fun i ys led => LED = led ∧ IntsAre ys ((M.take i).map (·.1))) ?_ ?_ ?_
  · exact ⟨rfl, .nil⟩
  · rintro i v ys led I oI Cc oC Dc m₂ h9 tk9 E' hi hv ⟨rfl, hys⟩ hC hx F6 N6 off6 ne6
    clear F5 N5
    obtain ⟨ar, nr, t, x, y, z, rfl, hmr, hMt⟩ := tri_at hrowsL (by simpa using hv)
    repeat' (first | (k_unfold; (try dsimp only)) | walk1 | (dsimp only; walk1))
    refine compEnd_grow (new := []) F6 N6 off6 Gt.nil (by intro q hq; exact hq) hAmL ⟨rfl, ?_⟩
    rw [List.take_add_one, hMt]
    simp only [Option.toList_some, List.map_append, List.map_cons, List.map_nil]
    exact IntsAre.append hys (.cons _ _ .nil)
  rintro xs led ⟨hled, hxs⟩
  subst hled
  clear F5 N5
  rw [List.size_toArray, hul, List.take_length] at hxs
  unfold LCg.FinE
  intro Dxs h9 tk9 F6 N6 o6
  have hxsl := hxs.length
  rw [List.length_map] at hxsl
  repeat' ((fail_if_success (with_reducible show wpAny _ _ (eval (Expr.ListComp _ _ _ _) _) _ _ _)); first | (k_unfold; (try dsimp only)) | walk1 | (dsimp only; walk1))
  rename_i T1 _ F7 N7 hT1
  have hT1L := fun q hq => ktn_ltOf hT1 q (List.mem_cons_of_mem _ hq)
  obtain ⟨LED1, N7, hG1, hS1⟩ := news_abs (G := [(T1, tupOb xs 0)]) (tl := LED) (news_sub N7 (by intro q hq; simp at hq ⊢; grind))
  have hAm1 := hS1 _ hAmL
  have hrows1 := hrowsL.mono hS1
  have hT1m := hG1 _ List.mem_cons_self
  rename Fr _ _ _ _ => F5
  rename News _ _ _ _ => N5
  k_dflt (refine ListComp_T F5 (by with_unfolding_all rfl) (by decide) (by rfl) (by decide) (by rfl) ?_)
  repeat' (first | (k_unfold; (try dsimp only)) | walk1 | (dsimp only; walk1))
  refine compTup_led rfl F5 N5 (us := usm) (n := 0) hAm1 (by omega) fun g => ?_
  with_reducible refine comp_inv (fun i ys led => LED1 = led ∧ IntsAre ys ((M.take i).map (·.2.1))) ?_ ?_ ?_
  · exact ⟨rfl, .nil⟩
  · rintro i v ys led I oI Cc oC Dc m₂ h9 tk9 E' hi hv ⟨rfl, hys⟩ hC hx F6 N6 off6 ne6
    clear F5 N5
    obtain ⟨ar, nr, t, x, y, z, rfl, hmr, hMt⟩ := tri_at hrows1 (by simpa using hv)
    repeat' (first | (k_unfold; (try dsimp only)) | walk1 | (dsimp only; walk1))
    refine compEnd_grow (new := []) F6 N6 off6 Gt.nil (by intro q hq; exact hq) hAm1 ⟨rfl, ?_⟩
    rw [List.take_add_one, hMt]
    simp only [Option.toList_some, List.map_append, List.map_cons, List.map_nil]
    exact IntsAre.append hys (.cons _ _ .nil)
  rintro zs led ⟨hled, hzs⟩
  subst hled
  clear F5 N5
  rw [List.size_toArray, hul, List.take_length] at hzs
  unfold LCg.FinE
  intro Dzs h9 tk9 F6 N6 o6
  have hzsl := hzs.length
  rw [List.length_map] at hzsl
  repeat' ((fail_if_success (with_reducible show wpAny _ _ (call (Value.ref _) _) _ _ _)); first | (k_unfold; (try dsimp only)) | walk1 | (dsimp only; walk1))
  rename_i T2 _ hT2 Dp _ _ _ F8 N8
  obtain ⟨N9, hLW⟩ := law_led N8 hG hS1 hT hT1m hgt1 hT1L (fun q hq => ktn_ltOf hT2 q (List.mem_cons_of_mem _ hq)) hoff0 (Nat.succ_ne_self _) (stin_list hS2) ⟨rfl, rfl⟩ ⟨(fun u e => by cases e), (fun u e => by cases e)⟩ (by assumption) (by assumption)
  clear N8
  refine store_cell F8 N9 rfl hLW.c1rest (by assumption) ?_
  intro h11 oS F10 N10 hoS
  clear F8 N9
  repeat' ((fail_if_success (with_reducible show wpAny _ _ (call (Value.ref _) _) _ _ _)); first | (k_unfold; (try dsimp only)) | walk1 | (dsimp only; walk1))
  have hMb : ∀ n ∈ M.map (·.1), 1 ≤ n ∧ n ≤ 100 := by
    intro n hn
    obtain ⟨t, ht, rfl⟩ := List.mem_map.mp hn
    exact ⟨(hMF.each t ht).2.1, hMF.le t ht⟩
  have hMs : ∀ n ∈ M.map (·.2.1), -10000 < n ∧ n < 10000 := by
    intro n hn
    obtain ⟨t, ht, rfl⟩ := List.mem_map.mp hn
    exact (hMF.each t ht).2.2
  rename Fr _ _ _ _ => F12
  rename News _ _ _ _ => N12
  refine size_spec T1 (tupOb xs 0) xs (M.map (·.1)) _ ⟨by assumption, F12, kX, N12, by assumption, rfl⟩ (by simp) SeqOb.tup hxs (fun n hn => by have := hMb n hn; omega) (by decide) (by decide) ?_
  intro tr13 h13 tk13 F13 N13
  clear F12 N12
  rw [hMF.prod]
  repeat' ((fail_if_success (with_reducible show wpAny _ _ (call (Value.ref _) _) _ _ _)); first | (k_unfold; (try dsimp only)) | walk1 | (dsimp only; walk1))
  refine size_spec D1 (tupOb (Value.int n0 tv :: vs) 0) _ (n0 :: ns) _ ⟨by assumption, F13, kX, N13, by assumption, rfl⟩ (by simp) SeqOb.tup hI1 (fun n hn => by have := hnb n hn; omega) (by decide) (by decide) ?_
  intro tr14 h14 tk14 F14 N14
  clear F13 N13
  repeat' ((fail_if_success (with_reducible show wpAny _ _ (call (Value.ref _) _) _ _ _)); first | (k_unfold; (try dsimp only)) | walk1 | (dsimp only; walk1))
  · exfalso
    rename _ ≠ _ => hq
    exact hq rfl
  rename _ = _ => hq
  clear hq
  refine walk_spec T1 T2 0 0 xs zs (M.map (·.1)) (M.map (·.2.1)) _ ⟨by assumption, F14, kX, N14, by assumption, rfl⟩ (by simp) (by simp) hxs hzs (by rw [List.length_map, List.length_map]) (by rw [List.length_map]; omega) (fun n hn => by have := hMb n hn; omega) (fun n hn => by have := hMs n hn; omega)
    (placesD_len_le (fun n hn => (hMb n hn).1) (by rw [hMF.prod]; exact hple)) (by decide) (by decide) ?_
  intro W1 us15 k15 h15 tk15 F15 N15 hW1 hI15
  clear F14 N14
  repeat' ((fail_if_success (with_reducible show wpAny _ _ (call (Value.ref _) _) _ _ _)); first | (k_unfold; (try dsimp only)) | walk1 | (dsimp only; walk1))
  refine walk_spec D1 D2 0 0 _ _ (n0 :: ns) (m0 :: ms) _ ⟨by assumption, F15, kX, N15, by assumption, rfl⟩ (by simp) (by simp) hI1 hI2 hml (by omega) (fun n hn => by have := hnb n hn; omega) (fun n hn => by have := hmb n hn; omega)
    (placesD_len_le (fun n hn => (hnb n hn).1) hple) (by decide) (by decide) ?_
  intro W2 us16 k16 h16 tk16 F16 N16 hW2 hI16
  clear F15 N15
  repeat' ((fail_if_success (with_reducible show wpAny _ _ (compareOp _ (Value.ref _) (Value.ref _)) _ _ _)); first | (k_unfold; (try dsimp only)) | walk1 | (dsimp only; walk1))
  refine ne_ints N16 (List.mem_cons_of_mem _ List.mem_cons_self) List.mem_cons_self hI15 hI16 hMF.walk (by ktr_units) ?_
  have N17 := news_tail (news_tail N16)
  clear N16
  repeat' ((fail_if_success (with_reducible show wpAny _ _ (exec (Stmt.For _ _ _ _ _) _) _ _ _)); first | (k_unfold; (try dsimp only)) | walk1 | (dsimp only; walk1))
  rename Fr _ _ _ _ => F17
  with_unfolding_all refine' For_invVF F17 ?k1 ?k2 ?_
  case k1 => exact rfl
  case k2 => exact rfl
  have hBx : Box (M.length ≤ 4) := hM4
  repeat' ((fail_if_success (with_reducible show wpAny _ _ (call (Value.type _) _) _ _ _)); first | (k_unfold; (try dsimp only)) | walk1 | (dsimp only; walk1))
  clear hM4 hMl
  repeat' ((fail_if_success (with_reducible show wpAny _ _ (pyIter _) _ _ _)); first | (k_unfold; (try dsimp only)) | walk1 | (dsimp only; walk1))
  have hM4 : M.length ≤ 4 := hBx
  rename IsRange _ _ _ _ _ _ _ _ => hR18
  rename Fr _ _ _ _ => F18
  rename News _ _ _ _ => N18
  with_unfolding_all refine iter_rangeLawO [] (n := M.length - 1) (by rfl) hR18 (small_one (by omega) (by omega) (by omega) (by omega)) (range_from1 _ hM1) F18 N18 (fun k18 tk18 u18 h18 g18 ob18 hlt18 hlo18 hhi18 F19 N19 => ?_) (fun u18 h18 g18 F19 N19 => ?_)
  · clear F18 N18
    obtain ⟨i18, rfl⟩ : ∃ i : Nat, k18 = (i : Int) + 1 := ⟨(k18 - 1).toNat, by omega⟩
    have hi18 : i18 + 1 < M.length := by omega
    have hMa : M[i18]? = some M[i18] := List.getElem?_eq_getElem (by omega)
    have hMb' : M[i18 + 1]? = some M[i18 + 1] := List.getElem?_eq_getElem hi18
    generalize M[i18] = ra at hMa
    generalize M[i18 + 1] = rb at hMb'
    have hnx := hMF.next i18 ra rb hMa hMb'
    obtain ⟨ta1, ex1⟩ := hxs.get i18 ra.1 (by rw [List.getElem?_map, hMa]; rfl)
    obtain ⟨ta2, ex2⟩ := hxs.get (i18 + 1) rb.1 (by rw [List.getElem?_map, hMb']; rfl)
    obtain ⟨ta3, ez1⟩ := hzs.get i18 ra.2.1 (by rw [List.getElem?_map, hMa]; rfl)
    obtain ⟨ta4, ez2⟩ := hzs.get (i18 + 1) rb.2.1 (by rw [List.getElem?_map, hMb']; rfl)
    have hb1 := hMF.le rb (List.mem_of_getElem? hMb')
    have hb2 := (hMF.each rb (List.mem_of_getElem? hMb')).2
    repeat' ((fail_if_success (with_reducible show wpAny _ _ (subscriptTail _ _ _ _) _ _ _)); first | (k_unfold; (try dsimp only)) | walk1 | (dsimp only; walk1))
    refine item_at (n := 0) (j := i18) N19 (by simp) ez1 (by omega) (by omega) ?_
    repeat' ((fail_if_success (with_reducible show wpAny _ _ (subscriptTail _ _ _ _) _ _ _)); first | (k_unfold; (try dsimp only)) | walk1 | (dsimp only; walk1))
    refine item_at (n := 0) (j := i18 + 1) N19 (by simp) ex2 (by omega) (by omega) ?_
    repeat' ((fail_if_success (with_reducible show wpAny _ _ (subscriptTail _ _ _ _) _ _ _)); first | (k_unfold; (try dsimp only)) | walk1 | (dsimp only; walk1))
    refine item_at (n := 0) (j := i18 + 1) N19 (by simp) ez2 (by omega) (by omega) ?_
    repeat' ((fail_if_success (with_reducible show wpAny _ _ (subscriptTail _ _ _ _) _ _ _)); first | (k_unfold; (try dsimp only)) | walk1 | (dsimp only; walk1))
    · exact absurd ‹ra.2.1 = rb.1 * rb.2.1› hnx.1
    refine item_at (n := 0) (j := i18 + 1) N19 (by simp) ex2 (by omega) (by omega) ?_
    repeat' ((fail_if_success (with_reducible show wpAny _ _ (subscriptTail _ _ _ _) _ _ _)); first | (k_unfold; (try dsimp only)) | walk1 | (dsimp only; walk1))
    · exact absurd ‹rb.1 = 1› hnx.2.1
    refine item_at (n := 0) (j := i18) N19 (by simp) ex1 (by omega) (by omega) ?_
    repeat' (first | (k_unfold; (try dsimp only)) | walk1 | (dsimp only; walk1))
    exact absurd ‹ra.1 = 1› hnx.2.2
  · clear F18 N18
    repeat' ((fail_if_success (with_reducible show wpAny _ _ (call (Value.ref _) _) _ _ _)); first | (k_unfold; (try dsimp only)) | walk1 | (dsimp only; walk1))
    rename Fr _ _ _ _ => F20
    rename News _ _ _ _ => N20
    refine size_spec D1 (tupOb (Value.int n0 tv :: vs) 0) _ (n0 :: ns) _ ⟨by assumption, F20, kX, N20, by assumption, rfl⟩ (by simp) SeqOb.tup hI1 (fun n hn => by have := hnb n hn; omega) (by decide) (by decide) ?_
    intro tr21 h21 tk21 F21 N21
    clear F20 N20
    repeat' ((fail_if_success (with_reducible show wpAny _ _ (eval (Expr.ListComp _ _ _ _) _) _ _ _)); first | (k_unfold; (try dsimp only)) | walk1 | (dsimp only; walk1))
    · have e22 : ((M.length : Int) == 1) = true := by rw [hMF.single ‹prodI (n0 :: ns) = 1›]; rfl
      rw [e22]
      k_steps
    have hpn : prodI (n0 :: ns) ≠ 1 := by assumption
    have hfew := hMF.few hpn
    have hap := hMF.ap
    have htwo := hMF.two hpn
    rename News _ _ _ _ => N22
    obtain ⟨LB, NB, hB, hBt⟩ := news_abs (G := [(_, oS), _, (sa, o1), (sb, o2), (D1, tupOb (Value.int n0 tv :: vs) 0), (D2, tupOb (Value.int m0 tw :: ws) 0), (T1, tupOb xs 0), (T2, tupOb zs 0)]) (tl := tl1) N22
    clear N22
    have hD1B := hB (D1, tupOb (Value.int n0 tv :: vs) 0) (by simp)
    have hD2B := hB (D2, tupOb (Value.int m0 tw :: ws) 0) (by simp)
    have hAmB := hBt _ hAm
    have hrowsB := hrows.mono hBt
    rename Fr _ _ _ _ => F5
    rename News _ _ _ _ => N5
    k_dflt (refine ListComp_T F5 (by with_unfolding_all rfl) (by decide) (by rfl) (by decide) (by rfl) ?_)
    repeat' (first | (k_unfold; (try dsimp only)) | walk1 | (dsimp only; walk1))
    refine compTup_led rfl F5 N5 (us := usm) (n := 0) hAmB (by omega) fun g => ?_
    with_reducible refine comp_inv (fun i ys led => ∃ tl3, tl3 ++ LB = led ∧ TupsIn tl3 ys ((M.take i).map fun t => prL (pr2 t))) ?_ ?_ ?_
    · exact ⟨[], rfl, .nil⟩
    · rintro i v ys led I oI Cc oC Dc m₂ h9 tk9 E' hi hv ⟨tl3, rfl, hys⟩ hC hx F6 N6 off6 ne6
      clear F5 N5
      obtain ⟨ar, nr, t, x, y, z, rfl, hmr, hMt⟩ := tri_at hrowsB (by simpa using hv)
      repeat' ((fail_if_success (with_reducible show wpAny _ _ (subscriptTail _ _ _ _) _ _ _)); first | (k_unfold; (try dsimp only)) | walk1 | (dsimp only; walk1))
      refine upto_tup (j := 2) F6 N6 (List.mem_cons_of_mem _ (List.mem_cons_of_mem _ (List.mem_cons_of_mem _ (List.mem_append_right _ hmr)))) rfl (by simp) (by simp) ?_
      intro D9 h10 F7 N7 hD9
      refine compEnd_grow (new := [(D9, tupOb [.int t.1 x, .int t.2.1 y] 0)]) F7 N7 off6 (Gt.cons (allLt_sub hD9 (by intro q hq; simp only [List.mem_cons] at hq ⊢; grind)) Gt.nil) (by intro q hq; simp only [List.mem_cons, List.mem_append] at hq ⊢; grind) (List.mem_append_right _ (List.mem_append_right _ hAmB)) ⟨(D9, tupOb [.int t.1 x, .int t.2.1 y] 0) :: tl3, rfl, ?_⟩
      rw [List.take_add_one, hMt]
      simp only [Option.toList_some, List.map_append, List.map_cons, List.map_nil]
      exact (hys.mono (fun q hq => List.mem_cons_of_mem _ hq)).append (.cons List.mem_cons_self (.cons _ _ (.cons _ _ .nil)) .nil)
    rintro ya led ⟨tla, hled, hya⟩
    subst hled
    clear F5 N5
    rw [List.size_toArray, hul, List.take_length] at hya
    unfold LCg.FinE
    intro Da h9 tk9 F6 N6 o6
    dsimp only
    repeat' ((fail_if_success (with_reducible show wpAny _ _ (call (Value.ref _) _) _ _ _)); first | (k_unfold; (try dsimp only)) | walk1 | (dsimp only; walk1))
    rename Fr _ _ _ _ => F23
    rename News _ _ _ _ => N23
    refine fewest_spec D1 D2 0 0 _ _ (n0 :: ns) (m0 :: ms) _ ⟨by assumption, F23, kX, N23, by assumption, rfl⟩ (List.mem_cons_of_mem _ (List.mem_append_right _ hD1B)) (List.mem_cons_of_mem _ (List.mem_append_right _ hD2B)) hI1 hI2 hml (by omega) (fun n hn => by have := hnb n hn; omega) (by decide) (by decide) ?_
    intro af usf kf tlf h24 tk24 F24 N24 hgtf haf husf
    clear F23 N23
    repeat' ((fail_if_success (with_reducible show wpAny _ _ (compareOp _ (Value.ref _) (Value.ref _)) _ _ _)); first | (k_unfold; (try dsimp only)) | walk1 | (dsimp only; walk1))
    refine ne_rows N24 (List.mem_append_left _ List.mem_cons_self) (List.mem_append_right _ haf) hya (fun q hq => List.mem_append_left _ (List.mem_cons_of_mem _ (List.mem_append_left _ hq))) husf (fun q hq => List.mem_append_right _ hq) ?_ (by ktr_units) ?_
    · rw [← hfew, List.map_map]
      rfl
    have NB2 := news_sub N24 (l' := LB) (fun q hq => List.mem_append_left _ (List.mem_cons_of_mem _ (List.mem_append_right _ hq)))
    clear N24
    have N25 := law_base NB2 hB hBt
    clear NB2
    repeat' ((fail_if_success (with_reducible show wpAny _ _ (call (Value.ref _) _) _ _ _)); (fail_if_success (with_reducible show wpAny _ _ (eval (Expr.ListComp _ _ _ _) _) _ _ _)); first | (k_unfold; (try dsimp only)) | walk1 | (dsimp only; walk1))
    clear hya hB hBt hD1B hD2B hAmB hrowsB
    obtain ⟨t0, M', rfl⟩ : ∃ t0 M', M = t0 :: M' := by
      cases M with
      | nil => exact absurd rfl hMF.ne
      | cons a l => exact ⟨a, l, rfl⟩
    obtain ⟨tx0, xs, rfl, hxs'⟩ := ints_cons hxs
    obtain ⟨tz0, zs, rfl, hzs'⟩ := ints_cons hzs
    rename Fr _ _ _ _ => F26
    k_dflt (refine ListComp_T F26 (by with_unfolding_all rfl) (by decide) (by rfl) (by decide) (by rfl) ?_)
    repeat' ((fail_if_success (with_reducible show wpAny _ _ (call (Value.ref _) _) _ _ _)); first | (k_unfold; (try dsimp only)) | walk1 | (dsimp only; walk1))
    rename News _ _ _ _ => N26
    refine merge_spec T1 T2 t0.1 t0.2.1 tx0 tz0 xs zs (M'.map (·.1)) (M'.map (·.2.1)) _ ⟨by assumption, F26, kX, N26, by assumption, rfl⟩ (by simp) (by simp) hxs' hzs' (by rw [List.length_map, List.length_map]) (by rw [List.length_map]; simp only [List.length_cons] at hM4; omega) (by have := hMb t0.1 (by simp); omega) (fun n hn => by have := hMb n (List.mem_cons_of_mem _ hn); omega) (by decide) (by decide) ?_
    intro A2 us2 tl2 h27 tk27 F27 N27 hgt2 hA2 hrows2
    clear N26
    have hM2e := remerge_same (p := pr2 t0) (l := M'.map pr2) hap (fun q hq => by
      have hq' : q ∈ (t0 :: M').map pr2 := hq
      obtain ⟨u, hu, rfl⟩ := List.mem_map.mp hq'
      exact htwo u hu)
    rw [List.map_map, List.map_map] at hM2e
    have hM2e' : (mergeD t0.1 t0.2.1 (M'.map (·.1)) (M'.map (·.2.1))).map pr2 = (t0 :: M').map pr2 := hM2e
    clear hM2e
    revert hM2e' hrows2
    generalize mergeD t0.1 t0.2.1 (M'.map (·.1)) (M'.map (·.2.1)) = M2
    intro hrows2 hM2e
    have hul2 := hrows2.length
    rw [List.length_map] at hul2
    have hMl2 := congrArg List.length hM2e
    rw [List.length_map, List.length_map] at hMl2
    obtain ⟨LC, NC, hC, hCt2⟩ := news_abs N27
    clear N27
    have hCt : ∀ q ∈ tl1, q ∈ LC := fun q hq => hC q (List.mem_append_right _ hq)
    have hA2C := hCt2 _ hA2
    have hAmC := hCt _ hAm
    have hrows2C := hrows2.mono hCt2
    repeat' (first | (k_unfold; (try dsimp only)) | walk1 | (dsimp only; walk1))
    rename Fr _ _ _ _ => F5
    rename News _ _ _ _ => N5
    refine compTup_led rfl F5 N5 (us := us2) (n := 0) hA2C (by omega) fun g => ?_
    with_reducible refine comp_inv (fun i ys led => ∃ tl3, tl3 ++ LC = led ∧ TupsIn tl3 ys ((M2.take i).map fun t => prL (pr2 t))) ?_ ?_ ?_
    · exact ⟨[], rfl, .nil⟩
    · rintro i v ys led I oI Cc oC Dc m₂ h9 tk9 E' hi hv ⟨tl3, rfl, hys⟩ hC hx F6 N6 off6 ne6
      clear F5 N5
      obtain ⟨ar, nr, t, x, y, z, rfl, hmr, hMt⟩ := tri_at hrows2C (by simpa using hv)
      repeat' ((fail_if_success (with_reducible show wpAny _ _ (subscriptTail _ _ _ _) _ _ _)); first | (k_unfold; (try dsimp only)) | walk1 | (dsimp only; walk1))
      refine upto_tup (j := 2) F6 N6 (List.mem_cons_of_mem _ (List.mem_cons_of_mem _ (List.mem_cons_of_mem _ (List.mem_append_right _ hmr)))) rfl (by simp) (by simp) ?_
      intro D9 h10 F7 N7 hD9
      refine compEnd_grow (new := [(D9, tupOb [.int t.1 x, .int t.2.1 y] 0)]) F7 N7 off6 (Gt.cons (allLt_sub hD9 (by intro q hq; simp only [List.mem_cons] at hq ⊢; grind)) Gt.nil) (by intro q hq; simp only [List.mem_cons, List.mem_append] at hq ⊢; grind) (List.mem_append_right _ (List.mem_append_right _ hA2C)) ⟨(D9, tupOb [.int t.1 x, .int t.2.1 y] 0) :: tl3, rfl, ?_⟩
      rw [List.take_add_one, hMt]
      simp only [Option.toList_some, List.map_append, List.map_cons, List.map_nil]
      exact (hys.mono (fun q hq => List.mem_cons_of_mem _ hq)).append (.cons List.mem_cons_self (.cons _ _ (.cons _ _ .nil)) .nil)
    rintro yb led ⟨tlb, hled, hyb⟩
    subst hled
    clear F5 N5
    rw [List.size_toArray, hul2, List.take_length] at hyb
    unfold LCg.FinE
    intro Db h9 tk9 F6 N6 o6
    dsimp only
    repeat' ((fail_if_success (with_reducible show wpAny _ _ (eval (Expr.ListComp _ _ _ _) _) _ _ _)); first | (k_unfold; (try dsimp only)) | walk1 | (dsimp only; walk1))
    obtain ⟨LC2, NC2, hE⟩ := news_abs1 N6
    clear N6
    have hCE : ∀ q ∈ LC, q ∈ LC2 := fun q hq => hE q (List.mem_cons_of_mem _ (List.mem_append_right _ hq))
    have hAmE := hCE _ hAmC
    have hrowsE := hrows.mono (fun q hq => hCE q (hCt q hq))
    rename Fr _ _ _ _ => F5
    rename News _ _ _ _ => N5
    k_dflt (refine ListComp_T F5 (by with_unfolding_all rfl) (by decide) (by rfl) (by decide) (by rfl) ?_)
    repeat' (first | (k_unfold; (try dsimp only)) | walk1 | (dsimp only; walk1))
    refine compTup_led rfl F5 N5 (us := usm) (n := 0) hAmE (by omega) fun g => ?_
    with_reducible refine comp_inv (fun i ys led => ∃ tl3, tl3 ++ LC2 = led ∧ TupsIn tl3 ys (((t0 :: M').take i).map fun t => prL (pr2 t))) ?_ ?_ ?_
    · exact ⟨[], rfl, .nil⟩
    · rintro i v ys led I oI Cc oC Dc m₂ h9 tk9 E' hi hv ⟨tl3, rfl, hys⟩ hC hx F6 N6 off6 ne6
      clear F5 N5
      obtain ⟨ar, nr, t, x, y, z, rfl, hmr, hMt⟩ := tri_at hrowsE (by simpa using hv)
      repeat' ((fail_if_success (with_reducible show wpAny _ _ (subscriptTail _ _ _ _) _ _ _)); first | (k_unfold; (try dsimp only)) | walk1 | (dsimp only; walk1))
      refine upto_tup (j := 2) F6 N6 (List.mem_cons_of_mem _ (List.mem_cons_of_mem _ (List.mem_cons_of_mem _ (List.mem_append_right _ hmr)))) rfl (by simp) (by simp) ?_
      intro D9 h10 F7 N7 hD9
      refine compEnd_grow (new := [(D9, tupOb [.int t.1 x, .int t.2.1 y] 0)]) F7 N7 off6 (Gt.cons (allLt_sub hD9 (by intro q hq; simp only [List.mem_cons] at hq ⊢; grind)) Gt.nil) (by intro q hq; simp only [List.mem_cons, List.mem_append] at hq ⊢; grind) (List.mem_append_right _ (List.mem_append_right _ hAmE)) ⟨(D9, tupOb [.int t.1 x, .int t.2.1 y] 0) :: tl3, rfl, ?_⟩
      rw [List.take_add_one, hMt]
      simp only [Option.toList_some, List.map_append, List.map_cons, List.map_nil]
      exact (hys.mono (fun q hq => List.mem_cons_of_mem _ hq)).append (.cons List.mem_cons_self (.cons _ _ (.cons _ _ .nil)) .nil)
    rintro yc led ⟨tlc, hled, hyc⟩
    subst hled
    clear F5 N5
    rw [List.size_toArray, hul, List.take_length] at hyc
    unfold LCg.FinE
    intro Dc h9 tk9 F6 N6 o6
    dsimp only
    repeat' ((fail_if_success (with_reducible show wpAny _ _ (compareOp _ (Value.ref _) (Value.ref _)) _ _ _)); first | (k_unfold; (try dsimp only)) | walk1 | (dsimp only; walk1))
    refine ne_rows N6 (List.mem_cons_of_mem _ (List.mem_append_right _ (hE _ List.mem_cons_self))) List.mem_cons_self hyb (fun q hq => List.mem_cons_of_mem _ (List.mem_append_right _ (hE q (List.mem_cons_of_mem _ (List.mem_append_left _ hq))))) hyc (fun q hq => List.mem_cons_of_mem _ (List.mem_append_left _ hq)) ?_ (by ktr_units) ?_
    · have := congrArg (List.map prL) hM2e
      rw [List.map_map, List.map_map] at this
      exact this
    have N29 := take_led (law_back N6 hC (fun q hq => List.mem_cons_of_mem _ (List.mem_append_right _ (hCE q hq))))
    clear N6
    repeat' ((fail_if_success (with_reducible show wpAny _ _ (call (Value.ref _) _) _ _ _)); first | (k_unfold; (try dsimp only)) | walk1 | (dsimp only; walk1))
    rename Fr _ _ _ _ => F29
    refine take_o sa sb o1 o2 _ _ _ _ hS2 ⟨by assumption, F29, kX, N29, by assumption, rfl⟩ (fun q hq => hq) hLW.prest (by omega) (by omega) (by decide) (by decide) ?_
    intro cut trc o3 o4 h30 tk30 hcut0 hcut1 hS3 F30 N30
    clear F29 N29
    have N31 := store_led N30
    clear N30
    repeat' ((fail_if_success (with_reducible show wpAny _ _ (storeName _ _ _) _ _ _)); first | (k_unfold; (try dsimp only)) | walk1 | (dsimp only; walk1))
    refine store_cell F30 N31 rfl hLW.c2rest (by assumption) ?_
    intro h32 oK F32 N32 hoK
    clear F30 N31
    repeat' ((fail_if_success (with_reducible show wpAny _ _ (exec (Stmt.Assign _ _ _) _) _ _ _)); first | (k_unfold; (try dsimp only)) | walk1 | (dsimp only; walk1))
    rename Fr _ _ _ _ => F32
    obtain ⟨tc, hMc⟩ : ∃ tc, (t0 :: M')[cut.toNat]? = some tc := ⟨_, List.getElem?_eq_getElem (by omega)⟩
    obtain ⟨ta5, exc⟩ := hxs.get cut.toNat tc.1 (by rw [List.getElem?_map, hMc]; rfl)
    obtain ⟨ta6, ezc⟩ := hzs.get cut.toNat tc.2.1 (by rw [List.getElem?_map, hMc]; rfl)
    have htc1 := hMF.le tc (List.mem_of_getElem? hMc)
    have htc2 := (hMF.each tc (List.mem_of_getElem? hMc)).2
    refine part_join tc.1 F32 N32 ?_ ?_
    · repeat' ((fail_if_success (with_reducible show wpAny _ _ (eval (Expr.Name (Str.ofString "sides") _) _) _ _ _)); first | (k_unfold; (try dsimp only)) | walk1 | (dsimp only; walk1))
      rename News _ _ _ _ => N33
      refine lcf_cell N33 rfl (show (_, oS) ∈ _ from by simp) hoS ?_ rfl rfl
      repeat' ((fail_if_success (with_reducible show wpAny _ _ (eval (Expr.Name (Str.ofString "cut") _) _) _ _ _)); first | (k_unfold; (try dsimp only)) | walk1 | (dsimp only; walk1))
      refine lcf_cell N33 rfl (show (_, oK) ∈ _ from by simp) hoK ?_ rfl rfl
      repeat' ((fail_if_success (with_reducible show wpAny _ _ (subscriptTail _ _ _ _) _ _ _)); first | (k_unfold; (try dsimp only)) | walk1 | (dsimp only; walk1))
      refine item_at (n := 0) (j := cut.toNat) N33 (by simp) exc (by omega) (by omega) ?_
      repeat' ((fail_if_success (with_reducible show wpAny _ _ (eval (Expr.Name (Str.ofString "sides") _) _) _ _ _)); first | (k_unfold; (try dsimp only)) | walk1 | (dsimp only; walk1))
      · refine compEnd_grow (new := []) (by assumption) N33 (by assumption) Gt.nil (fun q hq => hq) (.inr ⟨_, List.mem_cons_self, rfl, _, rfl⟩) ?_
        repeat' ((fail_if_success (with_reducible show wpAny _ _ (eval (Expr.Name (Str.ofString "sides") _) _) _ _ _)); first | (k_unfold; (try dsimp only)) | walk1 | (dsimp only; walk1))
        rename News _ _ _ _ => N33
        refine lcf_cell N33 rfl (show (_, oS) ∈ _ from by simp) hoS ?_ rfl rfl
        repeat' ((fail_if_success (with_reducible show wpAny _ _ (eval (Expr.Name (Str.ofString "cut") _) _) _ _ _)); first | (k_unfold; (try dsimp only)) | walk1 | (dsimp only; walk1))
        refine lcf_cell N33 rfl (show (_, oK) ∈ _ from by simp) hoK ?_ rfl rfl
        repeat' ((fail_if_success (with_reducible show wpAny _ _ (subscriptTail _ _ _ _) _ _ _)); first | (k_unfold; (try dsimp only)) | walk1 | (dsimp only; walk1))
        refine item_at (n := 0) (j := cut.toNat) N33 (by simp) exc (by omega) (by omega) ?_
        repeat' ((fail_if_success (with_reducible show wpAny _ _ (eval (Expr.Name (Str.ofString "sides") _) _) _ _ _)); first | (k_unfold; (try dsimp only)) | walk1 | (dsimp only; walk1))
        · refine compEnd_grow (new := []) (by assumption) N33 (by assumption) Gt.nil (fun q hq => hq) (.inr ⟨_, List.mem_cons_self, rfl, _, rfl⟩) ?_
          repeat' (first | (k_unfold; (try dsimp only)) | walk1 | (dsimp only; walk1))
          rename Fr _ _ _ _ => F35
          rename News _ _ _ _ => N35
          exact ⟨rfl, _, _, _, _, _, rfl, F35, news_drop2 N35, .inr ⟨2, [3], .cons _ _ (.cons _ _ .nil), .inl rfl, ‹tc.1.fmod 2 = 0›⟩, by simp⟩
        · refine compEnd_grow (new := []) (by assumption) N33 (by assumption) Gt.nil (fun q hq => hq) (.inr ⟨_, List.mem_cons_self, rfl, _, rfl⟩) ?_
          repeat' (first | (k_unfold; (try dsimp only)) | walk1 | (dsimp only; walk1))
          rename Fr _ _ _ _ => F35
          rename News _ _ _ _ => N35
          exact ⟨rfl, _, _, _, _, _, rfl, F35, news_drop2 N35, .inr ⟨2, [], .cons _ _ .nil, .inl rfl, ‹tc.1.fmod 2 = 0›⟩, by simp⟩
      · refine compEnd_grow (new := []) (by assumption) N33 (by assumption) Gt.nil (fun q hq => hq) (.inr ⟨_, List.mem_cons_self, rfl, _, rfl⟩) ?_
        repeat' ((fail_if_success (with_reducible show wpAny _ _ (eval (Expr.Name (Str.ofString "sides") _) _) _ _ _)); first | (k_unfold; (try dsimp only)) | walk1 | (dsimp only; walk1))
        rename News _ _ _ _ => N33
        refine lcf_cell N33 rfl (show (_, oS) ∈ _ from by simp) hoS ?_ rfl rfl
        repeat' ((fail_if_success (with_reducible show wpAny _ _ (eval (Expr.Name (Str.ofString "cut") _) _) _ _ _)); first | (k_unfold; (try dsimp only)) | walk1 | (dsimp only; walk1))
        refine lcf_cell N33 rfl (show (_, oK) ∈ _ from by simp) hoK ?_ rfl rfl
        repeat' ((fail_if_success (with_reducible show wpAny _ _ (subscriptTail _ _ _ _) _ _ _)); first | (k_unfold; (try dsimp only)) | walk1 | (dsimp only; walk1))
        refine item_at (n := 0) (j := cut.toNat) N33 (by simp) exc (by omega) (by omega) ?_
        repeat' ((fail_if_success (with_reducible show wpAny _ _ (eval (Expr.Name (Str.ofString "sides") _) _) _ _ _)); first | (k_unfold; (try dsimp only)) | walk1 | (dsimp only; walk1))
        · refine compEnd_grow (new := []) (by assumption) N33 (by assumption) Gt.nil (fun q hq => hq) (.inr ⟨_, List.mem_cons_self, rfl, _, rfl⟩) ?_
          repeat' (first | (k_unfold; (try dsimp only)) | walk1 | (dsimp only; walk1))
          rename Fr _ _ _ _ => F35
          rename News _ _ _ _ => N35
          exact ⟨rfl, _, _, _, _, _, rfl, F35, news_drop2 N35, .inr ⟨3, [], .cons _ _ .nil, .inr rfl, ‹tc.1.fmod 3 = 0›⟩, by simp⟩
        · refine compEnd_grow (new := []) (by assumption) N33 (by assumption) Gt.nil (fun q hq => hq) (.inr ⟨_, List.mem_cons_self, rfl, _, rfl⟩) ?_
          repeat' (first | (k_unfold; (try dsimp only)) | walk1 | (dsimp only; walk1))
          rename Fr _ _ _ _ => F35
          rename News _ _ _ _ => N35
          exact ⟨rfl, _, _, _, _, _, rfl, F35, news_drop2 N35, .inl rfl, by simp⟩
    · clear F32 N32
      intro Dp9 ps kp h34 tk34 F34 N34 hpo hpl
      rcases hpo with rfl | ⟨d, ds, hpI, hd23, hdm⟩
      · repeat' ((fail_if_success (with_reducible show wpAny _ _ (truthy (Value.ref _)) _ _ _)); first | (k_unfold; (try dsimp only)) | walk1 | (dsimp only; walk1))
        refine truthy_nil (n := kp) N34 (show (Dp9, W.listOf #[] kp) ∈ _ from List.mem_cons_self) ?_
        intro tk35
        have hTF := mem9 N34
        repeat' ((fail_if_success (with_reducible show wpAny _ _ (eval (Expr.ListComp _ _ _ _) _) _ _ _)); first | (k_unfold; (try dsimp only)) | walk1 | (dsimp only; walk1))
        rename Fr _ _ _ _ => F5
        rename News _ _ _ _ => N4
        obtain ⟨LF, N5, hLF⟩ := news_abs1 N4
        clear N4
        have hAmF := hLF _ (hTF _ hAm)
        have hrowsF := hrows.mono (fun q hq => hLF q (hTF q hq))
        k_dflt (refine ListComp_T F5 (by with_unfolding_all rfl) (by decide) (by rfl) (by decide) (by rfl) ?_)
        repeat' (first | (k_unfold; (try dsimp only)) | walk1 | (dsimp only; walk1))
        refine compTup_led rfl F5 N5 (us := usm) (n := 0) hAmF (by omega) fun g => ?_
        with_reducible refine comp_inv (fun i ys led => LF = led ∧ LSm.BoolsAre ys (List.replicate i true)) ?_ ?_ ?_
        · exact ⟨rfl, .nil⟩
        · rintro i v ys led I oI Cc oC Dc m₂ h9 tk9 E' hi hv ⟨rfl, hys⟩ hC hx F6 N6 off6 ne6
          clear F5 N5
          obtain ⟨ar, nr, t, x, y, z, rfl, hmr, hMt⟩ := tri_at hrowsF (by simpa using hv)
          have hth := (hMF.each t (List.mem_of_getElem? hMt)).1
          repeat' (first | (k_unfold; (try dsimp only)) | walk1 | (dsimp only; walk1))
          · have e : (t.2.2 == t.1) = true := by
              rw [Third, if_neg ‹t.2.1 ≠ 0›] at hth
              simpa using hth
            rw [e]
            refine compEnd_grow (new := []) F6 N6 off6 Gt.nil (by intro q hq; exact hq) hAmF ⟨rfl, ?_⟩
            rw [List.replicate_succ']
            exact bools_snoc hys true
          · have e : (t.2.2 == 0) = true := by
              rw [Third, if_pos ‹t.2.1 = 0›] at hth
              simpa using hth
            rw [e]
            refine compEnd_grow (new := []) F6 N6 off6 Gt.nil (by intro q hq; exact hq) hAmF ⟨rfl, ?_⟩
            rw [List.replicate_succ']
            exact bools_snoc hys true
        rintro ya2 led ⟨hled, hya2⟩
        subst hled
        clear F5 N5
        unfold LCg.FinE
        intro Dall h9 tk9 F6 N6 o6
        repeat' ((fail_if_success (with_reducible show wpAny _ _ (call (Value.builtin _) _) _ _ _)); first | (k_unfold; (try dsimp only)) | walk1 | (dsimp only; walk1))
        refine LSm.all_bools F6 N6 rfl (isList_of N6 (n := ya2.length) List.mem_cons_self) hya2 ?_
        intro h99 tk99 F99 N99
        have e99 : (List.replicate usm.toArray.size true).all id = true := by simp
        rw [e99]
        k_steps
      · obtain ⟨td, pr, rfl, hpr⟩ := ints_cons hpI
        repeat' ((fail_if_success (with_reducible show wpAny _ _ (truthy (Value.ref _)) _ _ _)); first | (k_unfold; (try dsimp only)) | walk1 | (dsimp only; walk1))
        refine truthy_cons N34 List.mem_cons_self (by simp at hpl; omega) ?_
        intro tk35
        obtain ⟨p0, q0, hq1, hq2, hqm, hqb, hql⟩ := cut_row hap htwo hMF.le hMc hd23 hdm
        have hXl : (Value.int t0.1 tx0 :: xs).length = (t0 :: M').length := by have := hxs.length; rwa [List.length_map] at this
        have hZl : (Value.int t0.2.1 tz0 :: zs).length = (t0 :: M').length := by have := hzs.length; rwa [List.length_map] at this
        repeat' ((fail_if_success (with_reducible show wpAny _ _ (subscriptTail _ _ _ _) _ _ _)); first | (k_unfold; (try dsimp only)) | walk1 | (dsimp only; walk1))
        rename Fr _ _ _ _ => F36
        rename News _ _ _ _ => N36
        refine upto_tup (n := 0) (j := cut.toNat) F36 N36 (show (T1, tupOb (Value.int t0.1 tx0 :: xs) 0) ∈ _ from by simp) (by omega) (by omega) (by omega) ?_
        intro P1 h37 F37 N37 hP1
        clear F36 N36
        repeat' ((fail_if_success (with_reducible show wpAny _ _ (subscriptTail _ _ _ _) _ _ _)); first | (k_unfold; (try dsimp only)) | walk1 | (dsimp only; walk1))
        rename News _ _ _ _ => N36
        refine item_at (n := 0) (j := cut.toNat) N36 (by simp) exc (by omega) (by omega) ?_
        repeat' ((fail_if_success (with_reducible show wpAny _ _ (subscriptTail _ _ _ _) _ _ _)); first | (k_unfold; (try dsimp only)) | walk1 | (dsimp only; walk1))
        refine' ksa_sub (n := kp) (ns := d :: ds) N36 ?m hpI (by decide) (by simp) (by decide) ?_
        case m => simp
        intro tpa
        have e0 : (d :: ds).getD (0 : Int).toNat 0 = d := rfl
        rw [e0]
        clear e0
        repeat' ((fail_if_success (with_reducible show wpAny _ _ (subscriptTail _ _ _ _) _ _ _)); first | (k_unfold; (try dsimp only)) | walk1 | (dsimp only; walk1))
        refine' ksa_sub (n := kp) (ns := d :: ds) N36 ?m hpI (by decide) (by simp) (by decide) ?_
        case m => simp
        intro tpa
        have e0 : (d :: ds).getD (0 : Int).toNat 0 = d := rfl
        rw [e0]
        clear e0
        repeat' ((fail_if_success (with_reducible show wpAny _ _ (binaryOp Operator.Add (Value.ref _) (Value.ref _)) _ _ _)); first | (k_unfold; (try dsimp only)) | walk1 | (dsimp only; walk1))
        rename Fr _ _ _ _ => F36
        rename News _ _ _ _ => N36
        refine' add_tups (vs := (Value.int t0.1 tx0 :: xs).take cut.toNat) (ws := [Value.int (Int.fdiv tc.1 d) _, Value.int d _]) F36 N36 ?mt ?mb (.inr (by simp)) ?z ?_
        case mb => exact List.mem_cons_self
        case mt => exact List.mem_cons_of_mem _ List.mem_cons_self
        case z => (simp only [List.length_take, List.length_cons, List.length_nil]; omega)
        intro P3 h39 F39 N39
        clear F36 N36
        repeat' ((fail_if_success (with_reducible show wpAny _ _ (subscriptTail _ _ _ _) _ _ _)); first | (k_unfold; (try dsimp only)) | walk1 | (dsimp only; walk1))
        rename Fr _ _ _ _ => F36
        rename News _ _ _ _ => N36
        refine from_tup (n := 0) (j := cut.toNat + 1) F36 N36 (show (T1, tupOb (Value.int t0.1 tx0 :: xs) 0) ∈ _ from by simp) (by omega) (by omega) (by omega) (by omega) ?_
        intro P4 h40 F40 N40 hP4
        clear F36 N36
        repeat' ((fail_if_success (with_reducible show wpAny _ _ (binaryOp Operator.Add (Value.ref _) (Value.ref _)) _ _ _)); first | (k_unfold; (try dsimp only)) | walk1 | (dsimp only; walk1))
        rename Fr _ _ _ _ => F36
        rename News _ _ _ _ => N36
        refine' add_tups (ws := (Value.int t0.1 tx0 :: xs).drop (cut.toNat + 1)) F36 N36 ?mt ?mb ?ne ?z ?_
        case mb => exact List.mem_cons_self
        case mt => exact List.mem_cons_of_mem _ List.mem_cons_self
        case ne => exact .inl (by simp)
        case z => (simp only [List.length_append, List.length_take, List.length_drop, List.length_cons, List.length_nil] at hXl hZl hM4 ⊢; omega)
        intro P5 h41 F41 N41
        clear F36 N36
        obtain ⟨tp5, lx5, N41, hlx5⟩ := head_ints N41 (IntsAre.two (hxs.take cut.toNat) (hxs.drop (cut.toNat + 1))) hq1
        repeat' ((fail_if_success (with_reducible show wpAny _ _ (subscriptTail _ _ _ _) _ _ _)); first | (k_unfold; (try dsimp only)) | walk1 | (dsimp only; walk1))
        rename Fr _ _ _ _ => F36
        rename News _ _ _ _ => N36
        refine upto_tup (n := 0) (j := cut.toNat) F36 N36 (show (T2, tupOb (Value.int t0.2.1 tz0 :: zs) 0) ∈ _ from by simp) (by omega) (by omega) (by omega) ?_
        intro P1 h37 F37 N37 hP1
        clear F36 N36
        repeat' ((fail_if_success (with_reducible show wpAny _ _ (subscriptTail _ _ _ _) _ _ _)); first | (k_unfold; (try dsimp only)) | walk1 | (dsimp only; walk1))
        rename News _ _ _ _ => N36
        refine item_at (n := 0) (j := cut.toNat) N36 (by simp) ezc (by omega) (by omega) ?_
        repeat' ((fail_if_success (with_reducible show wpAny _ _ (subscriptTail _ _ _ _) _ _ _)); first | (k_unfold; (try dsimp only)) | walk1 | (dsimp only; walk1))
        refine' ksa_sub (n := kp) (ns := d :: ds) N36 ?m hpI (by decide) (by simp) (by decide) ?_
        case m => simp
        intro tpa
        have e0 : (d :: ds).getD (0 : Int).toNat 0 = d := rfl
        rw [e0]
        clear e0
        repeat' ((fail_if_success (with_reducible show wpAny _ _ (subscriptTail _ _ _ _) _ _ _)); first | (k_unfold; (try dsimp only)) | walk1 | (dsimp only; walk1))
        refine item_at (n := 0) (j := cut.toNat) N36 (by simp) ezc (by omega) (by omega) ?_
        repeat' ((fail_if_success (with_reducible show wpAny _ _ (binaryOp Operator.Add (Value.ref _) (Value.ref _)) _ _ _)); first | (k_unfold; (try dsimp only)) | walk1 | (dsimp only; walk1))
        rename Fr _ _ _ _ => F36
        rename News _ _ _ _ => N36
        refine' add_tups (vs := (Value.int t0.2.1 tz0 :: zs).take cut.toNat) (ws := [Value.int (tc.2.1 * d) _, Value.int tc.2.1 _]) F36 N36 ?mt ?mb (.inr (by simp)) ?z ?_
        case mb => exact List.mem_cons_self
        case mt => exact List.mem_cons_of_mem _ List.mem_cons_self
        case z => (simp only [List.length_take, List.length_cons, List.length_nil]; omega)
        intro P3 h39 F39 N39
        clear F36 N36
        repeat' ((fail_if_success (with_reducible show wpAny _ _ (subscriptTail _ _ _ _) _ _ _)); first | (k_unfold; (try dsimp only)) | walk1 | (dsimp only; walk1))
        rename Fr _ _ _ _ => F36
        rename News _ _ _ _ => N36
        refine from_tup (n := 0) (j := cut.toNat + 1) F36 N36 (show (T2, tupOb (Value.int t0.2.1 tz0 :: zs) 0) ∈ _ from by simp) (by omega) (by omega) (by omega) (by omega) ?_
        intro P4 h40 F40 N40 hP4
        clear F36 N36
        repeat' ((fail_if_success (with_reducible show wpAny _ _ (binaryOp Operator.Add (Value.ref _) (Value.ref _)) _ _ _)); first | (k_unfold; (try dsimp only)) | walk1 | (dsimp only; walk1))
        rename Fr _ _ _ _ => F36
        rename News _ _ _ _ => N36
        refine' add_tups (ws := (Value.int t0.2.1 tz0 :: zs).drop (cut.toNat + 1)) F36 N36 ?mt ?mb ?ne ?z ?_
        case mb => exact List.mem_cons_self
        case mt => exact List.mem_cons_of_mem _ List.mem_cons_self
        case ne => exact .inl (by simp)
        case z => (simp only [List.length_append, List.length_take, List.length_drop, List.length_cons, List.length_nil] at hXl hZl hM4 ⊢; omega)
        intro P6 h41 F41 N41
        clear F36 N36
        obtain ⟨tp6, lx6, N41, hlx6⟩ := head_ints N41 (IntsAre.two (hzs.take cut.toNat) (hzs.drop (cut.toNat + 1))) hq2
        repeat' ((fail_if_success (with_reducible show wpAny _ _ (eval (Expr.ListComp _ _ _ _) _) _ _ _)); first | (k_unfold; (try dsimp only)) | walk1 | (dsimp only; walk1))
        rename Fr _ _ _ _ => F46
        k_dflt (refine ListComp_T F46 (by with_unfolding_all rfl) (by decide) (by rfl) (by decide) (by rfl) ?_)
        repeat' ((fail_if_success (with_reducible show wpAny _ _ (call (Value.ref _) _) _ _ _)); first | (k_unfold; (try dsimp only)) | walk1 | (dsimp only; walk1))
        rename News _ _ _ _ => N46
        refine merge_spec P5 P6 p0.1 p0.2 tp5 tp6 lx5 lx6 (q0.map (·.1)) (q0.map (·.2)) _ ⟨by assumption, F46, kX, N46, by assumption, rfl⟩ (by simp) (by simp) hlx5 hlx6 (by rw [List.length_map, List.length_map]) (by rw [List.length_map]; omega) (hqb p0.1 (by simp)) (fun n hn => hqb n (List.mem_cons_of_mem _ hn)) (by decide) (by decide) ?_
        intro A3 us3 tl3' h47 tk47 F47 N47 hgt3 hA3 hrows3
        clear N46
        revert hqm hrows3
        generalize mergeD p0.1 p0.2 (q0.map (·.1)) (q0.map (·.2)) = M3
        intro hqm hrows3
        have hul3 := hrows3.length
        rw [List.length_map] at hul3
        have hMl3 := congrArg List.length hqm
        rw [List.length_map, List.length_map] at hMl3
        obtain ⟨LG, NG, hG6, hGt3⟩ := news_abs N47
        clear N47
        have hGt : ∀ q ∈ tl1, q ∈ LG := fun q hq => hG6 q (by simp [hq])
        have hA3G := hGt3 _ hA3
        have hrows3G := hrows3.mono hGt3
        repeat' (first | (k_unfold; (try dsimp only)) | walk1 | (dsimp only; walk1))
        rename Fr _ _ _ _ => F5
        rename News _ _ _ _ => N5
        refine compTup_led rfl F5 N5 (us := us3) (n := 0) hA3G (by omega) fun g => ?_
        with_reducible refine comp_inv (fun i ys led => ∃ tl3, tl3 ++ LG = led ∧ TupsIn tl3 ys ((M3.take i).map fun t => prL (pr2 t))) ?_ ?_ ?_
        · exact ⟨[], rfl, .nil⟩
        · rintro i v ys led I oI Cc oC Dc m₂ h9 tk9 E' hi hv ⟨tl3, rfl, hys⟩ hC hx F6 N6 off6 ne6
          clear F5 N5
          obtain ⟨ar, nr, t, x, y, z, rfl, hmr, hMt⟩ := tri_at hrows3G (by simpa using hv)
          repeat' ((fail_if_success (with_reducible show wpAny _ _ (subscriptTail _ _ _ _) _ _ _)); first | (k_unfold; (try dsimp only)) | walk1 | (dsimp only; walk1))
          refine upto_tup (j := 2) F6 N6 (List.mem_cons_of_mem _ (List.mem_cons_of_mem _ (List.mem_cons_of_mem _ (List.mem_append_right _ hmr)))) rfl (by simp) (by simp) ?_
          intro D9 h10 F7 N7 hD9
          refine compEnd_grow (new := [(D9, tupOb [.int t.1 x, .int t.2.1 y] 0)]) F7 N7 off6 (Gt.cons (allLt_sub hD9 (by intro q hq; simp only [List.mem_cons] at hq ⊢; grind)) Gt.nil) (by intro q hq; simp only [List.mem_cons, List.mem_append] at hq ⊢; grind) (List.mem_append_right _ (List.mem_append_right _ hA3G)) ⟨(D9, tupOb [.int t.1 x, .int t.2.1 y] 0) :: tl3, rfl, ?_⟩
          rw [List.take_add_one, hMt]
          simp only [Option.toList_some, List.map_append, List.map_cons, List.map_nil]
          exact (hys.mono (fun q hq => List.mem_cons_of_mem _ hq)).append (.cons List.mem_cons_self (.cons _ _ (.cons _ _ .nil)) .nil)
        rintro yd led ⟨tld, hled, hyd⟩
        subst hled
        clear F5 N5
        rw [List.size_toArray, hul3, List.take_length] at hyd
        unfold LCg.FinE
        intro Dd h9 tk9 F6 N6 o6
        dsimp only
        repeat' ((fail_if_success (with_reducible show wpAny _ _ (eval (Expr.ListComp _ _ _ _) _) _ _ _)); first | (k_unfold; (try dsimp only)) | walk1 | (dsimp only; walk1))
        obtain ⟨LG2, NG2, hH⟩ := news_abs1 N6
        clear N6
        have hGH : ∀ q ∈ LG, q ∈ LG2 := fun q hq => hH q (List.mem_cons_of_mem _ (List.mem_append_right _ hq))
        have hAmH := hGH _ (hGt _ hAm)
        have hrowsH := hrows.mono (fun q hq => hGH q (hGt q hq))
        rename Fr _ _ _ _ => F5
        rename News _ _ _ _ => N5
        k_dflt (refine ListComp_T F5 (by with_unfolding_all rfl) (by decide) (by rfl) (by decide) (by rfl) ?_)
        repeat' (first | (k_unfold; (try dsimp only)) | walk1 | (dsimp only; walk1))
        refine compTup_led rfl F5 N5 (us := usm) (n := 0) hAmH (by omega) fun g => ?_
        with_reducible refine comp_inv (fun i ys led => ∃ tl3, tl3 ++ LG2 = led ∧ TupsIn tl3 ys (((t0 :: M').take i).map fun t => prL (pr2 t))) ?_ ?_ ?_
        · exact ⟨[], rfl, .nil⟩
        · rintro i v ys led I oI Cc oC Dc m₂ h9 tk9 E' hi hv ⟨tl3, rfl, hys⟩ hC hx F6 N6 off6 ne6
          clear F5 N5
          obtain ⟨ar, nr, t, x, y, z, rfl, hmr, hMt⟩ := tri_at hrowsH (by simpa using hv)
          repeat' ((fail_if_success (with_reducible show wpAny _ _ (subscriptTail _ _ _ _) _ _ _)); first | (k_unfold; (try dsimp only)) | walk1 | (dsimp only; walk1))
          refine upto_tup (j := 2) F6 N6 (List.mem_cons_of_mem _ (List.mem_cons_of_mem _ (List.mem_cons_of_mem _ (List.mem_append_right _ hmr)))) rfl (by simp) (by simp) ?_
          intro D9 h10 F7 N7 hD9
          refine compEnd_grow (new := [(D9, tupOb [.int t.1 x, .int t.2.1 y] 0)]) F7 N7 off6 (Gt.cons (allLt_sub hD9 (by intro q hq; simp only [List.mem_cons] at hq ⊢; grind)) Gt.nil) (by intro q hq; simp only [List.mem_cons, List.mem_append] at hq ⊢; grind) (List.mem_append_right _ (List.mem_append_right _ hAmH)) ⟨(D9, tupOb [.int t.1 x, .int t.2.1 y] 0) :: tl3, rfl, ?_⟩
          rw [List.take_add_one, hMt]
          simp only [Option.toList_some, List.map_append, List.map_cons, List.map_nil]
          exact (hys.mono (fun q hq => List.mem_cons_of_mem _ hq)).append (.cons List.mem_cons_self (.cons _ _ (.cons _ _ .nil)) .nil)
        rintro ye led ⟨tle, hled, hye⟩
        subst hled
        clear F5 N5
        rw [List.size_toArray, hul, List.take_length] at hye
        unfold LCg.FinE
        intro De h9 tk9 F6 N6 o6
        dsimp only
        repeat' ((fail_if_success (with_reducible show wpAny _ _ (compareOp _ (Value.ref _) (Value.ref _)) _ _ _)); first | (k_unfold; (try dsimp only)) | walk1 | (dsimp only; walk1))
        refine ne_rows N6 (List.mem_cons_of_mem _ (List.mem_append_right _ (hH _ List.mem_cons_self))) List.mem_cons_self hyd (fun q hq => List.mem_cons_of_mem _ (List.mem_append_right _ (hH q (List.mem_cons_of_mem _ (List.mem_append_left _ hq))))) hye (fun q hq => List.mem_cons_of_mem _ (List.mem_append_left _ hq)) ?_ (by ktr_units) ?_
        · have := congrArg (List.map prL) hqm
          rw [List.map_map, List.map_map] at this
          exact this
        have hTF := memT N6 (fun q hq => hGH q (hGt q hq))
        repeat' ((fail_if_success (with_reducible show wpAny _ _ (eval (Expr.ListComp _ _ _ _) _) _ _ _)); first | (k_unfold; (try dsimp only)) | walk1 | (dsimp only; walk1))
        rename Fr _ _ _ _ => F5
        rename News _ _ _ _ => N4
        obtain ⟨LF, N5, hLF⟩ := news_abs1 N4
        clear N4
        have hAmF := hLF _ (hTF _ hAm)
        have hrowsF := hrows.mono (fun q hq => hLF q (hTF q hq))
        k_dflt (refine ListComp_T F5 (by with_unfolding_all rfl) (by decide) (by rfl) (by decide) (by rfl) ?_)
        repeat' (first | (k_unfold; (try dsimp only)) | walk1 | (dsimp only; walk1))
        refine compTup_led rfl F5 N5 (us := usm) (n := 0) hAmF (by omega) fun g => ?_
        with_reducible refine comp_inv (fun i ys led => LF = led ∧ LSm.BoolsAre ys (List.replicate i true)) ?_ ?_ ?_
        · exact ⟨rfl, .nil⟩
        · rintro i v ys led I oI Cc oC Dc m₂ h9 tk9 E' hi hv ⟨rfl, hys⟩ hC hx F6 N6 off6 ne6
          clear F5 N5
          obtain ⟨ar, nr, t, x, y, z, rfl, hmr, hMt⟩ := tri_at hrowsF (by simpa using hv)
          have hth := (hMF.each t (List.mem_of_getElem? hMt)).1
          repeat' (first | (k_unfold; (try dsimp only)) | walk1 | (dsimp only; walk1))
          · have e : (t.2.2 == t.1) = true := by
              rw [Third, if_neg ‹t.2.1 ≠ 0›] at hth
              simpa using hth
            rw [e]
            refine compEnd_grow (new := []) F6 N6 off6 Gt.nil (by intro q hq; exact hq) hAmF ⟨rfl, ?_⟩
            rw [List.replicate_succ']
            exact bools_snoc hys true
          · have e : (t.2.2 == 0) = true := by
              rw [Third, if_pos ‹t.2.1 = 0›] at hth
              simpa using hth
            rw [e]
            refine compEnd_grow (new := []) F6 N6 off6 Gt.nil (by intro q hq; exact hq) hAmF ⟨rfl, ?_⟩
            rw [List.replicate_succ']
            exact bools_snoc hys true
        rintro ya2 led ⟨hled, hya2⟩
        subst hled
        clear F5 N5
        unfold LCg.FinE
        intro Dall h9 tk9 F6 N6 o6
        repeat' ((fail_if_success (with_reducible show wpAny _ _ (call (Value.builtin _) _) _ _ _)); first | (k_unfold; (try dsimp only)) | walk1 | (dsimp only; walk1))
        refine LSm.all_bools F6 N6 rfl (isList_of N6 (n := ya2.length) List.mem_cons_self) hya2 ?_
        intro h99 tk99 F99 N99
        have e99 : (List.replicate usm.toArray.size true).all id = true := by simp
        rw [e99]
        k_steps)
end
end Mine
end

set_option maxRecDepth 100000 in
set_option maxHeartbeats 8000000 in
theorem PySem.Challenge.cw_au0024_01_holds : PySem.Challenge.rw_au0024_01.Holds := by
  exact Mine.t1
