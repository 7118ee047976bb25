import PyProof.Rows.All
import Wide.All
import OpenK.AllK
import Wide.FinOn
import PySem.Challenge.RW_dw0036_01
open PySem PySem.W PySem.Spec PySem.Calls PyProof.Rows
set_option Elab.async false
set_option maxRecDepth 100000
set_option maxHeartbeats 8000000
namespace Mine
section
theorem off1_mem {D : Addr} {l : List (Addr × Obj)} (h : LCg.Off1 D l) : ∀ p ∈ l, p.1 ≠ D := by
  induction l with
  | nil => intro p hp; cases hp
  | cons q r ih =>
    intro p hp
    rcases List.mem_cons.mp hp with rfl | hp
    · exact h.1
    · exact ih h.2 p hp
theorem off_app {a b : List (Addr × Obj)} {adr : List Addr} : OwnOff (a ++ b) adr ↔ OwnOff a adr ∧ OwnOff b adr :=
  ⟨fun h => ⟨fun p hp => h p (List.mem_append_left _ hp), fun p hp => h p (List.mem_append_right _ hp)⟩, fun h p hp => (List.mem_append.mp hp).elim (h.1 p) (h.2 p)⟩
theorem off_cons {q : Addr × Obj} {b : List (Addr × Obj)} {adr : List Addr} : OwnOff (q :: b) adr ↔ (∀ x ∈ adr, q.1 ≠ x) ∧ OwnOff b adr :=
  ⟨fun h => ⟨h q (.head _), fun p hp => h p (.tail _ hp)⟩, fun h p hp => by rcases List.mem_cons.mp hp with rfl | hp; exact h.1; exact h.2 p hp⟩
theorem off_adr {x : Addr} {b : List (Addr × Obj)} {adr : List Addr} : OwnOff b (x :: adr) ↔ (∀ p ∈ b, p.1 ≠ x) ∧ OwnOff b adr :=
  ⟨fun h => ⟨fun p hp => h p hp x (.head _), fun p hp y hy => h p hp y (.tail _ hy)⟩, fun h p hp y hy => by rcases List.mem_cons.mp hy with rfl | hy; exact h.1 p hp; exact h.2 p hp y hy⟩
theorem off_nil {b : List (Addr × Obj)} : OwnOff b [] := fun _ _ _ h => nomatch h
theorem off_swap {a b : List (Addr × Obj)} : OwnOff a (b.map (·.1)) ↔ OwnOff b (a.map (·.1)) := by
  have : ∀ {a b : List (Addr × Obj)}, OwnOff a (b.map (·.1)) → OwnOff b (a.map (·.1)) := fun h p hp x hx => by
    obtain ⟨q, hq, rfl⟩ := List.mem_map.mp hx
    exact fun e => h q hq p.1 (List.mem_map.mpr ⟨p, hp, rfl⟩) e.symm
  exact ⟨this, this⟩

section
variable {prog : Program} {w : World} {A : Around} {s : Shared} {env : Env} {h₀ : Heap}

/-- a for over an iterator that walks; the target is stored by the walk itself (a local or a cell) -/
theorem for_walks {x : Str} {px : Pos} {body : List Stmt} {Q : Flow → Shared → Prop} {E : Value → Shared → Prop} {I : Addr} {fp wr : List Addr} {n : Nat} {P : Nat → Value → Prop} {St : Nat → Heap → Prop} {m : Str → Option Value} {news : List (Addr × Obj)}
    (W : Walks prog w A I fp wr n P St) (hE : PassesOwn (model prog w) A env E) (hLf : env.locals ∉ fp) (hwr : ∀ b ∈ wr, h₀.get? b = none) (hfp : ∀ b ∈ fp, b ∈ wr ∨ ∃ o, h₀.get? b = some o)
    (hlive : ∀ i h, St i h → ∀ b ∈ wr, ∃ o, h.get? b = some o) (hnw : ∀ p ∈ news, p.1 ∉ wr) (hst : St 0 s.heap) (F : Fr h₀ env.locals s.heap m) (N : News h₀ env.locals s.heap news)
    (J : Nat → (Str → Option Value) → List (Addr × Obj) → Prop) (h0 : J 0 m news)
    (turn : ∀ i v m₁ nx h tk own, i < n → P i v → OwnOff own (nx.map (·.1)) → J i m₁ nx → St (i + 1) h → (∀ b ∈ wr, ∀ o, h.get? b = some o → (b, o) ∈ own) → Fr h₀ env.locals h m₁ → News h₀ env.locals h (nx ++ own) →
      wpAny (model prog w) A (storeName env x v) (fun _ s₂ => wpAny (model prog w) A (execs body env) (InvPostG h₀ env.locals (J (i + 1)) own { s with heap := h, toks := tk } Q) E s₂) E { s with heap := h, toks := tk })
    (done : ∀ m₁ nx h tk, J n m₁ nx → Fr h₀ env.locals h m₁ → News h₀ env.locals h nx → Q .next { s with heap := h, toks := tk }) :
    codeAny (model prog w) A (.forLoop (.Name x px) (.ref I) body [] env) (fun r s' => match r with | .ok f => Q f s' | .error e => cameBackBy (model prog w) A env E e s') s := by
  have hLw : env.locals ∉ wr := fun h => hLf (W.sub _ h)
  have old : ∀ b o, h₀.get? b = some o → b ∉ wr := fun b o e hb => by rw [hwr b hb] at e; cases e
  refine codeAny_forLoop
    (fun k s' => ∃ h' tk m' news' i, s' = { s with heap := h', toks := tk } ∧ St i h' ∧ Fr h₀ env.locals h' m' ∧ News h₀ env.locals h' news' ∧ (∀ p ∈ news', p.1 ∉ wr) ∧ J i m' news' ∧ i ≤ n ∧ k = n + 1 - i) ?_ (n + 1)
    ⟨s.heap, s.toks, m, news, 0, rfl, hst, F, N, hnw, h0, Nat.zero_le _, rfl⟩
  rintro k s' ⟨h', tk, m', news', i, rfl, hst', F', N', hnw', hJ, hi, rfl⟩
  have next : ∀ h₁ : Heap, (∀ b o, b ∉ wr → h'.get? b = some o → h₁.get? b = some o) → Fr h₀ env.locals h₁ m' ∧ News h₀ env.locals h₁ news' := fun h₁ hk₁ =>
    ⟨⟨F'.ns.at' fun o e => hk₁ _ o hLw e, fun b o e => hk₁ b o (old b o e) (F'.keep b o e), F'.above⟩, fun p hp => ⟨hk₁ _ _ (hnw' p hp) (N' p hp).1, (N' p hp).2⟩⟩
  by_cases hlt : i < n
  · refine W.item i _ _ _ hlt hst' fun v h₁ tk₁ hP hst₁ hk₁ => ?_
    obtain ⟨F₁, N₁⟩ := next h₁ hk₁
    have Nown : News h₀ env.locals h₁ (ownOf h₀ wr h₁) := news_ownOf hLw
    have hall : ∀ b ∈ wr, ∀ o, h₁.get? b = some o → (b, o) ∈ ownOf h₀ wr h₁ := fun b hb o e => mem_ownOf hb (hwr b hb) e
    have hoff : OwnOff (ownOf h₀ wr h₁) (news'.map (·.1)) := by
      intro p hp b hb e
      obtain ⟨q, hq, rfl⟩ := List.mem_map.mp hb
      exact hnw' q hq (e ▸ ownOf_sub p hp)
    refine wpAny_assign_Name ?_
    have T := turn i v m' news' h₁ tk₁ (ownOf h₀ wr h₁) hlt hP hoff hJ hst₁ hall F₁ (N₁.append Nown)
    refine wpAny_mono (wpAny_passesOwn hE T) (fun _ s₂ h₂ => ?_) fun _ _ e => e
    refine wpAny_mono (wpAny_passesOwn hE h₂) (fun f s₃ h₃ => ?_) fun _ _ e => e
    have fin : InvEndG h₀ env.locals (J (i + 1)) (ownOf h₀ wr h₁) { s with heap := h₁, toks := tk₁ } s₃ →
        ∃ m, m < n + 1 - i ∧ ∃ h' tk m' news' j, s₃ = { s with heap := h', toks := tk } ∧ St j h' ∧ Fr h₀ env.locals h' m' ∧ News h₀ env.locals h' news' ∧ (∀ p ∈ news', p.1 ∉ wr) ∧ J j m' news' ∧ j ≤ n ∧ m = n + 1 - j := by
      rintro ⟨h₃', tk₃, m₃, n₃, nx, rfl, F₃, N₃, hnx, hown, ho, hJ₃⟩
      refine ⟨n + 1 - (i + 1), by omega, h₃', tk₃, m₃, nx, i + 1, rfl, ?_, F₃, fun p hp => N₃ p (hnx p hp), ?_, hJ₃, hlt, rfl⟩
      · refine W.frame _ _ _ hst₁ fun b hb o e => ?_
        rcases hfp b hb with hb' | ⟨o₀, ho₀⟩
        · exact (N₃ _ (hown _ (hall b hb' o e))).1
        · have : o₀ = o := by have := F₁.keep b o₀ ho₀; rw [e] at this; exact (Option.some.inj this).symm
          exact this ▸ F₃.keep b o₀ ho₀
      · intro p hp hb
        obtain ⟨o, e⟩ := hlive _ _ hst₁ _ hb
        exact ho _ (hall _ hb o e) p.1 (List.mem_map.mpr ⟨p, hp, rfl⟩) rfl
    cases f with
    | ret v => exact h₃
    | brk => exact h₃
    | next => exact fin h₃
    | cont => exact fin h₃
  · have hin : i = n := by omega
    subst hin
    refine W.done _ _ _ hst' fun h₁ tk₁ hk₁ => wpAny_execs_nil ?_
    obtain ⟨F₁, N₁⟩ := next h₁ hk₁
    exact done m' news' h₁ tk₁ hJ F₁ N₁

theorem Walks.wider {I : Addr} {fp wr : List Addr} {n : Nat} {P : Nat → Value → Prop} {St : Nat → Heap → Prop} (W : Walks prog w A I fp wr n P St) : Walks prog w A I fp fp n P St where
  sub := fun _ h => h
  frame := W.frame
  item := fun i s Q E hi st hQ => W.item i s Q E hi st fun v h' tk hP hst hk => hQ v h' tk hP hst fun b o hb e => hk b o (fun q => hb (W.sub _ q)) e
  done := fun s Q E st hQ => W.done s Q E st fun h' tk hk => hQ h' tk fun b o hb e => hk b o (fun q => hb (W.sub _ q)) e
  self := W.self

/-- the frame's names but those stored are as they were -/
def SameMap (stored : List Str) (m m' : Str → Option Value) : Prop := ∀ z, stored.contains z = false → m' z = m z
theorem SameMap.fr {stored : List Str} {m m' : Str → Option Value} {L : Addr} {h : Heap} (e : SameMap stored m m') (F : Fr h₀ L h m') : Fr h₀ L h (fun y => if stored.contains y then m' y else m y) := by
  have : (fun y => if stored.contains y then m' y else m y) = m' := by
    funext y
    cases hy : stored.contains y with
    | true => rfl
    | false => exact (e y hy).symm
  rw [this]; exact F
def MJ (stored : List Str) (m : Str → Option Value) (J : Nat → List (Addr × Obj) → Prop) (i : Nat) (m' : Str → Option Value) (nx : List (Addr × Obj)) : Prop := SameMap stored m m' ∧ J i nx

/-- a for over a list that the call has made: its entry stands apart from the ledger -/
theorem for_list {x : Str} {px : Pos} {body : List Stmt} {Q : Flow → Shared → Prop} {E : Value → Shared → Prop} {l : Addr} {vs : List Value} {m : Str → Option Value} {news : List (Addr × Obj)}
    (hE : PassesOwn (model prog w) A env E) (hh : A.handled = none) (hl : s.heap.IsList l vs.toArray) (hlL : l ≠ env.locals) (hl0 : h₀.get? l = none) (hnl : ∀ p ∈ news, p.1 ≠ l)
    (F : Fr h₀ env.locals s.heap m) (N : News h₀ env.locals s.heap news)
    (stored : List Str) (J : Nat → List (Addr × Obj) → Prop) (h0 : J 0 news)
    (turn : ∀ i v (u : Str → Option Value) nx h tk own, vs[i]? = some v → OwnOff own (nx.map (·.1)) → J i nx → Fr h₀ env.locals h (fun y => if stored.contains y then u y else m y) → News h₀ env.locals h (nx ++ own) →
      wpAny (model prog w) A (storeName env x v) (fun _ s₂ => wpAny (model prog w) A (execs body env) (InvPostG h₀ env.locals (MJ stored m J (i + 1)) own { s with heap := h, toks := tk } Q) E s₂) E { s with heap := h, toks := tk })
    (done : ∀ (u : Str → Option Value) nx h tk, J vs.length nx → Fr h₀ env.locals h (fun y => if stored.contains y then u y else m y) → News h₀ env.locals h nx → Q .next { s with heap := h, toks := tk }) :
    wpAny (model prog w) A (pyIter (.ref l)) (fun it s₂ => codeAny (model prog w) A (.forLoop (.Name x px) it body [] env) (fun r s' => match r with | .ok f => Q f s' | .error e => cameBackBy (model prog w) A env E e s') s₂) E s := by
  obtain ⟨ol, hol, hrest⟩ := id hl
  have hlt : l < s.heap.objs.size := Heap.lt_size hol
  refine wpAny_pyIter_list hl ?_
  have W := Walks.wider (Walks.list (prog := prog) (w := w) hh s.heap.objs.size l (Nat.ne_of_lt hlt) vs.toArray)
  rw [List.size_toArray] at W
  have hI0 : h₀.get? s.heap.objs.size = none := next_is_new F
  refine for_walks (s := { s with heap := s.heap.push _ }) (m := m) (news := news) (h₀ := h₀) W hE ?_ ?_ (fun b hb => .inl hb) ?_ ?_
    ⟨⟨_, Heap.get?_push_size _ rfl, rfl, rfl⟩, hl.at fun o e => Heap.get?_push_of_some _ e⟩ (F.push _) (fun p hp => ⟨Heap.get?_push_of_some _ (N p hp).1, (N p hp).2⟩) (MJ stored m J) ⟨fun _ _ => rfl, h0⟩ ?_ ?_
  · intro hm
    rcases List.mem_cons.mp hm with e | hm
    · exact absurd F.ns.lt (e ▸ Nat.lt_irrefl _)
    · exact hlL (List.mem_singleton.mp hm).symm
  · intro b hb
    rcases List.mem_cons.mp hb with e | hb
    · rw [e]; exact hI0
    · rw [List.mem_singleton.mp hb]; exact hl0
  · rintro i h ⟨⟨o, ho, _⟩, ⟨o', ho', _⟩⟩ b hb
    rcases List.mem_cons.mp hb with e | hb
    · exact ⟨o, e ▸ ho⟩
    · exact ⟨o', (List.mem_singleton.mp hb) ▸ ho'⟩
  · intro p hp hb
    rcases List.mem_cons.mp hb with e | hb
    · exact absurd (Heap.lt_size (N p hp).1) (e ▸ Nat.lt_irrefl _)
    · exact hnl p hp (List.mem_singleton.mp hb)
  · intro i v m₁ nx h tk own hi hP hoff hJ _ _ F₁ N₁
    exact turn i v m₁ nx h tk own (by simpa using hP) hoff hJ.2 (hJ.1.fr F₁) N₁
  · intro m₁ nx h tk hJ F₁ N₁
    exact done m₁ nx h tk hJ.2 (hJ.1.fr F₁) N₁

/-- a for over a list that stood before the frame -/
theorem for_old {x : Str} {px : Pos} {body : List Stmt} {Q : Flow → Shared → Prop} {E : Value → Shared → Prop} {l : Addr} {vs : List Value} {m : Str → Option Value} {news : List (Addr × Obj)}
    (hE : PassesOwn (model prog w) A env E) (hh : A.handled = none) (hl : h₀.IsList l vs.toArray)
    (F : Fr h₀ env.locals s.heap m) (N : News h₀ env.locals s.heap news)
    (stored : List Str) (J : Nat → List (Addr × Obj) → Prop) (h0 : J 0 news)
    (turn : ∀ i v (u : Str → Option Value) nx h tk own, vs[i]? = some v → OwnOff own (nx.map (·.1)) → J i nx → Fr h₀ env.locals h (fun y => if stored.contains y then u y else m y) → News h₀ env.locals h (nx ++ own) →
      wpAny (model prog w) A (storeName env x v) (fun _ s₂ => wpAny (model prog w) A (execs body env) (InvPostG h₀ env.locals (MJ stored m J (i + 1)) own { s with heap := h, toks := tk } Q) E s₂) E { s with heap := h, toks := tk })
    (done : ∀ (u : Str → Option Value) nx h tk, J vs.length nx → Fr h₀ env.locals h (fun y => if stored.contains y then u y else m y) → News h₀ env.locals h nx → Q .next { s with heap := h, toks := tk }) :
    wpAny (model prog w) A (pyIter (.ref l)) (fun it s₂ => codeAny (model prog w) A (.forLoop (.Name x px) it body [] env) (fun r s' => match r with | .ok f => Q f s' | .error e => cameBackBy (model prog w) A env E e s') s₂) E s := by
  have hls : s.heap.IsList l vs.toArray := hl.at fun o e => F.keep l o e
  obtain ⟨ol, hol, _⟩ := id hl
  have hlt : l < h₀.objs.size := Heap.lt_size hol
  have hne : l ≠ s.heap.objs.size := Nat.ne_of_lt (Nat.lt_trans (Nat.lt_of_lt_of_le hlt F.above) F.ns.lt)
  refine wpAny_pyIter_list hls ?_
  have W := Walks.list (prog := prog) (w := w) hh s.heap.objs.size l hne vs.toArray
  rw [List.size_toArray] at W
  refine for_walks (s := { s with heap := s.heap.push _ }) (m := m) (news := news) (h₀ := h₀) W hE ?_ ?_ ?_ ?_ ?_
    ⟨⟨_, Heap.get?_push_size _ rfl, rfl, rfl⟩, hls.at fun o e => Heap.get?_push_of_some _ e⟩ (F.push _) (fun p hp => ⟨Heap.get?_push_of_some _ (N p hp).1, (N p hp).2⟩) (MJ stored m J) ⟨fun _ _ => rfl, h0⟩ ?_ ?_
  · intro hm
    rcases List.mem_cons.mp hm with e | hm
    · exact absurd F.ns.lt (e ▸ Nat.lt_irrefl _)
    · exact absurd (Nat.lt_of_lt_of_le hlt F.above) ((List.mem_singleton.mp hm) ▸ Nat.lt_irrefl _)
  · intro b hb
    rw [List.mem_singleton.mp hb]
    exact next_is_new F
  · intro b hb
    rcases List.mem_cons.mp hb with e | hb
    · exact .inl (by simp [e])
    · exact .inr ⟨ol, (List.mem_singleton.mp hb) ▸ hol⟩
  · rintro i h ⟨⟨o, ho, _⟩, _⟩ b hb
    exact ⟨o, (List.mem_singleton.mp hb) ▸ ho⟩
  · intro p hp hb
    exact absurd (Heap.lt_size (N p hp).1) ((List.mem_singleton.mp hb) ▸ Nat.lt_irrefl _)
  · intro i v m₁ nx h tk own hi hP hoff hJ _ _ F₁ N₁
    exact turn i v m₁ nx h tk own (by simpa using hP) hoff hJ.2 (hJ.1.fr F₁) N₁
  · intro m₁ nx h tk hJ F₁ N₁
    exact done m₁ nx h tk hJ.2 (hJ.1.fr F₁) N₁

/-- a for over a range -/
theorem for_range {x : Str} {px : Pos} {body : List Stmt} {Q : Flow → Shared → Prop} {E : Value → Shared → Prop} {r : Addr} {a b : Int} {t u v : Tok} {n : Nat} {m : Str → Option Value} {news : List (Addr × Obj)}
    (hE : PassesOwn (model prog w) A env E) (hh : A.handled = none) (hr : IsRange s.heap r a b 1 t u v) (hsmall : Builtin.Range.small a b 1 = true) (hn : Builtin.Range.rangeSize a b 1 = (n : Int))
    (F : Fr h₀ env.locals s.heap m) (N : News h₀ env.locals s.heap news)
    (stored : List Str) (J : Nat → List (Addr × Obj) → Prop) (h0 : J 0 news)
    (turn : ∀ (i : Nat) tv (u : Str → Option Value) nx h tk own, i < n → OwnOff own (nx.map (·.1)) → J i nx → Fr h₀ env.locals h (fun y => if stored.contains y then u y else m y) → News h₀ env.locals h (nx ++ own) →
      wpAny (model prog w) A (storeName env x (.int (a + i) tv)) (fun _ s₂ => wpAny (model prog w) A (execs body env) (InvPostG h₀ env.locals (MJ stored m J (i + 1)) own { s with heap := h, toks := tk } Q) E s₂) E { s with heap := h, toks := tk })
    (done : ∀ (u : Str → Option Value) nx h tk, J n nx → Fr h₀ env.locals h (fun y => if stored.contains y then u y else m y) → News h₀ env.locals h nx → Q .next { s with heap := h, toks := tk }) :
    wpAny (model prog w) A (pyIter (.ref r)) (fun it s₂ => codeAny (model prog w) A (.forLoop (.Name x px) it body [] env) (fun r s' => match r with | .ok f => Q f s' | .error e => cameBackBy (model prog w) A env E e s') s₂) E s := by
  refine wpAny_pyIter_range hr hsmall ?_
  have W := Walks.range (prog := prog) (w := w) (A := A) hh s.heap.objs.size a 1 n
  refine for_walks (s := { s with heap := s.heap.push _ }) (m := m) (news := news) (h₀ := h₀) W hE ?_ ?_ (fun b hb => .inl hb) ?_ ?_ ?_ (F.push _) (fun p hp => ⟨Heap.get?_push_of_some _ (N p hp).1, (N p hp).2⟩) (MJ stored m J) ⟨fun _ _ => rfl, h0⟩ ?_ ?_
  · intro hm
    exact absurd F.ns.lt ((List.mem_singleton.mp hm) ▸ Nat.lt_irrefl _)
  · intro b hb
    rw [List.mem_singleton.mp hb]
    exact next_is_new F
  · rintro i h ho b hb
    exact ⟨_, (List.mem_singleton.mp hb) ▸ ho⟩
  · intro p hp hb
    exact absurd (Heap.lt_size (N p hp).1) ((List.mem_singleton.mp hb) ▸ Nat.lt_irrefl _)
  · show IsRangeIter _ _ _ _ _
    have := Heap.get?_push_size s.heap (o := { cls := .type "range_iterator", data := .fields #[rawInt a, rawInt (Builtin.Range.rangeSize a b 1), rawInt 1] }) rfl
    simpa [IsRangeIter, hn] using this
  · rintro i v m₁ nx h tk own hi ⟨tv, rfl⟩ hoff hJ _ _ F₁ N₁
    have := turn i tv m₁ nx h tk own hi hoff hJ.2 (hJ.1.fr F₁) N₁
    simpa using this
  · intro m₁ nx h tk hJ F₁ N₁
    exact done m₁ nx h tk hJ.2 (hJ.1.fr F₁) N₁
end

/- the frames of the callers, over the state's own heap; what the callee may change stands in ds -/
section
variable {prog : Program} {w : World} {A : Around} {s : Shared} {base : Heap} {outs : List Env} {ds : List (Addr × Obj)}
  {R : Result → Shared → Prop} {name qual : Str} {params : Arguments} {body : List Stmt} {scope : Scope} {cl : List (Str × Addr)} {dV kV doc pm cdv ct : Value} {an : Option Addr} {fo : Obj} {f : Addr} {args : Args} {binds : List (Str × Value)}

theorem groundG (B : Below A base outs s.heap) (D : ∀ p ∈ ds, s.heap.get? p.1 = some p.2 ∧ base.get? p.1 = none) (hfr : ∀ env ∈ outs, ∀ p ∈ ds, env.frame ≠ some p.1) :
    Below A base outs (hideAll s.heap (ds.map (·.1))) := by
  refine ⟨B.stack, fun b o e => hideAll_get _ (B.stays b o e) fun q => ?_, funFrames_hideAll B.frames fun env he b hb hf => ?_⟩
  · obtain ⟨p, hp, rfl⟩ := List.mem_map.mp q
    rw [(D p hp).2] at e; cases e
  · obtain ⟨p, hp, rfl⟩ := List.mem_map.mp hb
    exact hfr env he p hp hf

theorem callG (B : Below A base outs s.heap) (D : ∀ p ∈ ds, s.heap.get? p.1 = some p.2 ∧ base.get? p.1 = none) (hfr : ∀ env ∈ outs, ∀ p ∈ ds, env.frame ≠ some p.1) (hlim : base.NoLimit)
    (ho : s.heap.get? f = some fo) (hd : fo.data = .func (fnX name qual params body scope cl dV kV doc pm an cdv ct)) (hcd : s.heap.CodeRec cdv qual) (hroom : A.depth < recursionLimit)
    (hbind : BindsTo s (fnX name qual params body scope cl dV kV doc pm an cdv ct) args binds) (hloc : ∀ y ∈ binds, scope.names.lookup y.1 = some .local)
    (h : ∀ g L' h₁, g = hideAll s.heap (ds.map (·.1)) → L' = s.heap.objs.size → Fr g L' h₁ (fun y => binds.reverse.lookup y) → News g L' h₁ ds → Below A base outs g → (∀ p ∈ ds, p.1 < L') →
      wpAny (model prog w) (A.deeper (envX qual scope L' f cdv cl)) (execs body (envX qual scope L' f cdv cl))
        (fun fl s' => R (.ok (.ret (match fl with | .ret v => v | _ => .none))) s')
        (fun e s' => wpAny (model prog w) (A.deeper (envX qual scope L' f cdv cl)) (leaving (envX qual scope L' f cdv cl) e) (fun _ s'' => R (.error e) s'') (fun e' s'' => R (.error e') s'') s')
        { s with heap := h₁, toks := s.toks + binds.length })
    (hcell : ∀ x ∈ scope.names, x.2 ≠ .cell) (hco : scope.isCoroutine = false := by rfl) (hgen : scope.isGenerator = false := by rfl) (hk : scope.kind = .function := by rfl) : codeAny (model prog w) A (.call (.ref f) args) R s := by
  have BG := groundG B D hfr
  refine codeAny_call_def (fd := fnX name qual params body scope cl dV kV doc pm an cdv ct) (body := body) (binds := binds) hroom ho hd (hlim.keeps B.stays) hcd rfl hbind hcell hloc (fun h₁ hns hk₁ => ?_) hco hgen hk
  exact h _ _ h₁ rfl rfl ⟨hns, fun b o e => hk₁ b o (of_hideAll _ e), Nat.le_of_eq (hideAll_size _ _)⟩
    (fun p hp => ⟨hk₁ _ _ (D p hp).1, Nat.ne_of_lt (Heap.lt_size (D p hp).1), hideAll_none _ (List.mem_map_of_mem hp)⟩) BG (fun p hp => Heap.lt_size (D p hp).1)

theorem callGC (B : Below A base outs s.heap) (D : ∀ p ∈ ds, s.heap.get? p.1 = some p.2 ∧ base.get? p.1 = none) (hfr : ∀ env ∈ outs, ∀ p ∈ ds, env.frame ≠ some p.1) (hlim : base.NoLimit)
    (ho : s.heap.get? f = some fo) (hd : fo.data = .func (fnX name qual params body scope [] dV kV doc pm an cdv ct)) (hcd : s.heap.CodeRec cdv qual) (hroom : A.depth < recursionLimit)
    (hbind : BindsTo s (fnX name qual params body scope [] dV kV doc pm an cdv ct) args binds)
    (hkind : (binds.all fun y => scope.names.lookup y.1 == some .local || scope.names.lookup y.1 == some .cell) = true) (hnd : ((cellsFrom 0 scope.names []).map (·.1)).Nodup)
    (h : ∀ g L' h₁ tk cells, g = hideAll s.heap (ds.map (·.1)) → L' = s.heap.objs.size → Fr g L' h₁ (bindL (envOfC qual scope L' f cdv).kindOf binds fun _ => none) → News g L' h₁ (cells ++ ds) →
      CellsAre (bindC (envOfC qual scope L' f cdv).kindOf binds fun _ => none) (cellsFrom (L' + 1) scope.names []) cells → Below A base outs g → (∀ p ∈ ds, p.1 < L') →
      wpAny (model prog w) (A.deeper (envOfC qual scope L' f cdv)) (execs body (envOfC qual scope L' f cdv))
        (fun fl s' => R (.ok (.ret (match fl with | .ret v => v | _ => .none))) s')
        (fun e s' => wpAny (model prog w) (A.deeper (envOfC qual scope L' f cdv)) (leaving (envOfC qual scope L' f cdv) e) (fun _ s'' => R (.error e) s'') (fun e' s'' => R (.error e') s'') s')
        { s with heap := h₁, toks := tk })
    (hco : scope.isCoroutine = false := by rfl) (hgen : scope.isGenerator = false := by rfl) (hk : scope.kind = .function := by rfl) : codeAny (model prog w) A (.call (.ref f) args) R s := by
  have BG := groundG B D hfr
  refine codeAny_call_function hroom ho hd hco hgen rfl hcd (hbind _ _ _ _ ?_)
  refine wpAny_newFunctionEnv_cells hk (kindsX hkind _) fun env' he s' x => ?_
  subst he
  refine ⟨(hlim.keeps B.stays).keeps x.toInCall.keep, codeAny_func ?_⟩
  obtain ⟨h₁, tk, rfl, _⟩ := x.done
  have hk₁ := x.toInCall.keep
  obtain ⟨cells, NC, Y⟩ := Cl.news (h₀ := s.heap) (Nat.le_refl _) fun n c hm => ⟨x.cell n c (lookup_of_mem_nodup (cellsFrom_names scope.names 0 (s.heap.objs.size + 1) [] [] rfl ▸ hnd) hm), x.above n c hm⟩
  refine h _ _ h₁ tk cells rfl rfl ⟨x.toInCall.ns, fun b o e => hk₁ b o (of_hideAll _ e), Nat.le_of_eq (hideAll_size _ _)⟩ (fun p hp => ?_) Y BG (fun p hp => Heap.lt_size (D p hp).1)
  rcases List.mem_append.mp hp with hp | hp
  · refine ⟨(NC p hp).1, (NC p hp).2.1, ?_⟩
    cases q : (hideAll s.heap (ds.map (·.1))).get? p.1 with
    | none => rfl
    | some o => have := of_hideAll _ q; rw [(NC p hp).2.2] at this; cases this
  · exact ⟨hk₁ _ _ (D p hp).1, Nat.ne_of_lt (Heap.lt_size (D p hp).1), hideAll_none _ (List.mem_map_of_mem hp)⟩
end

section
variable {prog : Program} {w : World} {A : Around} {s : Shared} {base : Heap} {outs : List Env} {ds : List (Addr × Obj)} {K : Frag} {p : Program} {loose : List Str} {mean : ExcName → Option Value} {mg mb : Str → Option Value}
  {R : Result → Shared → Prop} {name qual : Str} {params : Arguments} {body : List Stmt} {scope : Scope} {dV kV doc pm cdv ct oc : Value} {an od : Option Addr} {osl : Array (Option Value)} {f : Addr} {args : Args} {binds : List (Str × Value)}
theorem callK (X : K.In base) (T : Top p loose mean mg mb base) (B : Below A base outs s.heap) (D : ∀ p ∈ ds, s.heap.get? p.1 = some p.2 ∧ base.get? p.1 = none) (hfr : ∀ env ∈ outs, ∀ p ∈ ds, env.frame ≠ some p.1)
    (ho : K.lookup f = some ⟨oc, od, .func (fnOf name qual params body scope dV kV doc pm an cdv ct), osl⟩) (hcd : codeIn K cdv qual = true) (hroom : A.depth < recursionLimit)
    (hbind : BindsTo s (fnOf name qual params body scope dV kV doc pm an cdv ct) args binds) (hloc : ∀ y ∈ binds, scope.names.lookup y.1 = some .local)
    (h : ∀ g L' h₁, g = hideAll s.heap (ds.map (·.1)) → L' = s.heap.objs.size → Fr g L' h₁ (fun y => binds.reverse.lookup y) → News g L' h₁ ds → Below A base outs g → (∀ p ∈ ds, p.1 < L') → K.In g → Top p loose mean mg mb g →
      wpAny (model prog w) (A.deeper (envOf qual scope L' f cdv)) (execs body (envOf qual scope L' f cdv))
        (fun fl s' => R (.ok (.ret (match fl with | .ret v => v | _ => .none))) s')
        (fun e s' => wpAny (model prog w) (A.deeper (envOf qual scope L' f cdv)) (leaving (envOf qual scope L' f cdv) e) (fun _ s'' => R (.error e) s'') (fun e' s'' => R (.error e') s'') s')
        { s with heap := h₁, toks := s.toks + binds.length })
    (hco : scope.isCoroutine = false) (hgen : scope.isGenerator = false) (hk : scope.kind = .function) (hcell : ∀ x ∈ scope.names, x.2 ≠ .cell) : codeAny (model prog w) A (.call (.ref f) args) R s :=
  callG (cl := []) B D hfr T.nolimit (B.stays _ _ (X _ _ ho)) rfl (codeRec_of (X.keeps B.stays) hcd) hroom hbind hloc (fun g L' h₁ e1 e2 F N B' l => h g L' h₁ e1 e2 F N B' l (X.keeps B'.stays) (T.keeps B'.stays)) hcell hco hgen hk
theorem callKC (X : K.In base) (T : Top p loose mean mg mb base) (B : Below A base outs s.heap) (D : ∀ p ∈ ds, s.heap.get? p.1 = some p.2 ∧ base.get? p.1 = none) (hfr : ∀ env ∈ outs, ∀ p ∈ ds, env.frame ≠ some p.1)
    (ho : K.lookup f = some ⟨oc, od, .func (fnOf name qual params body scope dV kV doc pm an cdv ct), osl⟩) (hcd : codeIn K cdv qual = true) (hroom : A.depth < recursionLimit)
    (hbind : BindsTo s (fnOf name qual params body scope dV kV doc pm an cdv ct) args binds)
    (hkind : (binds.all fun y => scope.names.lookup y.1 == some .local || scope.names.lookup y.1 == some .cell) = true) (hnd : ((cellsFrom 0 scope.names []).map (·.1)).Nodup)
    (h : ∀ g L' h₁ tk cells, g = hideAll s.heap (ds.map (·.1)) → L' = s.heap.objs.size → Fr g L' h₁ (bindL (envOfC qual scope L' f cdv).kindOf binds fun _ => none) → News g L' h₁ (cells ++ ds) →
      CellsAre (bindC (envOfC qual scope L' f cdv).kindOf binds fun _ => none) (cellsFrom (L' + 1) scope.names []) cells → Below A base outs g → (∀ p ∈ ds, p.1 < L') → K.In g → Top p loose mean mg mb g →
      wpAny (model prog w) (A.deeper (envOfC qual scope L' f cdv)) (execs body (envOfC qual scope L' f cdv))
        (fun fl s' => R (.ok (.ret (match fl with | .ret v => v | _ => .none))) s')
        (fun e s' => wpAny (model prog w) (A.deeper (envOfC qual scope L' f cdv)) (leaving (envOfC qual scope L' f cdv) e) (fun _ s'' => R (.error e) s'') (fun e' s'' => R (.error e') s'') s')
        { s with heap := h₁, toks := tk })
    (hco : scope.isCoroutine = false) (hgen : scope.isGenerator = false) (hk : scope.kind = .function) : codeAny (model prog w) A (.call (.ref f) args) R s :=
  callGC B D hfr T.nolimit (B.stays _ _ (X _ _ ho)) rfl (codeRec_of (X.keeps B.stays) hcd) hroom hbind hkind hnd (fun g L' h₁ tk cells e1 e2 F N Y B' l => h g L' h₁ tk cells e1 e2 F N Y B' l (X.keeps B'.stays) (T.keeps B'.stays)) hco hgen hk
end

/-- what a contract keeps: every object but those at ds -/
def KeepsBut (ds : List Addr) (h h' : Heap) : Prop := ∀ b o, b ∉ ds → h.get? b = some o → h'.get? b = some o
theorem KeepsBut.fr {ds : List Addr} {h₀ h h' : Heap} {L : Addr} {m : Str → Option Value} (k : KeepsBut ds h h') (F : Fr h₀ L h m) (hL : L ∉ ds) (h0 : ∀ d ∈ ds, h₀.get? d = none) : Fr h₀ L h' m :=
  ⟨F.ns.at' fun o e => k _ o hL e, fun b o e => k b o (fun q => by rw [h0 b q] at e; cases e) (F.keep b o e), F.above⟩
theorem KeepsBut.news {ds : List Addr} {h₀ h h' : Heap} {L : Addr} {news : List (Addr × Obj)} (k : KeepsBut ds h h') (N : News h₀ L h news) (hd : ∀ p ∈ news, p.1 ∉ ds) : News h₀ L h' news :=
  fun p hp => ⟨k _ _ (hd p hp) (N p hp).1, (N p hp).2⟩
end
end Mine
namespace Mine
section
open_top hd1 for PySem.Challenge.rw_dw0036_01
end
end Mine
namespace Mine
section
noncomputable abbrev loose1 : List Str := looseW hd1.view_39 [] ++ (recsOf hd1.view_39).map (·.name) ++ (litsOf hd1.view_39).map (·.1) ++ (clssOf hd1.view_39 (looseW hd1.view_39 [])).map (·.name)

def deed1 (n : Int) : Option (List Int) := if n.fmod 3 = 0 then some ((rangeKs 0 ((n.fdiv 3).fmod 4 - 0).toNat).map fun k => ((n.fdiv 12).fdiv (256 ^ k.toNat)).fmod 256) else none
def deedsOf (ns : List Int) : List (Option (List Int)) := some [255, (ns.length : Int)] :: ns.map deed1 ++ [none, none, none, none]
/-- two lists, item by item -/
inductive All2 {α β : Type} (R : α → β → Prop) : List α → List β → Prop
  | nil : All2 R [] []
  | cons {a b as bs} : R a b → All2 R as bs → All2 R (a :: as) (b :: bs)
theorem All2.length {α β : Type} {R : α → β → Prop} {as : List α} {bs : List β} (h : All2 R as bs) : as.length = bs.length := by
  induction h with
  | nil => rfl
  | cons _ _ ih => simp [ih]
theorem All2.mono {α β : Type} {R R' : α → β → Prop} {as : List α} {bs : List β} (h : All2 R as bs) (k : ∀ a b, R a b → R' a b) : All2 R' as bs := by
  induction h with
  | nil => exact .nil
  | cons x _ ih => exact .cons (k _ _ x) ih
theorem All2.append {α β : Type} {R : α → β → Prop} {as cs : List α} {bs ds : List β} (h : All2 R as bs) (k : All2 R cs ds) : All2 R (as ++ cs) (bs ++ ds) := by
  induction h with
  | nil => exact k
  | cons x _ ih => exact .cons x ih
theorem All2.snoc {α β : Type} {R : α → β → Prop} {as : List α} {bs : List β} {a : α} {b : β} (h : All2 R as bs) (k : R a b) : All2 R (as ++ [a]) (bs ++ [b]) := by
  induction h with
  | nil => exact .cons k .nil
  | cons x _ ih => exact .cons x ih
/-- a deed as the ledger bears it -/
inductive DeedIn (news : List (Addr × Obj)) : Value → Option (List Int) → Prop
  | none : DeedIn news .none none
  | some {a : Addr} {vs : List Value} {n : Nat} {ns : List Int} : (a, W.listOf vs.toArray n) ∈ news → IntsAre vs ns → DeedIn news (.ref a) (some ns)
theorem DeedIn.mono {news news' : List (Addr × Obj)} {v : Value} {d : Option (List Int)} (h : DeedIn news v d) (k : ∀ p ∈ news, p ∈ news') : DeedIn news' v d := by
  cases h with
  | none => exact .none
  | some m i => exact .some (k _ m) i

def DJ (lD l1 c : Addr) (f0 : Obj) (ns first : List Int) (i : Nat) (nx : List (Addr × Obj)) : Prop :=
  ∃ vals k oc v tl, nx = (lD, W.listOf (List.toArray vals) k) :: (l1, f0) :: (c, oc) :: tl ∧ oc.data = .cell v ∧ OwnOff tl [lD, l1, c] ∧ All2 (DeedIn ((l1, f0) :: tl)) vals (some first :: (ns.take i).map deed1)

theorem pow256_ne (k : Int) : (256 : Int) ^ k.toNat ≠ 0 := Int.ne_of_gt (pow_pos_of (by decide) _)
theorem pow256_py (a : Int) {k : Int} (h0 : 0 ≤ k) (h : k < 4) : Builtin.divisionGoesByPylong a ((256 : Int) ^ k.toNat) = false := by
  rcases (by omega : k = 0 ∨ k = 1 ∨ k = 2 ∨ k = 3) with rfl | rfl | rfl | rfl <;> exact PyProof.noPylong_of_log2 (by decide +kernel)
local macro_rules | `(tactic| walk_at "binaryOp FloorDiv int int") => `(tactic| (k_here; (with_reducible refine floordiv_int (pow256_ne _) ?_ (Or.inl (pow256_py _ ?pl1 ?pl2))); (case pl1 => omega); (case pl2 => omega)))

theorem deeds_ok {w : World} {mg mb : Str → Option Value} {base : Heap} {mean : ExcName → Option Value} {env₀ : Env} {outs : List Env} {s : Shared} {D : Addr} {vs : List Value} {ns : List Int} {R : Result → Shared → Prop} :
    (hd1.heap_39 w.params).In base → Top topProg loose1 mean mg mb base → Below (callerA.deeper env₀) base outs s.heap →
    s.heap.IsList D vs.toArray → IntsAre vs ns → ns.length ≤ 60 →
    (∀ h' tk' l vals tl, KeepsBut [] s.heap h' → (∀ p ∈ tl, h'.get? p.1 = some p.2 ∧ s.heap.get? p.1 = none ∧ p.1 ≠ l) → h'.get? l = some (W.listOf (List.toArray vals) 0) → s.heap.get? l = none →
      All2 (DeedIn tl) vals (deedsOf ns) → R (.ok (.ret (.ref l))) { s with heap := h', toks := tk' }) →
    codeAny (model PySem.Challenge.rw_dw0036_01.row.prog w) (callerA.deeper env₀) (.call (.ref 54) ⟨[.ref D], []⟩) R s := by
  w_top off
  k_fill
  intro X T B hl hi hlen hR
  k_dflt (refine' callKC (ds := []) X T B ?d ?fr ?k6 ?k7 ?k8 ?k9 ?kB ?kD ?_ ?c2 ?c3 ?c4; (case k6 => k_is); (case k7 => k_is); (case k8 => k_room); (case k9 => exact BindsTo.of_eq rfl); (case kB => exact rfl); (case kD => decide +kernel); (case c2 => exact rfl); (case c3 => exact rfl); (case c4 => exact rfl); (case d => (intro p hp; cases hp)); (case fr => (intro _ _ p hp; cases hp)))
  intro g' L' h' tk' cells' eg eL F' N' Y' B' l1 X' T'
  refine wpAny_noRaise ?_
  k_cells Y'; (try simp only [List.cons_append, List.nil_append] at N'); (try dsimp only)
  have hl' : g'.IsList D vs.toArray := by subst eg; exact hl
  clear hl X T B
  k_steps
  refine wpAny_For ?_
  k_steps
  rename_i oc dc l1 _ a1 lD _ a2 _ F0 N0
  refine for_old (h₀ := g') PassesOwn.never rfl hl' F0 N0 [] (DJ lD l1 (L' + 1) (W.listOf #[Value.int 255 tk', Value.int (ns.length : Int) (tk' + 1 + 1)] 0) ns [255, (ns.length : Int)]) ?_ ?_ ?_
  · refine ⟨[.ref l1], 0, oc, _, [], rfl, dc, (fun _ h => nomatch h), .cons (.some (vs := [_, _]) (n := 0) (.head _) ?_) .nil⟩
    exact IntsAre.cons _ _ (IntsAre.cons _ _ IntsAre.nil)
  · rintro i v u nx h tk own hv hoff ⟨vals, k, oc', vc, tl, rfl, hoc, htl, hall⟩ F N
    obtain ⟨n, t, rfl, hn⟩ := hi.at i v hv
    have hoff' := hoff
    simp only [List.map_cons, off_adr] at hoff'
    have hoffT : OwnOff (tl ++ own) [lD, l1, L' + 1] := off_app.mpr ⟨htl, off_adr.mpr ⟨hoff'.1, off_adr.mpr ⟨hoff'.2.1, off_adr.mpr ⟨hoff'.2.2.1, off_nil⟩⟩⟩⟩
    clear F0 N0 oc dc
    simp only [List.cons_append] at N
    have hvl : vals.length ≤ 61 := by rw [hall.length]; simp; omega
    have ht : ns.take (i + 1) = ns.take i ++ [n] := by rw [List.take_add_one, hn]; rfl
    k_steps
    · rename_i n3 h3 tk3 t1 u1 v1 _ _ _ _ _ g3 ys hys _ D' _ _ off _ F N
      refine InvEndG.intro (nx := (lD, W.listOf (vals ++ [Value.ref D']).toArray (k + 1)) :: (l1, _) :: (L' + 1, _) :: (D', LCg.lst ys) :: tl) F N ⟨fun z _ => rfl, vals ++ [.ref D'], k + 1, _, _, (D', LCg.lst ys) :: tl, rfl, by assumption, ?_, ?_⟩ ?_ ?_ ?_
      · refine off_cons.mpr ⟨?_, htl⟩
        intro x hx
        simp only [List.mem_cons, List.not_mem_nil, or_false] at hx
        rcases hx with rfl | rfl | rfl
        · exact Ne.symm off.1
        · exact Ne.symm off.2.1
        · exact Ne.symm off.2.2.1
      · rw [ht, List.map_append, ← List.cons_append]
        refine All2.snoc (hall.mono fun a b x => x.mono fun p hp => ?_) ?_
        · rcases List.mem_cons.mp hp with rfl | hp
          · exact .head _
          · exact .tail _ (.tail _ hp)
        · rw [deed1, if_pos (by assumption)]
          exact .some (n := ys.length) (.tail _ (.head _)) hys
      · simp only [List.map_cons, off_adr]
        refine ⟨hoff'.1, hoff'.2.1, hoff'.2.2.1, ?_, hoff'.2.2.2⟩
        intro p hp
        exact off1_mem off.2.2.2 p (List.mem_append_right _ hp)
      · intro p hp
        simp only [List.mem_cons, List.mem_append, ← List.push_toArray] at hp ⊢
        rcases hp with rfl | rfl | rfl | rfl | hp <;> simp [*]
      · intro p hp
        simp only [List.mem_cons, List.mem_append]
        simp [hp]
    · rename_i h3 _ _ F N
      refine InvEndG.intro (nx := (lD, W.listOf (vals ++ [Value.none]).toArray (k + 1)) :: (l1, _) :: (L' + 1, _) :: tl) F N ⟨fun z _ => rfl, vals ++ [.none], k + 1, _, _, tl, rfl, by assumption, htl, ?_⟩ ?_ ?_ ?_
      · rw [ht, List.map_append, ← List.cons_append]
        refine All2.snoc hall ?_
        rw [deed1, if_neg (by assumption)]
        exact .none
      · simp only [List.map_cons, off_adr]
        exact ⟨hoff'.1, hoff'.2.1, hoff'.2.2.1, hoff'.2.2.2⟩
      · intro p hp
        simp only [List.mem_cons, List.mem_append, ← List.push_toArray] at hp ⊢
        rcases hp with rfl | rfl | rfl | hp <;> simp [*]
      · intro p hp
        simp only [List.mem_cons, List.mem_append]
        simp [hp]
  · intro u nx h tk ⟨vals, k, oc', vc, tl, e, hoc, htl, hall⟩ F N
    subst e
    clear F0 N0 oc dc
    have hvl : vals.length ≤ 61 := by rw [hall.length]; simp; omega
    k_steps
    rename_i l4 h1 F1 N1 _ h2 F2 N2
    refine hR h2 _ _ (vals ++ [.none, .none, .none, .none]) ((l1, W.listOf #[Value.int 255 tk', Value.int (ns.length : Int) (tk' + 1 + 1)] 0) :: tl) (fun b o _ e => F2.keep b o (by subst eg; exact e)) (fun p hp => ?_) ?_ ?_ ?_
    · have m1 : p ∈ (l4, W.listOf #[Value.none, Value.none, Value.none, Value.none] 0) :: (lD, W.listOf vals.toArray k) :: (l1, W.listOf #[Value.int 255 tk', Value.int (ns.length : Int) (tk' + 1 + 1)] 0) :: (L' + 1, oc') :: tl := .tail _ (.tail _ (by
        rcases List.mem_cons.mp hp with rfl | hp
        · exact .head _
        · exact .tail _ (.tail _ hp)))
      exact ⟨(N2 p (.tail _ m1)).1, by have := (N2 p (.tail _ m1)).2.2; subst eg; exact this, Nat.ne_of_lt (Heap.lt_size (N1 p m1).1)⟩
    · exact (N2 _ (.head _)).1
    · have := (N2 _ (.head _)).2.2; subst eg; exact this
    · rw [List.take_of_length_le (by rw [hi.length]; exact Nat.le_refl _)] at hall
      exact hall.append (.cons .none (.cons .none (.cons .none (.cons .none .nil))))
end
end Mine
namespace Mine
section
section
variable {prog : Program} {w : World} {A : Around} {E : Value → Shared → Prop} {s : Shared}
theorem last_item {value slice : PySem.Expr} {l : Addr} {vs : List Value} {ns : List Int} {u : Tok} {Q : Value → Shared → Prop} (hl : s.heap.IsList l vs.toArray) (hi : IntsAre vs ns) (hne : ns ≠ []) (h : ∀ t, Q (.int (ns.getLastD 0) t) s)
    (hs : subscripted slice false (.ref l) (.int (-1) u) = operate [.ref l, .int (-1) u] (getItem (.ref l) (.int (-1) u)) := by with_unfolding_all rfl) :
    wpAny (model prog w) A (subscriptTail value slice (.ref l) (.int (-1) u)) Q E s := by
  have hlen := hi.length
  have hpos : 0 < vs.length := by
    rw [hlen]; exact List.length_pos_iff.mpr hne
  obtain ⟨y, t, e, rfl, _⟩ := kpa_ints hi hpos
  refine kde_neg (j := vs.length - 1) hl (by decide) (by decide) ?_ ?_ (h t) hs
  · unfold seqIndex?
    simp
    omega
  · rw [e]
    simp
end

section
variable {prog : Program} {w : World} {A₀ : Around} {E : Value → Shared → Prop} {s' : Shared} {h₀ h : Heap} {outer : List Env} {L a e t : Addr} {m : Str → Option Value} {name : Str} {scope : Scope} {cd : Value} {cl : List (Str × Addr)}
  {vs : List Value} {n : Str} {b₀ : Stmt} {suite : List Stmt} {pos np : Pos} {rest : List ExceptHandler} {Q : Flow → Shared → Prop} {news : List (Addr × Obj)}
  {p : Program} {loose : List Str} {mean : ExcName → Option Value} {mg mb : Str → Option Value} {K : Frag}
/-- an exception that flew into a frame with cells is caught there, under a name -/
theorem caught_X (B₀ : Below A₀ h₀ outer h₀) (F : Fr h₀ L h m) (hsm : h.UpToSlots s'.heap) (R : RaisedK h₀ (envX name scope L a cd cl :: outer) e (.type "ValueError") t vs news s'.heap)
    (X : K.In h₀) (T : TopRead p loose mg mb h₀) (hg : nsIn K mainGlobals (Str.ofString "ValueError") = some none)
    (k : ∀ h' oe ot ws nt tk, Fr h₀ L h' (fun y => if y = n then some (.ref e) else m y) → News h₀ L h' ((e, oe) :: (t, ot) :: news) → oe.cls = .type "ValueError" → oe.data = .fields ws → ws[0]? = some (.ref t) → ot.cls = .type "tuple" → ot.data = .seq vs.toArray nt → (∀ p ∈ news, p.1 ≠ e ∧ p.1 ≠ t) → e ≠ t →
      wpAny (model prog w) ((A₀.deeper (envX name scope L a cd cl)).mark (some (.ref e))) (execs (b₀ :: suite) (envX name scope L a cd cl))
        (fun f s₄ => wpAny (model prog w) (A₀.deeper (envX name scope L a cd cl)) (do bindName (envX name scope L a cd cl) n .none; unbindBehindTheSuite (envX name scope L a cd cl) n pos) (fun _ s₅ => Q f s₅) E s₄)
        (fun _ _ => False)
        { s' with heap := h', toks := tk })
    (hk : scope.kind = .function := by rfl) (hlo : (envX name scope L a cd cl).kindOf n = some .local := by rfl) (hx : (envX name scope L a cd cl).kindOf (Str.ofString "ValueError") = some .globalImplicit := by rfl) :
    wpAny (model prog w) (A₀.deeper (envX name scope L a cd cl)) (noteFrame (.ref e) (envX name scope L a cd cl))
      (fun _ s₂ => wpAny (model prog w) (A₀.deeper (envX name scope L a cd cl)) (setFlight (.ref e) none) (fun _ s₃ =>
        wpAny (model prog w) (A₀.deeper (envX name scope L a cd cl)) (handleBy (.ref e) (envX name scope L a cd cl) (.ExceptHandler (some (.Name (Str.ofString "ValueError") np)) (some n) (b₀ :: suite) pos :: rest)) Q E s₃) E s₂) E s' := by
  obtain ⟨⟨B, hB, hl, hfl, hnew⟩, htup⟩ := R
  have hL : B.get? L = none := by
    obtain ⟨_, ⟨L', _, hf, hn', _⟩, _⟩ := hfl.2.2.1
    obtain rfl : L = L' := Option.some.inj hf
    exact hn'
  refine wpAny_looks_onW (Around.frames_deeper B₀.stack) rfl hfl fun h₄ hheld₄ hsm₄ => ?_
  refine wpAny_landsW hheld₄ fun h₅ hheld hsm₅' => ?_
  have hsm₅ := hsm₄.trans hsm₅'
  have hheld' := flyingW_base hB hheld
  have F₅ := F.of_stays hheld'.1 (hsm.trans hsm₅)
  obtain ⟨ob, hob, hobc⟩ := hheld'.there
  refine wpAny_handleBy_builtin_as (X := "ValueError") (T := "ValueError") (b := true) PySem.F.isExc_ValueError PySem.F.notTuple_ValueError (by rw [isSubtype_type]; kernel_rfl) ?_
  refine nameX_B F₅ X T hg PyProof.Rows.Boot.«ValueError» (by decide) ⟨rfl, ⟨ob, hob, hobc⟩, ?_⟩ hk hx (by decide)
  refine lands_againW hheld fun h₆ hfl₆ hsm₆ => ?_
  have hfl₆' := flyingW_base hB hfl₆
  have F₆ := F.of_stays hfl₆'.1 ((hsm.trans hsm₅).trans hsm₆)
  obtain ⟨oe, ws, hoe, hoec, hoed, hoe0⟩ := hfl₆'.first
  obtain ⟨ot, nt, hot, hotc, hotd⟩ := (htup.of_slots hsm₅).of_slots hsm₆
  have N₆ := News.more F₆ (News.more F₆ News.nil hot (fun es n q => by rw [hotd] at q; cases q) (fresh_of_stays hB hnew)) hoe (fun es n q => by rw [hoed] at q; cases q) hfl₆'.2.1
  have Nl : News h₀ L h₆ news := fun q hq => ⟨hfl₆.1 _ _ (hl q hq).1, (fun z => by have := (hl q hq).1; rw [z, hL] at this; cases this), (hl q hq).2⟩
  refine storeX_L F₆ (news := _ ++ news) (fun q hq => (List.mem_append.mp hq).elim (N₆ q) (Nl q)) (fun h₇ F₇ N₇ => ?_) hk hlo
  refine wpAny_mono (k h₇ oe ot ws nt _ F₇ N₇ hoec hoed hoe0 hotc hotd (fun p hp => ⟨fun z => ?_, fun z => ?_⟩) ?_) (fun _ _ x => x) fun _ _ x => x.elim
  · have := (hl p hp).1; rw [z, hfl₆.2.1] at this; cases this
  · have := (hl p hp).1; rw [z, hnew] at this; cases this
  · intro z; rw [z, hot] at hoe; cases hoe; rw [hoed] at hotd; cases hotd
end
theorem in_cut {ns : List Int} {a b : Nat} (h : KBa.In ns) : KBa.In (List.take a (List.drop b ns)) := fun n hn => h n (List.mem_of_mem_drop (List.mem_of_mem_take hn))
section
variable {prog : Program} {w : World} {A : Around} {E : Value → Shared → Prop} {s : Shared} {h₀ : Heap} {L e t : Addr} {news : List (Addr × Obj)} {oe ot : Obj} {ws : Array Value} {nt : Nat} {Q : Value → Shared → Prop}
theorem type_exc (N : News h₀ L s.heap news) (hm : (e, oe) ∈ news) (hc : oe.cls = .type "ValueError") (h : Q (.type "ValueError") s) : wpAny (model prog w) A (call (.type "type") [.ref e]) Q E s :=
  call_type_of ⟨oe, N.get hm, hc⟩ (by decide) h
theorem str_exc {x : Str} {u : Tok} (hu : A.units + 2 < cLine) (N : News h₀ L s.heap news) (hm : (e, oe) ∈ news) (ht : (t, ot) ∈ news) (hc : oe.cls = .type "ValueError") (hd : oe.data = .fields ws) (h0 : ws[0]? = some (.ref t)) (hct : ot.cls = .type "tuple") (hdt : ot.data = .seq [Value.str x u].toArray nt) (h : Q (.str x u) s) :
    wpAny (model prog w) A (call (.type "str") [.ref e]) Q E s :=
  P.str_of_exc_one PySem.F.excStr_ValueError hu ⟨oe, ws, N.get hm, hc, hd, h0⟩ ⟨ot, nt, N.get ht, hct, hdt⟩ h
end
theorem name_goes_X {M : Model} {A : Around} {E : Value → Shared → Prop} {s : Shared} {name : Str} {scope : Scope} {L a : Addr} {cd : Value} {cl : List (Str × Addr)} {h₀ : Heap} {m : Str → Option Value} {news : List (Addr × Obj)} {n : Str} {pos : Pos} {Q : Unit → Shared → Prop} (F : Fr h₀ L s.heap m) (N : News h₀ L s.heap news)
    (h : ∀ h' v, Fr h₀ L h' (fun x => if x = n then v else m x) → News h₀ L h' news → Q () { s with heap := h', toks := s.toks + 1 })
    (hk : scope.kind = .function := by rfl) (hl : (envX name scope L a cd cl).kindOf n = some .local := by rfl) :
    wpAny M A (do bindName (envX name scope L a cd cl) n .none; unbindBehindTheSuite (envX name scope L a cd cl) n pos) Q E s :=
  wpAny_nameGoes_keeps hl F.ns (by show (scope.kind == .class || (scope.kind == .module && L != mainGlobals)) = false; rw [hk]; rfl) fun h' v hn hs => h h' v (F.set hn hs) (N.set hs)
theorem news_drop2 {h₀ h : Heap} {L : Addr} {a b : Addr × Obj} {news : List (Addr × Obj)} (N : News h₀ L h (a :: b :: news)) : News h₀ L h news := fun p hp => N p (.tail _ (.tail _ hp))
theorem extend_any {prog : Program} {w : World} {A : Around} {E : Value → Shared → Prop} {s : Shared} {h₀ : Heap} {L D b : Addr} {m : Str → Option Value} {news : List (Addr × Obj)} {g : Obj → List (Addr × Obj)} {its its2 : List Value} {n n2 : Nat} {Q : Value → Shared → Prop}
    (F : Fr h₀ L s.heap m) (N : News h₀ L s.heap news) (hb : (b, W.listOf its2.toArray n2) ∈ news) (U : UpdF D (W.listOf its.toArray n) news g) (hz : its.length + its2.length ≤ 10000)
    (h : ∀ h' n', Fr h₀ L h' m → News h₀ L h' (g (W.listOf (its ++ its2).toArray n')) → Q .none { s with heap := h' }) : wpAny (model prog w) A (call (.builtin "list.extend") [.ref D, .ref b]) Q E s := by
  obtain ⟨pre, post, rfl, hg, a, c⟩ := U.split
  have z := N (D, W.listOf its.toArray n) (List.mem_append.mpr (.inr (.head _)))
  have hl := sizeLine_eq
  refine call_meets PySem.F.slot_list_extend ⟨_, z.1, rfl⟩ PySem.F.entry_list_extend (PySem.F.args_list_extend_2 _ _) (PySem.AutoSeq1.list_extend_list_list_0 D its.toArray n b its2.toArray n2 ?_ ?_ ?_) ⟨z.1, (N _ hb).1, ?_⟩
  · simp [Builtin.List.listTooLong]
    intro _
    omega
  · simp; omega
  · simp; omega
  · by_cases e : its2 = []
    · subst e
      refine h _ n (F.change (Heap.SameBut.update ..) z.2.1 z.2.2) ?_
      rw [hg]
      exact kl_turn0 (fun x => x ++ #[]) N a c (by simp) (by simp)
    · refine h _ (n + 1) (F.change (Heap.SameBut.update ..) z.2.1 z.2.2) ?_
      rw [hg]
      exact kl_turn (fun x => x ++ its2.toArray) N a c (by simp) (by simpa using e)
end
end Mine
namespace Mine
section
def bodyOf (ss : List Stmt) (i : Nat) : List Stmt := match ss[i]? with
  | some (.FunctionDef _ _ b _ _ _ _ _ _ _) => b
  | some (.For _ _ b _ _) => b
  | _ => []
def argsOf (ss : List Stmt) (i : Nat) : Arguments := match ss[i]? with
  | some (.FunctionDef _ a _ _ _ _ _ _ _ _) => a
  | _ => default
def scopeOf (ss : List Stmt) (i : Nat) : Scope := match ss[i]? with
  | some (.FunctionDef _ _ _ _ _ _ sc _ _ _) => sc
  | _ => default
def posOf (ss : List Stmt) (i : Nat) : Pos := match ss[i]? with
  | some (.For (.Name _ p) _ _ _ _) => p
  | _ => default
abbrev top1 : List Stmt := PySem.Challenge.pw_dw0036_01.main.body
def lawScope1 : Scope := scopeOf top1 6
def lawBody1 : List Stmt := bodyOf top1 6
def loopBody1 : List Stmt := bodyOf lawBody1 7
def readArgs1 : Arguments := argsOf (bodyOf top1 4) 1
def readBody1 : List Stmt := bodyOf (bodyOf top1 4) 1
def readScope1 : Scope := scopeOf (bodyOf top1 4) 1
def px1 : Pos := posOf lawBody1 7

abbrev st1 : List Str := [Str.ofString "deed", Str.ofString "e"]
abbrev env1 (L fa : Addr) (cd : Value) : Env := envOfC (Str.ofString "law") lawScope1 L fa cd
abbrev m1 (lNu lTo x lFe D : Addr) (m0 : Str → Option Value) : Str → Option Value := fun y => if y = Str.ofString "numbers" then some (Value.ref lNu) else if y = Str.ofString "told" then some (Value.ref lTo) else if y = Str.ofString "f" then some (Value.ref x) else if y = Str.ofString "fed" then some (Value.ref lFe) else if y = Str.ofString "draws" then some (Value.ref D) else m0 y
abbrev readFn1 (q : Str) (cFed cF : Addr) (dc pm : Value) (c : Addr) (ctv : Value) : Obj := fnMade (Str.ofString "_law_read") q readArgs1 readBody1 readScope1 [(Str.ofString "fed", cFed), (Str.ofString "f", cF)] dc pm c ctv

local macro_rules | `(tactic| walk_at "subscriptTail Name UnaryOp ref int") => `(tactic| (k_here; (with_unfolding_all refine' last_item ?k1 ?k2 ?k3 ?_ ?k6; (case k1 => is_list); (case k2 => assumption); (case k3 => assumption); (case k6 => with_unfolding_all rfl)); intro t'))

local macro_rules | `(tactic| walk_at "exec Try") => `(tactic| refine wpAny_Try_except ?_)

local macro_rules | `(tactic| walk_at "call type:bytes") => `(tactic| (k_here; (with_reducible show wpAny _ _ (call (Value.type "bytes") [Value.ref _]) _ _ _); k_dflt (refine' KBa.make_K ?kbaF ?kbaN ?kbah ?kbal ?kbai ?kbar ?kban ?_; (case kbaF => k_asm); (case kbaN => k_asm); (case kbah => rfl); (case kbal => kba_isList); (case kbai => kba_listInts); (case kbar => exact in_cut (by assumption)); (case kban => kba_size)); intro _ _ _ F' N' kbaIn))

local macro_rules | `(tactic| walk_at "noteFrame ref") => `(tactic| (k_here; k_dflt (refine' caught_X ?B ?F ?S ?R ?X ?T ?g ?_ ?c1 ?c2 ?c3; (case R => assumption); (case S => assumption); (case F => assumption); (case B => assumption); (case X => assumption); (case T => k_asm); (case g => k_is); (case c1 => rfl); (case c2 => rfl); (case c3 => rfl)); intro h' oe ot ws nt tk' F' N' hoe1 hoe2 hoe3 hot1 hot2 hne1 hne2))

local macro_rules | `(tactic| walk_at "call type:type") => `(tactic| (k_here; (with_reducible show wpAny _ _ (call (Value.type "type") [Value.ref _]) _ _ _); k_dflt (refine' type_exc ?N ?m ?c ?_; (case N => k_asm); (case m => k_mem); (case c => assumption))))
local macro_rules | `(tactic| walk_at "call type:str") => `(tactic| (k_here; (with_reducible show wpAny _ _ (call (Value.type "str") [Value.ref _]) _ _ _); k_dflt (refine' str_exc ?u ?N ?m ?t ?c ?d ?z ?ct ?dt ?_; (case u => k_units); (case N => k_asm); (case m => k_mem); (case c => assumption); (case d => assumption); (case z => assumption); (case t => k_mem); (case ct => assumption); (case dt => assumption))))

local macro_rules | `(tactic| walk_at "bind") => `(tactic| (k_here; k_dflt (refine' name_goes_X ?F ?N ?_ ?c1 ?c2; (case F => k_asm); (case N => k_asm); (case c1 => rfl); (case c2 => rfl)); intro h' v' F' N'; replace N' := news_drop2 N'; (try k_sweep)))

local macro_rules | `(tactic| walk_at "call builtin:list.extend") => `(tactic| (k_here; (with_reducible show wpAny _ _ (call (Value.builtin _) [Value.ref _, Value.ref _]) _ _ _); k_dflt (refine' extend_any ?F ?N ?b ?U ?z ?_; (case F => k_asm); (case N => k_asm); (case b => k_mem); (case U => k_updF); (case z => omega)); intro h' n' F' N'; (try dsimp only at N'); (try k_sweep)))

structure St1 where
  fed : List Int
  told : List Int
  numbers : List Int
  into : List Int
  tries : List Int
def step1 (st : St1) : Option (List Int) → St1
  | none =>
    let td := if st.told.length < st.fed.length then st.told ++ [st.fed.getD st.told.length 0] else st.told
    ⟨st.fed, td, st.numbers ++ [(td.length : Int)], st.into ++ [(st.fed.length : Int)], st.tries ++ [st.tries.getLastD 0 + 1]⟩
  | some ds => ⟨st.fed ++ ds, st.told, st.numbers ++ [(st.told.length : Int)], st.into ++ [((st.fed ++ ds).length : Int)], st.tries ++ [st.tries.getLastD 0]⟩
structure Ok1 (st : St1) : Prop where
  oct : KBa.In st.fed
  le : st.told.length ≤ st.fed.length
  fedLen : st.fed.length ≤ 190
  ne : st.tries ≠ []
  trLen : st.tries.length ≤ 100
  inLen : st.into.length ≤ 100
  nuLen : st.numbers.length ≤ 100

structure Sg1 where
  (L lTr lIn lNu lTo fn cc x d cF cFed lFe D : Nat)
  (q : Str) (dc pm ctv : Value) (t1 t2 tq : Tok) (vs' : Array Value) (ot otr oin oc oF oFed : Obj)
structure Cts1 where
  (tr it nu td fd : List Value) (k1 k2 k3 k4 k5 : Nat) (pos : Int) (tp : Tok)
def led1 (P : Params) (g : Sg1) (c : Cts1) : List (Addr × Obj) :=
  [(g.lTr, W.listOf c.tr.toArray c.k1), (g.lIn, W.listOf c.it.toArray c.k2), (g.lNu, W.listOf c.nu.toArray c.k3), (g.lTo, W.listOf c.td.toArray c.k4), (g.fn, readFn1 g.q g.cFed g.cF g.dc g.pm g.cc g.ctv), (g.cc, g.oc), (g.x, instObj 38 g.d),
    (g.d, dictOf [⟨PyData.keyHash P (Str.ofString "value"), Value.str (Str.ofString "value") g.t1, Value.int c.pos c.tp⟩, ⟨PyData.keyHash P (Str.ofString "read"), Value.str (Str.ofString "read") g.t2, Value.ref g.fn⟩] 2),
    (g.cF, g.oF), (g.cFed, g.oFed), (g.lFe, W.listOf c.fd.toArray c.k5), (g.L + 1 + 1 + 1, g.ot), (g.L + 1 + 1, g.otr), (g.L + 1, g.oin)]
def adr1 (g : Sg1) : List Addr := [g.lTr, g.lIn, g.lNu, g.lTo, g.fn, g.cc, g.x, g.d, g.cF, g.cFed, g.lFe, g.L + 1 + 1 + 1, g.L + 1 + 1, g.L + 1]
structure SgOk1 (g : Sg1) : Prop where
  ord : g.L + 1 + 1 + 1 < g.lFe ∧ g.lFe < g.cFed ∧ g.cFed < g.cF ∧ g.cF < g.d ∧ g.d < g.x ∧ g.x < g.cc ∧ g.cc < g.fn ∧ g.fn < g.lTo ∧ g.lTo < g.lNu ∧ g.lNu < g.lIn ∧ g.lIn < g.lTr
  dF : g.oF.data = .cell (some (.ref g.x))
  dFed : g.oFed.data = .cell (some (.ref g.lFe))
  dTr : g.otr.data = .cell (some (.ref g.lTr))
  dIn : g.oin.data = .cell (some (.ref g.lIn))
  dc1 : g.oc.data = .fields g.vs'
  dc2 : g.vs'[1]? = some (.str g.q g.tq)
structure Rel1 (c : Cts1) (st : St1) : Prop where
  tr : IntsAre c.tr st.tries
  it : IntsAre c.it st.into
  nu : IntsAre c.nu st.numbers
  td : IntsAre c.td st.told
  fd : IntsAre c.fd st.fed
  pos : c.pos = (st.told.length : Int)
theorem ints_snoc {vs : List Value} {ns : List Int} {n : Int} {t : Tok} (h : IntsAre vs ns) : IntsAre (vs ++ [.int n t]) (ns ++ [n]) := h.append (.cons _ _ .nil)

theorem cut_head {l : List Int} {n : Nat} (h : n < l.length) : (List.take (min ((n : Int) + 1).toNat l.length - (n : Int).toNat) (List.drop (n : Int).toNat l)).getD (Int.toNat 0) 0 = l.getD n 0 := by
  have e1 : ((n : Int) + 1).toNat = n + 1 := by omega
  have e2 : (n : Int).toNat = n := by omega
  have e3 : min (n + 1) l.length - n = 1 := by omega
  rw [e1, e2, e3]
  simp [List.getD_eq_getElem?_getD, List.getElem?_take, List.getElem?_drop]
theorem same_deed {m m' : Str → Option Value} {v : Option Value} (h : SameMap st1 m m') : SameMap st1 m (fun y => if y = Str.ofString "deed" then v else m' y) := fun z hz => by
  have := h z hz
  simp only [List.contains_cons, List.contains_nil, Bool.or_false, Bool.or_eq_false_iff, beq_eq_false_iff_ne] at hz
  simp only [if_neg hz.1]; exact this
theorem same_e {m m' : Str → Option Value} {v : Option Value} (h : SameMap st1 m m') : SameMap st1 m (fun y => if y = Str.ofString "e" then v else m' y) := fun z hz => by
  have := h z hz
  simp only [List.contains_cons, List.contains_nil, Bool.or_false, Bool.or_eq_false_iff, beq_eq_false_iff_ne] at hz
  simp only [if_neg hz.2]; exact this
theorem same_u {m u : Str → Option Value} : SameMap st1 m (fun y => if st1.contains y then u y else m y) := fun z hz => by simp only [hz]; rfl

theorem turn1_none {w : World} {mg mb m0 u : Str → Option Value} {base : Heap} {mean : ExcName → Option Value} {s : Shared} {fa : Nat} {cd : Value} {g : Sg1} {c : Cts1} {st : St1} {T : List (Addr × Obj)} {P : Flow → Shared → Prop} :
    (hd1.heap_39 w.params).In base → Top topProg loose1 mean mg mb base → Below callerA base [] base → CodeHd base 48 44 →
    Fr base g.L s.heap (fun y => if st1.contains y then u y else m1 g.lNu g.lTo g.x g.lFe g.D m0 y) → News base g.L s.heap (led1 w.params g c ++ T) → SgOk1 g → OwnOff T (adr1 g) → Rel1 c st → Ok1 st →
    (∀ h' tk' m' c', SameMap st1 (m1 g.lNu g.lTo g.x g.lFe g.D m0) m' → Fr base g.L h' m' → News base g.L h' (led1 w.params g c' ++ T) → Rel1 c' (step1 st none) → P .next { s with heap := h', toks := tk' }) →
    wpAny (model PySem.Challenge.rw_dw0036_01.row.prog w) (callerA.deeper (env1 g.L fa cd)) (storeName (env1 g.L fa cd) (Str.ofString "deed") .none) (fun _ s₂ => wpAny (model PySem.Challenge.rw_dw0036_01.row.prog w) (callerA.deeper (env1 g.L fa cd)) (execs loopBody1 (env1 g.L fa cd)) P (fun _ _ => False) s₂) (fun _ _ => False) s := by
  w_top off
  k_fill
  intro X T B hCd F N hg hoff hR hO hP
  obtain ⟨L, lTr, lIn, lNu, lTo, fn, cc, x, d, cF, cFed, lFe, D, q, dc, pm, ctv, t1, t2, tq, vs', ot, otr, oin, oc, oF, oFed⟩ := g
  obtain ⟨tr, it, nu, td, fd, k1, k2, k3, k4, k5, pos, tp⟩ := c
  obtain ⟨nfd, ntd, nnu, nit, ntr⟩ := st
  obtain ⟨hord, dF, dFed, dTr, dIn, dc1, dc2⟩ := hg
  obtain ⟨iTr, iIn, iNu, iTd, iFd, hpos⟩ := hR
  obtain ⟨hb, hle, h200, hne, htr, hit, hnu⟩ := hO
  simp only [led1, adr1, List.cons_append, List.nil_append] at *
  have l1 : tr.length ≤ 100 := by rw [iTr.length]; exact htr
  have l2 : it.length ≤ 100 := by rw [iIn.length]; exact hit
  have l3 : nu.length ≤ 100 := by rw [iNu.length]; exact hnu
  have l4 : td.length ≤ 200 := by rw [iTd.length]; omega
  have l5 : fd.length ≤ 200 := by rw [iFd.length]; omega
  k_steps
  · rename_i F N
    simp only [List.push_toArray] at N
    subst hpos
    have hlt : ntd.length < nfd.length := by omega
    refine hP _ _ _ ⟨_, _, _, _, fd, _, _, _, _, k5, _, _⟩ (same_deed same_u) F (fun p hp => N p (List.mem_cons_of_mem _ hp)) ?_
    refine ⟨ints_snoc iTr, ints_snoc iIn, ?_, ?_, iFd, ?_⟩ <;> simp only [step1, if_pos hlt]
    · rw [List.length_append]; exact ints_snoc iNu
    · rw [cut_head hlt]; exact ints_snoc iTd
    · rw [List.length_append, List.length_singleton]; omega
  · rename_i F N
    simp only [List.push_toArray] at N
    subst hpos
    have hlt : ¬ ntd.length < nfd.length := by omega
    refine hP _ _ _ ⟨_, _, _, td, fd, _, _, _, k4, k5, _, _⟩ (same_e (same_e (same_deed same_u))) F (fun p hp => N p (List.mem_cons_of_mem _ hp)) ?_
    refine ⟨ints_snoc iTr, ints_snoc iIn, ?_, ?_, iFd, ?_⟩ <;> simp only [step1, if_neg hlt]
    · exact ints_snoc iNu
    · exact iTd
    · omega

theorem turn1_some {w : World} {mg mb m0 u : Str → Option Value} {base : Heap} {mean : ExcName → Option Value} {s : Shared} {fa : Nat} {cd : Value} {g : Sg1} {c : Cts1} {st : St1} {T : List (Addr × Obj)} {P : Flow → Shared → Prop} {a n : Nat} {vs : List Value} {ds : List Int} :
    (hd1.heap_39 w.params).In base → Top topProg loose1 mean mg mb base → Below callerA base [] base → CodeHd base 48 44 →
    Fr base g.L s.heap (fun y => if st1.contains y then u y else m1 g.lNu g.lTo g.x g.lFe g.D m0 y) → News base g.L s.heap (led1 w.params g c ++ T) → SgOk1 g → OwnOff T (adr1 g) → Rel1 c st → Ok1 st →
    (a, W.listOf vs.toArray n) ∈ T → IntsAre vs ds → ds.length ≤ 3 →
    (∀ h' tk' m' c', SameMap st1 (m1 g.lNu g.lTo g.x g.lFe g.D m0) m' → Fr base g.L h' m' → News base g.L h' (led1 w.params g c' ++ T) → Rel1 c' (step1 st (some ds)) → P .next { s with heap := h', toks := tk' }) →
    wpAny (model PySem.Challenge.rw_dw0036_01.row.prog w) (callerA.deeper (env1 g.L fa cd)) (storeName (env1 g.L fa cd) (Str.ofString "deed") (.ref a)) (fun _ s₂ => wpAny (model PySem.Challenge.rw_dw0036_01.row.prog w) (callerA.deeper (env1 g.L fa cd)) (execs loopBody1 (env1 g.L fa cd)) P (fun _ _ => False) s₂) (fun _ _ => False) s := by
  w_top off
  k_fill
  intro X T B hCd F N hg hoff hR hO ha hds hdl hP
  obtain ⟨L, lTr, lIn, lNu, lTo, fn, cc, x, d, cF, cFed, lFe, D, q, dc, pm, ctv, t1, t2, tq, vs', ot, otr, oin, oc, oF, oFed⟩ := g
  obtain ⟨tr, it, nu, td, fd, k1, k2, k3, k4, k5, pos, tp⟩ := c
  obtain ⟨nfd, ntd, nnu, nit, ntr⟩ := st
  obtain ⟨hord, dF, dFed, dTr, dIn, dc1, dc2⟩ := hg
  obtain ⟨iTr, iIn, iNu, iTd, iFd, hpos⟩ := hR
  obtain ⟨hb, hle, h200, hne, htr, hit, hnu⟩ := hO
  have N0 : News base L s.heap ((a, W.listOf vs.toArray n) :: (led1 w.params _ _ ++ _)) := fun p hp => by
    rcases List.mem_cons.mp hp with rfl | hp
    · exact N _ (List.mem_append_right _ ha)
    · exact N p hp
  have ha' := hoff _ ha
  simp only [adr1, List.forall_mem_cons] at ha'
  have ha2 : a ≠ lTr ∧ a ≠ lIn ∧ a ≠ lNu ∧ a ≠ lTo ∧ a ≠ fn ∧ a ≠ cc ∧ a ≠ x ∧ a ≠ d ∧ a ≠ cF ∧ a ≠ cFed ∧ a ≠ lFe ∧ a ≠ L + 1 + 1 + 1 ∧ a ≠ L + 1 + 1 ∧ a ≠ L + 1 := by
    obtain ⟨b1, b2, b3, b4, b5, b6, b7, b8, b9, b10, b11, b12, b13, b14, _⟩ := ha'
    exact ⟨b1, b2, b3, b4, b5, b6, b7, b8, b9, b10, b11, b12, b13, b14⟩
  clear N ha'
  simp only [led1, adr1, List.cons_append, List.nil_append, List.forall_mem_cons] at *
  have l1 : tr.length ≤ 100 := by rw [iTr.length]; exact htr
  have l2 : it.length ≤ 100 := by rw [iIn.length]; exact hit
  have l3 : nu.length ≤ 100 := by rw [iNu.length]; exact hnu
  have l4 : td.length ≤ 200 := by rw [iTd.length]; omega
  have l5 : fd.length ≤ 200 := by rw [iFd.length]; omega
  have l6 : vs.length ≤ 3 := by rw [hds.length]; omega
  have iFd2 := iFd.append hds
  have l7 : (fd ++ vs).length ≤ 200 := by rw [iFd2.length, List.length_append]; omega
  k_steps
  rename_i F N
  simp only [List.push_toArray] at N
  refine hP _ _ _ ⟨_, _, _, td, fd ++ vs, _, _, _, k4, _, pos, tp⟩ (same_deed same_u) F (fun p hp => N p (List.mem_cons_of_mem _ hp)) ⟨ints_snoc iTr, ?_, ints_snoc iNu, iTd, iFd2, hpos⟩
  simp only [step1, List.length_append]
  exact ints_snoc iIn

theorem led1_adr (P : Params) (g : Sg1) (c : Cts1) : (led1 P g c).map (·.1) = adr1 g := rfl
theorem All2.at {α β : Type} {R : α → β → Prop} {as : List α} {bs : List β} (h : All2 R as bs) {i : Nat} {a : α} (ha : as[i]? = some a) : ∃ b, bs[i]? = some b ∧ R a b := by
  induction h generalizing i with
  | nil => simp at ha
  | cons x _ ih =>
    cases i with
    | zero => simp only [List.getElem?_cons_zero, Option.some.injEq] at ha ⊢; subst ha; exact ⟨_, rfl, x⟩
    | succ i => simp only [List.getElem?_cons_succ] at ha ⊢; exact ih ha

def J1 (P : Params) (g : Sg1) (st0 : St1) (ds : List (Option (List Int))) (tl : List (Addr × Obj)) (i : Nat) (nx : List (Addr × Obj)) : Prop :=
  ∃ c, nx = led1 P g c ++ tl ∧ Rel1 c ((ds.take i).foldl step1 st0)

theorem main1 {w : World} {mg mb m0 : Str → Option Value} {base : Heap} {mean : ExcName → Option Value} {s : Shared} {fa : Nat} {cd : Value} {g : Sg1} {c : Cts1} {st0 : St1} {tl : List (Addr × Obj)} {Q : Flow → Shared → Prop} {l k : Nat} {vals : List Value} {ds : List (Option (List Int))} {px : Pos} :
    (hd1.heap_39 w.params).In base → Top topProg loose1 mean mg mb base → Below callerA base [] base → CodeHd base 48 44 →
    Fr base g.L s.heap (m1 g.lNu g.lTo g.x g.lFe g.D m0) → News base g.L s.heap (led1 w.params g c ++ tl) → SgOk1 g → OwnOff tl (adr1 g) → Rel1 c st0 →
    s.heap.get? l = some (W.listOf vals.toArray k) → l ≠ g.L → base.get? l = none → (∀ p ∈ led1 w.params g c ++ tl, p.1 ≠ l) →
    All2 (DeedIn tl) vals ds → (∀ d ∈ ds, ∀ x, d = some x → x.length ≤ 3) → (∀ i, i ≤ ds.length → Ok1 ((ds.take i).foldl step1 st0)) →
    (∀ (u : Str → Option Value) h' tk' c', Fr base g.L h' (fun y => if st1.contains y then u y else m1 g.lNu g.lTo g.x g.lFe g.D m0 y) → News base g.L h' (led1 w.params g c' ++ tl) → Rel1 c' (ds.foldl step1 st0) → Q .next { s with heap := h', toks := tk' }) →
    wpAny (model PySem.Challenge.rw_dw0036_01.row.prog w) (callerA.deeper (env1 g.L fa cd)) (pyIter (.ref l)) (fun it s₂ => codeAny (model PySem.Challenge.rw_dw0036_01.row.prog w) (callerA.deeper (env1 g.L fa cd)) (.forLoop (.Name (Str.ofString "deed") px) it loopBody1 [] (env1 g.L fa cd)) (fun r s' => match r with | .ok f => Q f s' | .error e => cameBackBy (model PySem.Challenge.rw_dw0036_01.row.prog w) (callerA.deeper (env1 g.L fa cd)) (env1 g.L fa cd) (fun _ _ => False) e s') s₂) (fun _ _ => False) s := by
  intro X T B hCd F N hg hoff hR hl hlL hl0 hnl hall h3 hok done
  have hlen := hall.length
  refine for_list (env := env1 g.L fa cd) (h₀ := base) (vs := vals) PassesOwn.never rfl ⟨_, hl, rfl, k, rfl⟩ hlL hl0 hnl F N st1 (J1 w.params g st0 ds tl) ⟨c, rfl, hR⟩ ?_ ?_
  · rintro i v u nx h tk own hv hown ⟨c', rfl, hR'⟩ F₁ N₁
    obtain ⟨d, hd, hdi⟩ := hall.at hv
    have hoffT : OwnOff (tl ++ own) (adr1 g) := off_app.mpr ⟨hoff, by
      rw [List.map_append, led1_adr] at hown
      exact fun p hp b hb => hown p hp b (List.mem_append_left _ hb)⟩
    have hi : i < ds.length := by
      rcases Nat.lt_or_ge i ds.length with h | h
      · exact h
      · rw [List.getElem?_eq_none h] at hd; cases hd
    have e : (ds.take (i + 1)).foldl step1 st0 = step1 ((ds.take i).foldl step1 st0) d := by
      rw [List.take_add_one, hd, List.foldl_append]; rfl
    have fin : ∀ h' tk' m' c', SameMap st1 (m1 g.lNu g.lTo g.x g.lFe g.D m0) m' → Fr base g.L h' m' → News base g.L h' (led1 w.params g c' ++ (tl ++ own)) → Rel1 c' (step1 ((ds.take i).foldl step1 st0) d) →
        InvPostG base g.L (MJ st1 (m1 g.lNu g.lTo g.x g.lFe g.D m0) (J1 w.params g st0 ds tl) (i + 1)) own { s with heap := h, toks := tk } Q .next { s with heap := h', toks := tk' } := by
      intro h' tk' m' c'' hm F₂ N₂ hR₂
      refine InvEndG.intro (nx := led1 w.params g c'' ++ tl) F₂ N₂ ⟨hm, c'', rfl, e ▸ hR₂⟩ ?_ ?_ ?_
      · rw [List.map_append, led1_adr] at hown ⊢
        exact hown
      · intro p hp
        rw [← List.append_assoc]
        exact List.mem_append_left _ hp
      · intro p hp
        exact List.mem_append_right _ (List.mem_append_right _ hp)
    rw [List.append_assoc] at N₁
    cases hdi with
    | none => exact turn1_none (s := { s with heap := h, toks := tk }) X T B hCd F₁ N₁ hg hoffT hR' (hok i (Nat.le_of_lt hi)) fin
    | some hm hints => exact turn1_some (s := { s with heap := h, toks := tk }) X T B hCd F₁ N₁ hg hoffT hR' (hok i (Nat.le_of_lt hi)) (List.mem_append_left _ hm) hints (h3 _ (List.mem_of_getElem? hd) _ rfl) fin
  · rintro u nx h tk ⟨c', rfl, hR'⟩ F₁ N₁
    rw [hlen, List.take_length] at hR'
    exact done u h tk c' F₁ N₁ hR'
end
end Mine
namespace Mine
section
def dueBody1 : List Stmt := bodyOf lawBody1 9
abbrev m2 (lDu : Addr) (m0 : Str → Option Value) : Str → Option Value := fun y => if y = Str.ofString "due" then some (Value.ref lDu) else m0 y
/-- the least of what had been fed by a moment plus the tries since -/
def IsDue (into tries : List Int) (t : Nat) (M : Int) : Prop :=
  (∃ s, s ≤ t ∧ M = into.getD s 0 + tries.getD t 0 - tries.getD s 0) ∧ ∀ s, s ≤ t → M ≤ into.getD s 0 + tries.getD t 0 - tries.getD s 0
theorem isDue_of {into tries : List Int} {i : Nat} {M : Int} (h1 : M ∈ List.map (fun k' : Int => into.getD k'.toNat 0 + tries.getD (0 + (i : Int)).toNat 0 - tries.getD k'.toNat 0) (rangeKs 0 (0 + (i : Int) + 1 - 0).toNat))
    (h2 : ∀ a, a ∈ List.map (fun k' : Int => into.getD k'.toNat 0 + tries.getD (0 + (i : Int)).toNat 0 - tries.getD k'.toNat 0) (rangeKs 0 (0 + (i : Int) + 1 - 0).toNat) → M ≤ a) : IsDue into tries i M := by
  have e : (0 + (i : Int)).toNat = i := by omega
  rw [e] at h1 h2
  refine ⟨?_, fun s hs => ?_⟩
  · obtain ⟨k, hk, rfl⟩ := List.mem_map.mp h1
    have := mem_rangeKs hk
    exact ⟨k.toNat, by omega, rfl⟩
  · refine h2 _ (List.mem_map.mpr ⟨(s : Int), ?_, by simp⟩)
    unfold rangeKs
    exact List.mem_map.mpr ⟨s, List.mem_range.mpr (by omega), by simp⟩
local macro_rules | `(tactic| walk_at "call builtin:min") => `(tactic| (k_here; (with_reducible show wpAny _ _ (call (Value.builtin _) [Value.ref _]) _ _ _); (with_unfolding_all refine' kso_min ?k1 ?k2 ?k3 ?k4 ?k5 ?k6 ?_; (case k1 => k_asm); (case k2 => k_asm); (case k3 => kso_list); (case k4 => assumption); (case k5 => (rw [List.length_map, rangeKs_length]; omega)); (case k6 => with_unfolding_all rfl); k_whole); intro h' M' t' k' F' N' a' b'; (try k_sweep)))

theorem turn1_due {w : World} {mg mb : Str → Option Value} {base : Heap} {mean : ExcName → Option Value} {s : Shared} {fa : Nat} {cd : Value} {T : List (Addr × Obj)} {P : Flow → Shared → Prop}
    {L lDu lTr lIn : Nat} {du tr it : List Value} {k0 k1 k2 : Nat} {ot otr oin : Obj} {vt : Option Value} {ndu ntr nit : List Int} {i : Nat} {tv : Tok} {m0 : Str → Option Value} :
    (hd1.heap_39 w.params).In base → Top topProg loose1 mean mg mb base → Below callerA base [] base → CodeHd base 48 44 →
    Fr base L s.heap (m2 lDu m0) → News base L s.heap ((lDu, W.listOf du.toArray k0) :: (lTr, W.listOf tr.toArray k1) :: (lIn, W.listOf it.toArray k2) :: (L + 1 + 1 + 1, ot) :: (L + 1 + 1, otr) :: (L + 1, oin) :: T) →
    (L + 1 + 1 + 1 < lIn ∧ lIn < lTr ∧ lTr < lDu) → OwnOff T [lDu, lTr, lIn, L + 1 + 1 + 1, L + 1 + 1, L + 1] → ot.data = .cell vt → otr.data = .cell (some (.ref lTr)) → oin.data = .cell (some (.ref lIn)) →
    IntsAre tr ntr → IntsAre it nit → IntsAre du ndu → ntr.length = nit.length → nit.length ≤ 100 → ndu.length ≤ 100 → i < nit.length →
    (∀ h' tk' (M : Int) (tM : Tok) k0' ot' vt', Fr base L h' (m2 lDu m0) → News base L h' ((lDu, W.listOf (du ++ [Value.int M tM]).toArray k0') :: (lTr, W.listOf tr.toArray k1) :: (lIn, W.listOf it.toArray k2) :: (L + 1 + 1 + 1, ot') :: (L + 1 + 1, otr) :: (L + 1, oin) :: T) →
      ot'.data = .cell vt' → IsDue nit ntr i M → P .next { s with heap := h', toks := tk' }) →
    wpAny (model PySem.Challenge.rw_dw0036_01.row.prog w) (callerA.deeper (env1 L fa cd)) (storeName (env1 L fa cd) (Str.ofString "t") (.int (0 + (i : Int)) tv)) (fun _ s₂ => wpAny (model PySem.Challenge.rw_dw0036_01.row.prog w) (callerA.deeper (env1 L fa cd)) (execs dueBody1 (env1 L fa cd)) P (fun _ _ => False) s₂) (fun _ _ => False) s := by
  w_top off
  k_fill
  intro X T B hCd F N hord hoff dT dTr dIn iTr iIn iDu hl1 hl2 hl3 hi hP
  have l1 : tr.length ≤ 100 := by rw [iTr.length]; omega
  have l2 : it.length ≤ 100 := by rw [iIn.length]; omega
  have l3 : du.length ≤ 100 := by rw [iDu.length]; omega
  k_steps
  rename_i M tM _ hM1 hM2 _ F N
  simp only [List.push_toArray] at N
  refine hP _ _ M tM _ _ _ F (fun p hp => N p (List.mem_cons_of_mem _ hp)) (by assumption) (isDue_of hM1 hM2)

def JD (L lDu lTr lIn : Addr) (tr it : List Value) (k1 k2 : Nat) (otr oin : Obj) (nit ntr : List Int) (T : List (Addr × Obj)) (i : Nat) (nx : List (Addr × Obj)) : Prop :=
  ∃ (du : List Value) (ndu : List Int) (k0 : Nat) (ot : Obj) (vt : Option Value), nx = (lDu, W.listOf du.toArray k0) :: (lTr, W.listOf tr.toArray k1) :: (lIn, W.listOf it.toArray k2) :: (L + 1 + 1 + 1, ot) :: (L + 1 + 1, otr) :: (L + 1, oin) :: T ∧
    ot.data = .cell vt ∧ IntsAre du ndu ∧ ndu.length = i ∧ ∀ t, t < i → IsDue nit ntr t (ndu.getD t 0)

theorem due1 {w : World} {mg mb : Str → Option Value} {base : Heap} {mean : ExcName → Option Value} {s : Shared} {fa : Nat} {cd : Value} {T : List (Addr × Obj)} {Q : Flow → Shared → Prop} {px : Pos}
    {L lDu lTr lIn r : Nat} {tr it : List Value} {k0 k1 k2 : Nat} {ot otr oin : Obj} {vt : Option Value} {ntr nit : List Int} {m0 : Str → Option Value} {t₀ u₀ v₀ : Tok} :
    (hd1.heap_39 w.params).In base → Top topProg loose1 mean mg mb base → Below callerA base [] base → CodeHd base 48 44 →
    Fr base L s.heap (m2 lDu m0) → News base L s.heap ((lDu, W.listOf #[] k0) :: (lTr, W.listOf tr.toArray k1) :: (lIn, W.listOf it.toArray k2) :: (L + 1 + 1 + 1, ot) :: (L + 1 + 1, otr) :: (L + 1, oin) :: T) →
    (L + 1 + 1 + 1 < lIn ∧ lIn < lTr ∧ lTr < lDu) → OwnOff T [lDu, lTr, lIn, L + 1 + 1 + 1, L + 1 + 1, L + 1] → ot.data = .cell vt → otr.data = .cell (some (.ref lTr)) → oin.data = .cell (some (.ref lIn)) →
    IntsAre tr ntr → IntsAre it nit → ntr.length = nit.length → nit.length ≤ 100 → IsRange s.heap r 0 (nit.length : Int) 1 t₀ u₀ v₀ →
    (∀ h' tk' (du : List Value) ndu k0' ot', Fr base L h' (m2 lDu m0) → News base L h' ((lDu, W.listOf du.toArray k0') :: (lTr, W.listOf tr.toArray k1) :: (lIn, W.listOf it.toArray k2) :: (L + 1 + 1 + 1, ot') :: (L + 1 + 1, otr) :: (L + 1, oin) :: T) →
      IntsAre du ndu → ndu.length = nit.length → (∀ t, t < nit.length → IsDue nit ntr t (ndu.getD t 0)) → Q .next { s with heap := h', toks := tk' }) →
    wpAny (model PySem.Challenge.rw_dw0036_01.row.prog w) (callerA.deeper (env1 L fa cd)) (pyIter (.ref r)) (fun it s₂ => codeAny (model PySem.Challenge.rw_dw0036_01.row.prog w) (callerA.deeper (env1 L fa cd)) (.forLoop (.Name (Str.ofString "t") px) it dueBody1 [] (env1 L fa cd)) (fun r s' => match r with | .ok f => Q f s' | .error e => cameBackBy (model PySem.Challenge.rw_dw0036_01.row.prog w) (callerA.deeper (env1 L fa cd)) (env1 L fa cd) (fun _ _ => False) e s') s₂) (fun _ _ => False) s := by
  intro X T B hCd F N hord hoff dT dTr dIn iTr iIn hl1 hl2 hr hP
  refine for_range (env := env1 L fa cd) (h₀ := base) (n := nit.length) PassesOwn.never rfl hr (small_one (by omega) (by omega) (by omega) (by omega)) (by rw [rangeSize_nat]; simp) F N [] (JD L lDu lTr lIn tr it k1 k2 otr oin nit ntr _) ⟨[], [], k0, ot, vt, rfl, dT, .nil, rfl, fun t ht => absurd ht (Nat.not_lt_zero _)⟩ ?_ ?_
  · rintro i tv u nx h tk own hi hown ⟨du, ndu, k0', ot', vt', rfl, dT', iDu, hlen, hdue⟩ F₁ N₁
    have hown' := hown
    simp only [List.map_cons, off_adr] at hown'
    refine turn1_due (s := { s with heap := h, toks := tk }) (T := _ ++ own) X T B hCd F₁ (by have N₂ := N₁; simp only [List.cons_append] at N₂; exact N₂) hord ?_ dT' dTr dIn iTr iIn iDu hl1 hl2 (by omega) hi ?_
    · refine off_app.mpr ⟨hoff, ?_⟩
      simp only [off_adr]
      exact ⟨hown'.1, hown'.2.1, hown'.2.2.1, hown'.2.2.2.1, hown'.2.2.2.2.1, hown'.2.2.2.2.2.1, off_nil⟩
    · intro h' tk' M tM k0'' ot'' vt'' F₂ N₂ dT'' hD
      refine InvEndG.intro (nx := (lDu, W.listOf (du ++ [Value.int M tM]).toArray k0'') :: (lTr, W.listOf tr.toArray k1) :: (lIn, W.listOf it.toArray k2) :: (L + 1 + 1 + 1, ot'') :: (L + 1 + 1, otr) :: (L + 1, oin) :: _) F₂ N₂ ⟨fun _ _ => rfl, du ++ [Value.int M tM], ndu ++ [M], k0'', ot'', vt'', rfl, dT'', ints_snoc iDu, by simp [hlen], ?_⟩ ?_ ?_ ?_
      · intro t ht
        rcases Nat.lt_or_ge t i with h1 | h1
        · rw [List.getD_eq_getElem?_getD, List.getElem?_append_left (by omega), ← List.getD_eq_getElem?_getD]
          exact hdue t h1
        · obtain rfl : t = i := by omega
          rw [List.getD_eq_getElem?_getD, List.getElem?_append_right (by omega)]
          simp only [hlen, Nat.sub_self, List.getElem?_cons_zero, Option.getD_some]
          exact hD
      · simpa only [List.map_cons] using hown
      · intro p hp
        simp only [List.mem_cons, List.mem_append] at hp ⊢
        rcases hp with h | h | h | h | h | h | h <;> simp [h]
      · intro p hp
        simp only [List.mem_cons, List.mem_append]
        simp [hp]
  · rintro u nx h tk ⟨du, ndu, k0', ot', vt', rfl, dT', iDu, hlen, hdue⟩ F₁ N₁
    exact hP h tk du ndu k0' ot' F₁ N₁ iDu hlen hdue
end
end Mine
namespace Mine
section
def st01 : St1 := ⟨[], [], [0], [0], [0]⟩
theorem getD_left {l : List Int} {a : Int} {i : Nat} (h : i < l.length) : (l ++ [a]).getD i 0 = l.getD i 0 := by
  rw [List.getD_eq_getElem?_getD, List.getElem?_append_left h, ← List.getD_eq_getElem?_getD]
theorem getD_last {l : List Int} {a : Int} : (l ++ [a]).getD l.length 0 = a := by
  rw [List.getD_eq_getElem?_getD, List.getElem?_append_right (Nat.le_refl _)]; simp
theorem getLastD_getD {l : List Int} (h : l ≠ []) : l.getLastD 0 = l.getD (l.length - 1) 0 := by
  rw [List.getLastD_eq_getLast?, List.getLast?_eq_getElem?, List.getD_eq_getElem?_getD]
structure Inv1 (st : St1) (n : Nat) : Prop where
  pos : 0 < n
  nu : st.numbers.length = n
  it : st.into.length = n
  tr : st.tries.length = n
  last : st.numbers.getD (n - 1) 0 = (st.told.length : Int)
  lasti : st.into.getD (n - 1) 0 = (st.fed.length : Int)
  le : st.told.length ≤ st.fed.length
  tp : st.told = st.fed.take st.told.length
  due : ∀ t, t < n → IsDue st.into st.tries t (st.numbers.getD t 0)
  oct : KBa.In st.fed
theorem isDue_mono {into tries : List Int} {t : Nat} {M a b : Int} (h : IsDue into tries t M) (hi : t < into.length) (ht : t < tries.length) : IsDue (into ++ [a]) (tries ++ [b]) t M := by
  obtain ⟨⟨s, hs, e⟩, h2⟩ := h
  refine ⟨⟨s, hs, ?_⟩, fun s hs => ?_⟩
  · rw [getD_left (by omega), getD_left ht, getD_left (by omega)]; exact e
  · rw [getD_left (by omega), getD_left ht, getD_left (by omega)]; exact h2 s hs
/-- one moment more: T grows by δ, what was fed stands at I -/
theorem isDue_next {into tries : List Int} {n : Nat} {told I δ m : Int} (hn : 0 < n) (hi : into.length = n) (ht : tries.length = n) (h : IsDue into tries (n - 1) told)
    (hm : m = min (told + δ) I) : IsDue (into ++ [I]) (tries ++ [tries.getD (n - 1) 0 + δ]) n m := by
  obtain ⟨⟨s, hs, e⟩, h2⟩ := h
  have et : (tries ++ [tries.getD (n - 1) 0 + δ]).getD n 0 = tries.getD (n - 1) 0 + δ := by have := getD_last (l := tries) (a := tries.getD (n - 1) 0 + δ); rwa [ht] at this
  have ei : (into ++ [I]).getD n 0 = I := by have := getD_last (l := into) (a := I); rwa [hi] at this
  refine ⟨?_, fun s hs => ?_⟩
  · rcases Int.le_total (told + δ) I with hc | hc
    · refine ⟨s, by omega, ?_⟩
      rw [et, getD_left (by omega), getD_left (by omega)]; omega
    · refine ⟨n, Nat.le_refl _, ?_⟩
      rw [et, ei]; omega
  · rcases Nat.lt_or_ge s n with hc | hc
    · rw [et, getD_left (by omega), getD_left (by omega)]
      have := h2 s (by omega)
      omega
    · obtain rfl : s = n := by omega
      rw [et, ei]; omega
theorem take_snoc {l : List Int} {n : Nat} (h : n < l.length) : l.take n ++ [l.getD n 0] = l.take (n + 1) := by
  rw [List.take_add_one, List.getD_eq_getElem?_getD, List.getElem?_eq_getElem h]; rfl
theorem inv1_step {st : St1} {n : Nat} (h : Inv1 st n) (d : Option (List Int)) (hd : ∀ x, d = some x → KBa.In x) : Inv1 (step1 st d) (n + 1) := by
  obtain ⟨hpos, hnu, hit, htr, hlast, hlasti, hle, htp, hdue, hoct⟩ := h
  have hne : st.tries ≠ [] := fun e => by rw [e] at htr; simp at htr; omega
  have hL : st.tries.getLastD 0 = st.tries.getD (n - 1) 0 := by rw [getLastD_getD hne, htr]
  have h1 := hdue (n - 1) (by omega)
  rw [hlast] at h1
  have dues : ∀ {a I : Int} {m : Int}, IsDue (st.into ++ [I]) (st.tries ++ [a]) n m → ∀ t, t < n + 1 → IsDue (st.into ++ [I]) (st.tries ++ [a]) t ((st.numbers ++ [m]).getD t 0) := by
    intro a I m hn t ht
    rcases Nat.lt_or_ge t n with hc | hc
    · rw [getD_left (by omega)]; exact isDue_mono (hdue t hc) (by omega) (by omega)
    · obtain rfl : t = n := by omega
      have := getD_last (l := st.numbers) (a := m)
      rw [hnu] at this; rw [this]; exact hn
  have gl : ∀ {l : List Int} {a : Int}, l.length = n → (l ++ [a]).getD (n + 1 - 1) 0 = a := fun {l a} e => by
    have := getD_last (l := l) (a := a); rw [e] at this; simpa using this
  cases d with
  | none =>
    by_cases hc : st.told.length < st.fed.length
    · have e : step1 st none = ⟨st.fed, st.told ++ [st.fed.getD st.told.length 0], st.numbers ++ [((st.told ++ [st.fed.getD st.told.length 0]).length : Int)], st.into ++ [(st.fed.length : Int)], st.tries ++ [st.tries.getLastD 0 + 1]⟩ := by
        simp only [step1, if_pos hc]
      rw [e]
      refine ⟨by omega, by simp [hnu], by simp [hit], by simp [htr], gl hnu, gl hit, by simp; omega, ?_, ?_, hoct⟩
      · show st.told ++ [st.fed.getD st.told.length 0] = st.fed.take (st.told ++ [st.fed.getD st.told.length 0]).length
        rw [List.length_append, List.length_singleton, ← take_snoc hc, ← htp]
      · refine dues ?_
        rw [hL]
        exact isDue_next hpos hit htr h1 (by simp; omega)
    · have e : step1 st none = ⟨st.fed, st.told, st.numbers ++ [(st.told.length : Int)], st.into ++ [(st.fed.length : Int)], st.tries ++ [st.tries.getLastD 0 + 1]⟩ := by
        simp only [step1, if_neg hc]
      rw [e]
      refine ⟨by omega, by simp [hnu], by simp [hit], by simp [htr], gl hnu, gl hit, hle, htp, ?_, hoct⟩
      refine dues ?_
      rw [hL]
      exact isDue_next hpos hit htr h1 (by omega)
  | some x =>
    refine ⟨by omega, by simp [step1, hnu], by simp [step1, hit], by simp [step1, htr], gl hnu, gl hit, by simp [step1]; omega, ?_, ?_, ?_⟩
    · show st.told = (st.fed ++ x).take st.told.length
      rw [List.take_append_of_le_length hle]; exact htp
    · refine dues ?_
      have := isDue_next (I := ((st.fed ++ x).length : Int)) (δ := 0) (m := (st.told.length : Int)) hpos hit htr h1 (by simp; omega)
      rw [hL]; simpa using this
    · intro z hz
      rcases List.mem_append.mp hz with hz | hz
      · exact hoct z hz
      · exact hd x rfl z hz
theorem inv1_fold {ds : List (Option (List Int))} (hd : ∀ d ∈ ds, ∀ x, d = some x → KBa.In x) : ∀ {st : St1} {n : Nat}, Inv1 st n → Inv1 (ds.foldl step1 st) (n + ds.length) := by
  induction ds with
  | nil => intro st n h; exact h
  | cons d r ih =>
    intro st n h
    rw [List.foldl_cons, List.length_cons, show n + (r.length + 1) = (n + 1) + r.length by omega]
    exact ih (fun d' h' => hd d' (.tail _ h')) (inv1_step h d (hd d (.head _)))
theorem inv1_0 : Inv1 st01 1 := by
  refine ⟨by decide, rfl, rfl, rfl, rfl, rfl, Nat.le_refl _, rfl, fun t ht => ?_, fun z hz => nomatch hz⟩
  obtain rfl : t = 0 := by omega
  refine ⟨⟨0, Nat.le_refl _, rfl⟩, fun s hs => ?_⟩
  obtain rfl : s = 0 := by omega
  exact Int.le_refl _
theorem deed1_oct {n : Int} {x : List Int} (h : deed1 n = some x) : KBa.In x ∧ x.length ≤ 3 := by
  unfold deed1 at h
  split at h
  · cases h
    refine ⟨fun z hz => ?_, ?_⟩
    · obtain ⟨k, _, rfl⟩ := List.mem_map.mp hz
      exact ⟨Int.fmod_nonneg_of_pos _ (by decide), Int.fmod_lt_of_pos _ (by decide)⟩
    · rw [List.length_map, rangeKs_length]
      have := Int.fmod_lt_of_pos (n.fdiv 3) (b := 4) (by decide)
      omega
  · cases h
theorem deeds_oct {ns : List Int} (hn : ns.length ≤ 60) : ∀ d ∈ deedsOf ns, ∀ x, d = some x → KBa.In x ∧ x.length ≤ 3 := by
  intro d hd x e
  subst e
  unfold deedsOf at hd
  rcases List.mem_append.mp hd with hd | hd
  · rcases List.mem_cons.mp hd with e | hd
    · cases e
      refine ⟨fun z hz => ?_, by simp⟩
      simp only [List.mem_cons, List.not_mem_nil, or_false] at hz
      rcases hz with rfl | rfl <;> omega
    · obtain ⟨n, _, e⟩ := List.mem_map.mp hd
      exact deed1_oct e
  · simp at hd
theorem fed_len {ds : List (Option (List Int))} (h3 : ∀ d ∈ ds, ∀ x, d = some x → x.length ≤ 3) : ∀ (st : St1), (ds.foldl step1 st).fed.length ≤ st.fed.length + 3 * (ds.filter (·.isSome)).length := by
  induction ds with
  | nil => intro st; simp
  | cons d r ih =>
    intro st
    have := ih (fun d' h' => h3 d' (.tail _ h')) (step1 st d)
    rw [List.foldl_cons]
    cases d with
    | none => simpa [step1] using this
    | some x =>
      have hx := h3 _ (.head _) x rfl
      simp only [step1, List.length_append, List.filter_cons, Option.isSome_some, if_true, List.length_cons] at this ⊢
      omega
theorem deeds_len (ns : List Int) : (deedsOf ns).length = ns.length + 5 := by simp [deedsOf]
theorem deeds_some (ns : List Int) : ((deedsOf ns).filter (·.isSome)).length ≤ ns.length + 1 := by
  unfold deedsOf
  rw [List.filter_append, List.length_append]
  have h1 : ([none, none, none, none] : List (Option (List Int))).filter (·.isSome) = [] := rfl
  rw [h1]
  have := List.length_filter_le (·.isSome) (some [255, (ns.length : Int)] :: ns.map deed1)
  simp only [List.length_cons, List.length_map] at this
  simpa using this
theorem ok1_all {ns : List Int} (hn : ns.length ≤ 60) : ∀ i, i ≤ (deedsOf ns).length → Ok1 (((deedsOf ns).take i).foldl step1 st01) := by
  intro i hi
  have ho := deeds_oct hn
  have hsub : ∀ d ∈ (deedsOf ns).take i, d ∈ deedsOf ns := fun d hd => List.mem_of_mem_take hd
  have I := inv1_fold (ds := (deedsOf ns).take i) (fun d hd x e => (ho d (hsub d hd) x e).1) inv1_0
  have hl : ((deedsOf ns).take i).length = i := by rw [List.length_take]; omega
  rw [hl] at I
  have hf := fed_len (ds := (deedsOf ns).take i) (fun d hd x e => (ho d (hsub d hd) x e).2) st01
  have hs : (((deedsOf ns).take i).filter (·.isSome)).length ≤ ns.length + 1 :=
    Nat.le_trans (List.Sublist.length_le ((List.take_sublist i _).filter _)) (deeds_some ns)
  rw [deeds_len] at hi
  have h0 : st01.fed.length = 0 := rfl
  refine ⟨I.oct, I.le, by omega, fun e => ?_, by rw [I.tr]; omega, by rw [I.it]; omega, by rw [I.nu]; omega⟩
  have := I.tr; rw [e] at this; simp at this; omega
theorem isDue_unique {into tries : List Int} {t : Nat} {a b : Int} (ha : IsDue into tries t a) (hb : IsDue into tries t b) : a = b := by
  obtain ⟨⟨s, hs, e⟩, h⟩ := ha
  obtain ⟨⟨s', hs', e'⟩, h'⟩ := hb
  have := h s' hs'
  have := h' s hs
  omega
theorem due_eq {st : St1} {n : Nat} (h : Inv1 st n) {ndu : List Int} (hl : ndu.length = n) (hd : ∀ t, t < n → IsDue st.into st.tries t (ndu.getD t 0)) : st.numbers = ndu := by
  refine List.ext_getElem (by rw [h.nu, hl]) fun i h1 h2 => ?_
  have hi : i < n := by rw [← h.nu]; exact h1
  have := isDue_unique (h.due i hi) (hd i hi)
  rw [List.getD_eq_getElem?_getD, List.getD_eq_getElem?_getD, List.getElem?_eq_getElem h1, List.getElem?_eq_getElem h2] at this
  simpa using this
theorem inv1_end {ns : List Int} (hn : ns.length ≤ 60) : Inv1 ((deedsOf ns).foldl step1 st01) (1 + (deedsOf ns).length) := inv1_fold (fun d hd x e => (deeds_oct hn d hd x e).1) inv1_0
end
end Mine
namespace Mine
section
/-- a halt of the walk -/
def Stop (p : Prop) : Prop := p
theorem Stop.mk {p : Prop} (h : Stop p) : p := h
local macro_rules | `(tactic| walk_at "exec For Name Call cons nil") => `(tactic| ((with_reducible show wpAny _ _ (exec (Stmt.For _ _ _ _ _) _) _ _ _); refine Stop.mk ?_))
def restBody1 : List Stmt := lawBody1.drop 8
theorem allLt_mem {d : Nat} {l : List (Addr × Obj)} (h : AllLt d l) : ∀ p ∈ l, p.1 ≠ d := by
  induction l with
  | nil => intro p hp; cases hp
  | cons q r ih =>
    intro p hp
    rcases List.mem_cons.mp hp with rfl | hp
    · exact Nat.ne_of_lt h.1
    · exact ih h.2 p hp
theorem rest1 {w : World} {mg mb m0 u : Str → Option Value} {base : Heap} {mean : ExcName → Option Value} {s : Shared} {fa : Nat} {cd : Value} {g : Sg1} {c : Cts1} {st : St1} {tl : List (Addr × Obj)} {Q : Flow → Shared → Prop} {n : Nat} {vt : Option Value} :
    (hd1.heap_39 w.params).In base → Top topProg loose1 mean mg mb base → Below callerA base [] base → CodeHd base 48 44 →
    Fr base g.L s.heap (fun y => if st1.contains y then u y else m1 g.lNu g.lTo g.x g.lFe g.D m0 y) → News base g.L s.heap (led1 w.params g c ++ tl) → SgOk1 g → g.ot.data = .cell vt → OwnOff tl (adr1 g) → Rel1 c st → Inv1 st n → Ok1 st → n ≤ 100 →
    (∀ h' tk' m', Fr base g.L h' m' → News base g.L h' tl → Q (.ret (.bool true)) { s with heap := h', toks := tk' }) →
    wpAny (model PySem.Challenge.rw_dw0036_01.row.prog w) (callerA.deeper (env1 g.L fa cd)) (execs restBody1 (env1 g.L fa cd)) Q (fun _ _ => False) s := by
  w_top off
  k_fill
  intro X T B hCd F N hg dT hoff hR hV hO hn hQ
  obtain ⟨L, lTr, lIn, lNu, lTo, fn, cc, x, d, cF, cFed, lFe, D, q, dc, pm, ctv, t1, t2, tq, vs', ot, otr, oin, oc, oF, oFed⟩ := g
  obtain ⟨tr, it, nu, td, fd, k1, k2, k3, k4, k5, pos, tp⟩ := c
  obtain ⟨nfd, ntd, nnu, nit, ntr⟩ := st
  obtain ⟨hord, dF, dFed, dTr, dIn, dc1, dc2⟩ := hg
  obtain ⟨iTr, iIn, iNu, iTd, iFd, hpos⟩ := hR
  obtain ⟨hb, hle, h200, hne, htr, hit, hnu⟩ := hO
  obtain ⟨vp, vnu, vit, vtr, -, -, -, vtp, vdue, -⟩ := id hV
  simp only [led1, adr1, List.cons_append, List.nil_append] at *
  have l1 : tr.length ≤ 100 := by rw [iTr.length]; exact htr
  have l2 : it.length ≤ 100 := by rw [iIn.length]; exact hit
  have l3 : nu.length ≤ 100 := by rw [iNu.length]; exact hnu
  have l4 : td.length ≤ 200 := by rw [iTd.length]; omega
  have l5 : fd.length ≤ 200 := by rw [iFd.length]; omega
  k_steps
  show wpAny _ _ _ _ _ _
  refine wpAny_For ?_
  k_steps
  rename_i lDu hx a1 hy F0 N0 h2 tk2 r1 r2 r3 hr F N hk
  clear F0 N0
  refine due1 (k0 := 0) (k1 := k1) (k2 := k2) (T := (lNu, W.listOf nu.toArray k3) :: (lTo, W.listOf td.toArray k4) :: (lFe, W.listOf fd.toArray k5) :: tl) X T B hCd F ?_ ?_ ?_ dT dTr dIn iTr iIn (by omega) (by omega) hr ?_
  · intro p hp
    refine N p ?_
    simp only [List.mem_cons] at hp ⊢
    rcases hp with h | h | h | h | h | h | h | h | h | h <;> simp [h]
  · omega
  · have hAl : AllLt lDu tl := a1.2.2.2.2.2.2.2.2.2.2.2.2.2.2
    refine off_cons.mpr ⟨?_, off_cons.mpr ⟨?_, off_cons.mpr ⟨?_, ?_⟩⟩⟩
    · intro y hy
      simp only [List.mem_cons, List.not_mem_nil, or_false] at hy
      rcases hy with h | h | h | h | h | h <;> (subst h; k_ne)
    · intro y hy
      simp only [List.mem_cons, List.not_mem_nil, or_false] at hy
      rcases hy with h | h | h | h | h | h <;> (subst h; k_ne)
    · intro y hy
      simp only [List.mem_cons, List.not_mem_nil, or_false] at hy
      rcases hy with h | h | h | h | h | h <;> (subst h; k_ne)
    · intro p hp y hy
      rcases List.mem_cons.mp hy with h | hy
      · rw [h]; exact allLt_mem hAl p hp
      · refine hoff p hp y ?_
        simp only [List.mem_cons, List.not_mem_nil, or_false] at hy ⊢
        rcases hy with h | h | h | h | h <;> simp [h]
  · intro h' tk' du ndu k0' ot' F N iDu hlen hdue
    show wpAny _ _ _ _ _ _
    have l6 : du.length ≤ 100 := by rw [iDu.length]; omega
    k_steps
    all_goals (try k_data)
    · rename_i D' ws' h3 F3 N3 _ _ _ _
      rw [show decide (ntd = List.take (ntd.length : Int).toNat nfd) = true from decide_eq_true (by rw [Int.toNat_natCast]; exact vtp)]
      refine hQ _ _ _ F3 (fun p hp => N3 p ?_)
      simp only [List.mem_cons]
      simp [hp]
    · rename_i hc
      exact absurd (due_eq hV (by rw [hlen]; exact vit) (fun t ht => hdue t (by rw [vit]; exact ht))) hc
    · rename_i hc
      simp at hc
end
end Mine
namespace Mine
section
theorem start1 {w : World} {mg mb m0 : Str → Option Value} {base : Heap} {mean : ExcName → Option Value} {s : Shared} {fa : Nat} {cd : Value} {Q : Flow → Shared → Prop} {px : Pos}
    {L lTr lIn lNu lTo fn cc x d cF cFed lFe D : Nat} {q : Str} {dc pm ctv : Value} {t1 t2 tq a1 a2 a3 tp : Tok} {vs' tab : Array Value} {ot otr oin oc oF oFed : Obj} {ws : List Value} {ns : List Int} {vt : Option Value}
    (X : (hd1.heap_39 w.params).In base) (T : Top topProg loose1 mean mg mb base) (B : Below callerA base [] base) (hCd : CodeHd base 48 44)
    (F : Fr base L s.heap (m1 lNu lTo x lFe D m0))
    (N : News base L s.heap [(lTr, W.listOf #[Value.int 0 a1] 0), (lIn, W.listOf #[Value.int 0 a2] 0), (lNu, W.listOf #[Value.int 0 a3] 0), (lTo, W.listOf #[] 0), (fn, readFn1 q cFed cF dc pm cc ctv), (cc, oc), (x, instObj 38 d),
      (d, dictOf [⟨PyData.keyHash w.params (Str.ofString "value"), Value.str (Str.ofString "value") t1, Value.int 0 tp⟩, ⟨PyData.keyHash w.params (Str.ofString "read"), Value.str (Str.ofString "read") t2, Value.ref fn⟩] 2),
      (cF, oF), (cFed, oFed), (lFe, W.listOf #[] 0), (D, W.listOf ws.toArray 0), (L + 1 + 1 + 1, ot), (L + 1 + 1, otr), (L + 1, oin), (44, tabObj tab)])
    (hord : 44 < L ∧ L + 1 + 1 + 1 < D ∧ D < lFe ∧ lFe < cFed ∧ cFed < cF ∧ cF < d ∧ d < x ∧ x < cc ∧ cc < fn ∧ fn < lTo ∧ lTo < lNu ∧ lNu < lIn ∧ lIn < lTr)
    (dF : oF.data = .cell (some (.ref x))) (dFed : oFed.data = .cell (some (.ref lFe))) (dT : ot.data = .cell vt) (dTr : otr.data = .cell (some (.ref lTr))) (dIn : oin.data = .cell (some (.ref lIn))) (dc1 : oc.data = .fields vs') (dc2 : vs'[1]? = some (.str q tq))
    (hI : IntsAre ws ns) (hn : ns.length ≤ 60)
    (hQ : ∀ h' tk' m', Fr base L h' m' → News base L h' [(44, tabObj tab)] → Q (.ret (.bool true)) { s with heap := h', toks := tk' }) :
    wpAny (model PySem.Challenge.rw_dw0036_01.row.prog w) (callerA.deeper (env1 L fa cd)) (call (.ref 54) [.ref D]) (fun xv s₁ => wpAny (model PySem.Challenge.rw_dw0036_01.row.prog w) (callerA.deeper (env1 L fa cd)) (pyIter xv) (fun it s₂ => codeAny (model PySem.Challenge.rw_dw0036_01.row.prog w) (callerA.deeper (env1 L fa cd)) (.forLoop (.Name (Str.ofString "deed") px) it loopBody1 [] (env1 L fa cd))
      (fun r s' => match r with | .ok f => (match f with | .next => wpAny (model PySem.Challenge.rw_dw0036_01.row.prog w) (callerA.deeper (env1 L fa cd)) (execs restBody1 (env1 L fa cd)) Q (fun _ _ => False) s' | f => Q f s') | .error e => cameBackBy (model PySem.Challenge.rw_dw0036_01.row.prog w) (callerA.deeper (env1 L fa cd)) (env1 L fa cd) (fun _ _ => False) e s') s₂) (fun _ _ => False) s₁) (fun _ _ => False) s := by
  have hD : s.heap.IsList D ws.toArray := ⟨W.listOf ws.toArray 0, (N (D, W.listOf ws.toArray 0) (by simp)).1, rfl, 0, rfl⟩
  refine wpAny_call (deeds_ok X T (pushX (env := env1 L fa cd) B F rfl rfl) hD hI hn fun h' tk' l vals tl hk htl hl hl0 hall => ?_)
  show wpAny _ _ _ _ _ _
  let g : Sg1 := ⟨L, lTr, lIn, lNu, lTo, fn, cc, x, d, cF, cFed, lFe, D, q, dc, pm, ctv, t1, t2, tq, vs', ot, otr, oin, oc, oF, oFed⟩
  let c : Cts1 := ⟨[Value.int 0 a1], [Value.int 0 a2], [Value.int 0 a3], [], [], 0, 0, 0, 0, 0, 0, tp⟩
  have F' : Fr base L h' (m1 lNu lTo x lFe D m0) := hk.fr F (List.not_mem_nil) (fun _ h => nomatch h)
  have live : ∀ p ∈ led1 w.params g c ++ [(D, W.listOf ws.toArray 0), (44, tabObj tab)], s.heap.get? p.1 = some p.2 ∧ p.1 ≠ L ∧ base.get? p.1 = none := by
    intro p hp
    refine N p ?_
    simp only [led1, g, c, List.mem_cons, List.cons_append, List.nil_append, List.not_mem_nil, or_false] at hp ⊢
    rcases hp with h | h | h | h | h | h | h | h | h | h | h | h | h | h | h | h <;> simp [h]
  have hLs : ∃ o, s.heap.get? L = some o := by obtain ⟨o, _, _, e, _⟩ := F.ns; exact ⟨o, e⟩
  have fresh : ∀ {b : Addr}, s.heap.get? b = none → b ≠ L ∧ base.get? b = none := by
    intro b hb
    refine ⟨fun e => ?_, ?_⟩
    · obtain ⟨o, ho⟩ := hLs; rw [e, ho] at hb; cases hb
    · cases q : base.get? b with
      | none => rfl
      | some o => rw [F.keep b o q] at hb; cases hb
  have N' : News base L h' (led1 w.params g c ++ ([(D, W.listOf ws.toArray 0), (44, tabObj tab)] ++ tl)) := by
    intro p hp
    rw [← List.append_assoc] at hp
    rcases List.mem_append.mp hp with hp | hp
    · obtain ⟨h1, h2, h3⟩ := live p hp
      exact ⟨hk _ _ List.not_mem_nil h1, h2, h3⟩
    · obtain ⟨h1, h2, _⟩ := htl p hp
      exact ⟨h1, fresh h2⟩
  have hg : SgOk1 g := ⟨by simp only [g]; omega, dF, dFed, dTr, dIn, dc1, dc2⟩
  have hoff : OwnOff ([(D, W.listOf ws.toArray 0), (44, tabObj tab)] ++ tl) (adr1 g) := by
    refine off_app.mpr ⟨?_, ?_⟩
    · refine off_cons.mpr ⟨?_, off_cons.mpr ⟨?_, fun _ h => nomatch h⟩⟩
      · intro y hy
        simp only [adr1, g, List.mem_cons, List.not_mem_nil, or_false] at hy
        rcases hy with h | h | h | h | h | h | h | h | h | h | h | h | h | h <;> (subst h; k_ne)
      · intro y hy
        simp only [adr1, g, List.mem_cons, List.not_mem_nil, or_false] at hy
        rcases hy with h | h | h | h | h | h | h | h | h | h | h | h | h | h <;> (subst h; k_ne)
    · intro p hp y hy e
      rw [← led1_adr w.params g c] at hy
      obtain ⟨p', hp', rfl⟩ := List.mem_map.mp hy
      have h1 := (live p' (List.mem_append_left _ hp')).1
      rw [← e, (htl p hp).2.1] at h1; cases h1
  refine main1 (g := g) (c := c) (st0 := st01) (tl := [(D, W.listOf ws.toArray 0), (44, tabObj tab)] ++ tl) X T B hCd F' N' hg hoff ⟨.cons _ _ .nil, .cons _ _ .nil, .cons _ _ .nil, .nil, .nil, rfl⟩ hl (fresh hl0).1 (fresh hl0).2 ?_
    (hall.mono fun _ _ h => h.mono fun p hp => List.mem_append_right _ hp) (fun d hd x e => (deeds_oct hn d hd x e).2) (ok1_all hn) ?_
  · intro p hp e
    rw [← List.append_assoc] at hp
    rcases List.mem_append.mp hp with hp | hp
    · have h1 := (live p hp).1
      rw [e, hl0] at h1; cases h1
    · exact (htl p hp).2.2 e
  · intro u h2 tk2 c2 F2 N2 R2
    show wpAny _ _ _ _ _ _
    have hV := inv1_end hn
    refine rest1 (g := g) (n := 1 + (deedsOf ns).length) X T B hCd F2 N2 hg dT hoff R2 hV ?_ (by rw [deeds_len]; omega) ?_
    · have := ok1_all hn (deedsOf ns).length (Nat.le_refl _)
      rwa [List.take_length] at this
    · intro h3 tk3 m3 F3 N3
      exact hQ h3 tk3 m3 F3 (fun p hp => N3 p (by simp only [List.mem_cons, List.not_mem_nil, or_false] at hp; simp [hp]))
end
end Mine
section
open Mine
local macro_rules | `(tactic| walk_at "exec For Name Call cons nil") => `(tactic| ((with_reducible show wpAny _ _ (exec (Stmt.For _ _ _ _ _) _) _ _ _); refine Stop.mk ?_))
local macro_rules | `(tactic| walk_at "call ref") => `(tactic| ((with_reducible show wpAny _ _ (call (Value.ref 54) _) _ _ _); refine Stop.mk ?_))
theorem PySem.Challenge.cw_dw0036_01_holds : PySem.Challenge.rw_dw0036_01.Holds := by
  refine hd1 ?_
  w_strict k_go0
  refine wpAny_noRaise ?_
  k_fold
  k_steps
  show wpAny _ _ _ _ _ _
  refine wpAny_For ?_
  k_steps
  show wpAny _ _ _ _ _ _
  rename Fr _ _ _ _ => F
  rename News _ _ _ _ => N
  refine start1 (by assumption) (by assumption) (by assumption) (by assumption) F N (by omega) (by assumption) (by assumption) (by assumption) (by assumption) (by assumption) (by assumption) (by assumption) (by assumption) (by rw [List.length_take]; omega) ?_
  intro h' tk' m' F' N'
  k_steps
end
