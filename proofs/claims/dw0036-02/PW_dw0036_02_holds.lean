import PyProof.Rows.All
import Wide.All
import OpenK.AllK
import Wide.FinOn
import PySem.Challenge.RW_dw0036_02
open PySem PySem.W PySem.Spec PySem.Calls PyProof.Rows
set_option Elab.async false
set_option maxRecDepth 100000
set_option maxHeartbeats 8000000
namespace Mine
section
theorem off1_mem {D : Addr} {l : List (Addr × Obj)} (h : LCg.Off1 D l) : ∀ p ∈ l, p.1 ≠ D := by
  induction l with
  | nil => intro p hp; cases hp
  | cons q r ih =>
    intro p hp
    rcases List.mem_cons.mp hp with rfl | hp
    · exact h.1
    · exact ih h.2 p hp
theorem off_app {a b : List (Addr × Obj)} {adr : List Addr} : OwnOff (a ++ b) adr ↔ OwnOff a adr ∧ OwnOff b adr :=
  ⟨fun h => ⟨fun p hp => h p (List.mem_append_left _ hp), fun p hp => h p (List.mem_append_right _ hp)⟩, fun h p hp => (List.mem_append.mp hp).elim (h.1 p) (h.2 p)⟩
theorem off_cons {q : Addr × Obj} {b : List (Addr × Obj)} {adr : List Addr} : OwnOff (q :: b) adr ↔ (∀ x ∈ adr, q.1 ≠ x) ∧ OwnOff b adr :=
  ⟨fun h => ⟨h q (.head _), fun p hp => h p (.tail _ hp)⟩, fun h p hp => by rcases List.mem_cons.mp hp with rfl | hp; exact h.1; exact h.2 p hp⟩
theorem off_adr {x : Addr} {b : List (Addr × Obj)} {adr : List Addr} : OwnOff b (x :: adr) ↔ (∀ p ∈ b, p.1 ≠ x) ∧ OwnOff b adr :=
  ⟨fun h => ⟨fun p hp => h p hp x (.head _), fun p hp y hy => h p hp y (.tail _ hy)⟩, fun h p hp y hy => by rcases List.mem_cons.mp hy with rfl | hy; exact h.1 p hp; exact h.2 p hp y hy⟩
theorem off_nil {b : List (Addr × Obj)} : OwnOff b [] := fun _ _ _ h => nomatch h
theorem off_swap {a b : List (Addr × Obj)} : OwnOff a (b.map (·.1)) ↔ OwnOff b (a.map (·.1)) := by
  have : ∀ {a b : List (Addr × Obj)}, OwnOff a (b.map (·.1)) → OwnOff b (a.map (·.1)) := fun h p hp x hx => by
    obtain ⟨q, hq, rfl⟩ := List.mem_map.mp hx
    exact fun e => h q hq p.1 (List.mem_map.mpr ⟨p, hp, rfl⟩) e.symm
  exact ⟨this, this⟩

section
variable {prog : Program} {w : World} {A : Around} {s : Shared} {env : Env} {h₀ : Heap}

/-- a for over an iterator that walks; the target is stored by the walk itself (a local or a cell) -/
theorem for_walks {x : Str} {px : Pos} {body : List Stmt} {Q : Flow → Shared → Prop} {E : Value → Shared → Prop} {I : Addr} {fp wr : List Addr} {n : Nat} {P : Nat → Value → Prop} {St : Nat → Heap → Prop} {m : Str → Option Value} {news : List (Addr × Obj)}
    (W : Walks prog w A I fp wr n P St) (hE : PassesOwn (model prog w) A env E) (hLf : env.locals ∉ fp) (hwr : ∀ b ∈ wr, h₀.get? b = none) (hfp : ∀ b ∈ fp, b ∈ wr ∨ ∃ o, h₀.get? b = some o)
    (hlive : ∀ i h, St i h → ∀ b ∈ wr, ∃ o, h.get? b = some o) (hnw : ∀ p ∈ news, p.1 ∉ wr) (hst : St 0 s.heap) (F : Fr h₀ env.locals s.heap m) (N : News h₀ env.locals s.heap news)
    (J : Nat → (Str → Option Value) → List (Addr × Obj) → Prop) (h0 : J 0 m news)
    (turn : ∀ i v m₁ nx h tk own, i < n → P i v → OwnOff own (nx.map (·.1)) → J i m₁ nx → St (i + 1) h → (∀ b ∈ wr, ∀ o, h.get? b = some o → (b, o) ∈ own) → Fr h₀ env.locals h m₁ → News h₀ env.locals h (nx ++ own) →
      wpAny (model prog w) A (storeName env x v) (fun _ s₂ => wpAny (model prog w) A (execs body env) (InvPostG h₀ env.locals (J (i + 1)) own { s with heap := h, toks := tk } Q) E s₂) E { s with heap := h, toks := tk })
    (done : ∀ m₁ nx h tk, J n m₁ nx → Fr h₀ env.locals h m₁ → News h₀ env.locals h nx → Q .next { s with heap := h, toks := tk }) :
    codeAny (model prog w) A (.forLoop (.Name x px) (.ref I) body [] env) (fun r s' => match r with | .ok f => Q f s' | .error e => cameBackBy (model prog w) A env E e s') s := by
  have hLw : env.locals ∉ wr := fun h => hLf (W.sub _ h)
  have old : ∀ b o, h₀.get? b = some o → b ∉ wr := fun b o e hb => by rw [hwr b hb] at e; cases e
  refine codeAny_forLoop
    (fun k s' => ∃ h' tk m' news' i, s' = { s with heap := h', toks := tk } ∧ St i h' ∧ Fr h₀ env.locals h' m' ∧ News h₀ env.locals h' news' ∧ (∀ p ∈ news', p.1 ∉ wr) ∧ J i m' news' ∧ i ≤ n ∧ k = n + 1 - i) ?_ (n + 1)
    ⟨s.heap, s.toks, m, news, 0, rfl, hst, F, N, hnw, h0, Nat.zero_le _, rfl⟩
  rintro k s' ⟨h', tk, m', news', i, rfl, hst', F', N', hnw', hJ, hi, rfl⟩
  have next : ∀ h₁ : Heap, (∀ b o, b ∉ wr → h'.get? b = some o → h₁.get? b = some o) → Fr h₀ env.locals h₁ m' ∧ News h₀ env.locals h₁ news' := fun h₁ hk₁ =>
    ⟨⟨F'.ns.at' fun o e => hk₁ _ o hLw e, fun b o e => hk₁ b o (old b o e) (F'.keep b o e), F'.above⟩, fun p hp => ⟨hk₁ _ _ (hnw' p hp) (N' p hp).1, (N' p hp).2⟩⟩
  by_cases hlt : i < n
  · refine W.item i _ _ _ hlt hst' fun v h₁ tk₁ hP hst₁ hk₁ => ?_
    obtain ⟨F₁, N₁⟩ := next h₁ hk₁
    have Nown : News h₀ env.locals h₁ (ownOf h₀ wr h₁) := news_ownOf hLw
    have hall : ∀ b ∈ wr, ∀ o, h₁.get? b = some o → (b, o) ∈ ownOf h₀ wr h₁ := fun b hb o e => mem_ownOf hb (hwr b hb) e
    have hoff : OwnOff (ownOf h₀ wr h₁) (news'.map (·.1)) := by
      intro p hp b hb e
      obtain ⟨q, hq, rfl⟩ := List.mem_map.mp hb
      exact hnw' q hq (e ▸ ownOf_sub p hp)
    refine wpAny_assign_Name ?_
    have T := turn i v m' news' h₁ tk₁ (ownOf h₀ wr h₁) hlt hP hoff hJ hst₁ hall F₁ (N₁.append Nown)
    refine wpAny_mono (wpAny_passesOwn hE T) (fun _ s₂ h₂ => ?_) fun _ _ e => e
    refine wpAny_mono (wpAny_passesOwn hE h₂) (fun f s₃ h₃ => ?_) fun _ _ e => e
    have fin : InvEndG h₀ env.locals (J (i + 1)) (ownOf h₀ wr h₁) { s with heap := h₁, toks := tk₁ } s₃ →
        ∃ m, m < n + 1 - i ∧ ∃ h' tk m' news' j, s₃ = { s with heap := h', toks := tk } ∧ St j h' ∧ Fr h₀ env.locals h' m' ∧ News h₀ env.locals h' news' ∧ (∀ p ∈ news', p.1 ∉ wr) ∧ J j m' news' ∧ j ≤ n ∧ m = n + 1 - j := by
      rintro ⟨h₃', tk₃, m₃, n₃, nx, rfl, F₃, N₃, hnx, hown, ho, hJ₃⟩
      refine ⟨n + 1 - (i + 1), by omega, h₃', tk₃, m₃, nx, i + 1, rfl, ?_, F₃, fun p hp => N₃ p (hnx p hp), ?_, hJ₃, hlt, rfl⟩
      · refine W.frame _ _ _ hst₁ fun b hb o e => ?_
        rcases hfp b hb with hb' | ⟨o₀, ho₀⟩
        · exact (N₃ _ (hown _ (hall b hb' o e))).1
        · have : o₀ = o := by have := F₁.keep b o₀ ho₀; rw [e] at this; exact (Option.some.inj this).symm
          exact this ▸ F₃.keep b o₀ ho₀
      · intro p hp hb
        obtain ⟨o, e⟩ := hlive _ _ hst₁ _ hb
        exact ho _ (hall _ hb o e) p.1 (List.mem_map.mpr ⟨p, hp, rfl⟩) rfl
    cases f with
    | ret v => exact h₃
    | brk => exact h₃
    | next => exact fin h₃
    | cont => exact fin h₃
  · have hin : i = n := by omega
    subst hin
    refine W.done _ _ _ hst' fun h₁ tk₁ hk₁ => wpAny_execs_nil ?_
    obtain ⟨F₁, N₁⟩ := next h₁ hk₁
    exact done m' news' h₁ tk₁ hJ F₁ N₁

theorem Walks.wider {I : Addr} {fp wr : List Addr} {n : Nat} {P : Nat → Value → Prop} {St : Nat → Heap → Prop} (W : Walks prog w A I fp wr n P St) : Walks prog w A I fp fp n P St where
  sub := fun _ h => h
  frame := W.frame
  item := fun i s Q E hi st hQ => W.item i s Q E hi st fun v h' tk hP hst hk => hQ v h' tk hP hst fun b o hb e => hk b o (fun q => hb (W.sub _ q)) e
  done := fun s Q E st hQ => W.done s Q E st fun h' tk hk => hQ h' tk fun b o hb e => hk b o (fun q => hb (W.sub _ q)) e
  self := W.self

/-- the frame's names but those stored are as they were -/
def SameMap (stored : List Str) (m m' : Str → Option Value) : Prop := ∀ z, stored.contains z = false → m' z = m z
theorem SameMap.fr {stored : List Str} {m m' : Str → Option Value} {L : Addr} {h : Heap} (e : SameMap stored m m') (F : Fr h₀ L h m') : Fr h₀ L h (fun y => if stored.contains y then m' y else m y) := by
  have : (fun y => if stored.contains y then m' y else m y) = m' := by
    funext y
    cases hy : stored.contains y with
    | true => rfl
    | false => exact (e y hy).symm
  rw [this]; exact F
def MJ (stored : List Str) (m : Str → Option Value) (J : Nat → List (Addr × Obj) → Prop) (i : Nat) (m' : Str → Option Value) (nx : List (Addr × Obj)) : Prop := SameMap stored m m' ∧ J i nx

/-- a for over a list that the call has made: its entry stands apart from the ledger -/
theorem for_list {x : Str} {px : Pos} {body : List Stmt} {Q : Flow → Shared → Prop} {E : Value → Shared → Prop} {l : Addr} {vs : List Value} {m : Str → Option Value} {news : List (Addr × Obj)}
    (hE : PassesOwn (model prog w) A env E) (hh : A.handled = none) (hl : s.heap.IsList l vs.toArray) (hlL : l ≠ env.locals) (hl0 : h₀.get? l = none) (hnl : ∀ p ∈ news, p.1 ≠ l)
    (F : Fr h₀ env.locals s.heap m) (N : News h₀ env.locals s.heap news)
    (stored : List Str) (J : Nat → List (Addr × Obj) → Prop) (h0 : J 0 news)
    (turn : ∀ i v (u : Str → Option Value) nx h tk own, vs[i]? = some v → OwnOff own (nx.map (·.1)) → J i nx → Fr h₀ env.locals h (fun y => if stored.contains y then u y else m y) → News h₀ env.locals h (nx ++ own) →
      wpAny (model prog w) A (storeName env x v) (fun _ s₂ => wpAny (model prog w) A (execs body env) (InvPostG h₀ env.locals (MJ stored m J (i + 1)) own { s with heap := h, toks := tk } Q) E s₂) E { s with heap := h, toks := tk })
    (done : ∀ (u : Str → Option Value) nx h tk, J vs.length nx → Fr h₀ env.locals h (fun y => if stored.contains y then u y else m y) → News h₀ env.locals h nx → Q .next { s with heap := h, toks := tk }) :
    wpAny (model prog w) A (pyIter (.ref l)) (fun it s₂ => codeAny (model prog w) A (.forLoop (.Name x px) it body [] env) (fun r s' => match r with | .ok f => Q f s' | .error e => cameBackBy (model prog w) A env E e s') s₂) E s := by
  obtain ⟨ol, hol, hrest⟩ := id hl
  have hlt : l < s.heap.objs.size := Heap.lt_size hol
  refine wpAny_pyIter_list hl ?_
  have W := Walks.wider (Walks.list (prog := prog) (w := w) hh s.heap.objs.size l (Nat.ne_of_lt hlt) vs.toArray)
  rw [List.size_toArray] at W
  have hI0 : h₀.get? s.heap.objs.size = none := next_is_new F
  refine for_walks (s := { s with heap := s.heap.push _ }) (m := m) (news := news) (h₀ := h₀) W hE ?_ ?_ (fun b hb => .inl hb) ?_ ?_
    ⟨⟨_, Heap.get?_push_size _ rfl, rfl, rfl⟩, hl.at fun o e => Heap.get?_push_of_some _ e⟩ (F.push _) (fun p hp => ⟨Heap.get?_push_of_some _ (N p hp).1, (N p hp).2⟩) (MJ stored m J) ⟨fun _ _ => rfl, h0⟩ ?_ ?_
  · intro hm
    rcases List.mem_cons.mp hm with e | hm
    · exact absurd F.ns.lt (e ▸ Nat.lt_irrefl _)
    · exact hlL (List.mem_singleton.mp hm).symm
  · intro b hb
    rcases List.mem_cons.mp hb with e | hb
    · rw [e]; exact hI0
    · rw [List.mem_singleton.mp hb]; exact hl0
  · rintro i h ⟨⟨o, ho, _⟩, ⟨o', ho', _⟩⟩ b hb
    rcases List.mem_cons.mp hb with e | hb
    · exact ⟨o, e ▸ ho⟩
    · exact ⟨o', (List.mem_singleton.mp hb) ▸ ho'⟩
  · intro p hp hb
    rcases List.mem_cons.mp hb with e | hb
    · exact absurd (Heap.lt_size (N p hp).1) (e ▸ Nat.lt_irrefl _)
    · exact hnl p hp (List.mem_singleton.mp hb)
  · intro i v m₁ nx h tk own hi hP hoff hJ _ _ F₁ N₁
    exact turn i v m₁ nx h tk own (by simpa using hP) hoff hJ.2 (hJ.1.fr F₁) N₁
  · intro m₁ nx h tk hJ F₁ N₁
    exact done m₁ nx h tk hJ.2 (hJ.1.fr F₁) N₁

/-- a for over a list that stood before the frame -/
theorem for_old {x : Str} {px : Pos} {body : List Stmt} {Q : Flow → Shared → Prop} {E : Value → Shared → Prop} {l : Addr} {vs : List Value} {m : Str → Option Value} {news : List (Addr × Obj)}
    (hE : PassesOwn (model prog w) A env E) (hh : A.handled = none) (hl : h₀.IsList l vs.toArray)
    (F : Fr h₀ env.locals s.heap m) (N : News h₀ env.locals s.heap news)
    (stored : List Str) (J : Nat → List (Addr × Obj) → Prop) (h0 : J 0 news)
    (turn : ∀ i v (u : Str → Option Value) nx h tk own, vs[i]? = some v → OwnOff own (nx.map (·.1)) → J i nx → Fr h₀ env.locals h (fun y => if stored.contains y then u y else m y) → News h₀ env.locals h (nx ++ own) →
      wpAny (model prog w) A (storeName env x v) (fun _ s₂ => wpAny (model prog w) A (execs body env) (InvPostG h₀ env.locals (MJ stored m J (i + 1)) own { s with heap := h, toks := tk } Q) E s₂) E { s with heap := h, toks := tk })
    (done : ∀ (u : Str → Option Value) nx h tk, J vs.length nx → Fr h₀ env.locals h (fun y => if stored.contains y then u y else m y) → News h₀ env.locals h nx → Q .next { s with heap := h, toks := tk }) :
    wpAny (model prog w) A (pyIter (.ref l)) (fun it s₂ => codeAny (model prog w) A (.forLoop (.Name x px) it body [] env) (fun r s' => match r with | .ok f => Q f s' | .error e => cameBackBy (model prog w) A env E e s') s₂) E s := by
  have hls : s.heap.IsList l vs.toArray := hl.at fun o e => F.keep l o e
  obtain ⟨ol, hol, _⟩ := id hl
  have hlt : l < h₀.objs.size := Heap.lt_size hol
  have hne : l ≠ s.heap.objs.size := Nat.ne_of_lt (Nat.lt_trans (Nat.lt_of_lt_of_le hlt F.above) F.ns.lt)
  refine wpAny_pyIter_list hls ?_
  have W := Walks.list (prog := prog) (w := w) hh s.heap.objs.size l hne vs.toArray
  rw [List.size_toArray] at W
  refine for_walks (s := { s with heap := s.heap.push _ }) (m := m) (news := news) (h₀ := h₀) W hE ?_ ?_ ?_ ?_ ?_
    ⟨⟨_, Heap.get?_push_size _ rfl, rfl, rfl⟩, hls.at fun o e => Heap.get?_push_of_some _ e⟩ (F.push _) (fun p hp => ⟨Heap.get?_push_of_some _ (N p hp).1, (N p hp).2⟩) (MJ stored m J) ⟨fun _ _ => rfl, h0⟩ ?_ ?_
  · intro hm
    rcases List.mem_cons.mp hm with e | hm
    · exact absurd F.ns.lt (e ▸ Nat.lt_irrefl _)
    · exact absurd (Nat.lt_of_lt_of_le hlt F.above) ((List.mem_singleton.mp hm) ▸ Nat.lt_irrefl _)
  · intro b hb
    rw [List.mem_singleton.mp hb]
    exact next_is_new F
  · intro b hb
    rcases List.mem_cons.mp hb with e | hb
    · exact .inl (by simp [e])
    · exact .inr ⟨ol, (List.mem_singleton.mp hb) ▸ hol⟩
  · rintro i h ⟨⟨o, ho, _⟩, _⟩ b hb
    exact ⟨o, (List.mem_singleton.mp hb) ▸ ho⟩
  · intro p hp hb
    exact absurd (Heap.lt_size (N p hp).1) ((List.mem_singleton.mp hb) ▸ Nat.lt_irrefl _)
  · intro i v m₁ nx h tk own hi hP hoff hJ _ _ F₁ N₁
    exact turn i v m₁ nx h tk own (by simpa using hP) hoff hJ.2 (hJ.1.fr F₁) N₁
  · intro m₁ nx h tk hJ F₁ N₁
    exact done m₁ nx h tk hJ.2 (hJ.1.fr F₁) N₁

/-- a for over a range -/
theorem for_range {x : Str} {px : Pos} {body : List Stmt} {Q : Flow → Shared → Prop} {E : Value → Shared → Prop} {r : Addr} {a b : Int} {t u v : Tok} {n : Nat} {m : Str → Option Value} {news : List (Addr × Obj)}
    (hE : PassesOwn (model prog w) A env E) (hh : A.handled = none) (hr : IsRange s.heap r a b 1 t u v) (hsmall : Builtin.Range.small a b 1 = true) (hn : Builtin.Range.rangeSize a b 1 = (n : Int))
    (F : Fr h₀ env.locals s.heap m) (N : News h₀ env.locals s.heap news)
    (stored : List Str) (J : Nat → List (Addr × Obj) → Prop) (h0 : J 0 news)
    (turn : ∀ (i : Nat) tv (u : Str → Option Value) nx h tk own, i < n → OwnOff own (nx.map (·.1)) → J i nx → Fr h₀ env.locals h (fun y => if stored.contains y then u y else m y) → News h₀ env.locals h (nx ++ own) →
      wpAny (model prog w) A (storeName env x (.int (a + i) tv)) (fun _ s₂ => wpAny (model prog w) A (execs body env) (InvPostG h₀ env.locals (MJ stored m J (i + 1)) own { s with heap := h, toks := tk } Q) E s₂) E { s with heap := h, toks := tk })
    (done : ∀ (u : Str → Option Value) nx h tk, J n nx → Fr h₀ env.locals h (fun y => if stored.contains y then u y else m y) → News h₀ env.locals h nx → Q .next { s with heap := h, toks := tk }) :
    wpAny (model prog w) A (pyIter (.ref r)) (fun it s₂ => codeAny (model prog w) A (.forLoop (.Name x px) it body [] env) (fun r s' => match r with | .ok f => Q f s' | .error e => cameBackBy (model prog w) A env E e s') s₂) E s := by
  refine wpAny_pyIter_range hr hsmall ?_
  have W := Walks.range (prog := prog) (w := w) (A := A) hh s.heap.objs.size a 1 n
  refine for_walks (s := { s with heap := s.heap.push _ }) (m := m) (news := news) (h₀ := h₀) W hE ?_ ?_ (fun b hb => .inl hb) ?_ ?_ ?_ (F.push _) (fun p hp => ⟨Heap.get?_push_of_some _ (N p hp).1, (N p hp).2⟩) (MJ stored m J) ⟨fun _ _ => rfl, h0⟩ ?_ ?_
  · intro hm
    exact absurd F.ns.lt ((List.mem_singleton.mp hm) ▸ Nat.lt_irrefl _)
  · intro b hb
    rw [List.mem_singleton.mp hb]
    exact next_is_new F
  · rintro i h ho b hb
    exact ⟨_, (List.mem_singleton.mp hb) ▸ ho⟩
  · intro p hp hb
    exact absurd (Heap.lt_size (N p hp).1) ((List.mem_singleton.mp hb) ▸ Nat.lt_irrefl _)
  · show IsRangeIter _ _ _ _ _
    have := Heap.get?_push_size s.heap (o := { cls := .type "range_iterator", data := .fields #[rawInt a, rawInt (Builtin.Range.rangeSize a b 1), rawInt 1] }) rfl
    simpa [IsRangeIter, hn] using this
  · rintro i v m₁ nx h tk own hi ⟨tv, rfl⟩ hoff hJ _ _ F₁ N₁
    have := turn i tv m₁ nx h tk own hi hoff hJ.2 (hJ.1.fr F₁) N₁
    simpa using this
  · intro m₁ nx h tk hJ F₁ N₁
    exact done m₁ nx h tk hJ.2 (hJ.1.fr F₁) N₁
end

/- the frames of the callers, over the state's own heap; what the callee may change stands in ds -/
section
variable {prog : Program} {w : World} {A : Around} {s : Shared} {base : Heap} {outs : List Env} {ds : List (Addr × Obj)}
  {R : Result → Shared → Prop} {name qual : Str} {params : Arguments} {body : List Stmt} {scope : Scope} {cl : List (Str × Addr)} {dV kV doc pm cdv ct : Value} {an : Option Addr} {fo : Obj} {f : Addr} {args : Args} {binds : List (Str × Value)}

theorem groundG (B : Below A base outs s.heap) (D : ∀ p ∈ ds, s.heap.get? p.1 = some p.2 ∧ base.get? p.1 = none) (hfr : ∀ env ∈ outs, ∀ p ∈ ds, env.frame ≠ some p.1) :
    Below A base outs (hideAll s.heap (ds.map (·.1))) := by
  refine ⟨B.stack, fun b o e => hideAll_get _ (B.stays b o e) fun q => ?_, funFrames_hideAll B.frames fun env he b hb hf => ?_⟩
  · obtain ⟨p, hp, rfl⟩ := List.mem_map.mp q
    rw [(D p hp).2] at e; cases e
  · obtain ⟨p, hp, rfl⟩ := List.mem_map.mp hb
    exact hfr env he p hp hf

theorem callG (B : Below A base outs s.heap) (D : ∀ p ∈ ds, s.heap.get? p.1 = some p.2 ∧ base.get? p.1 = none) (hfr : ∀ env ∈ outs, ∀ p ∈ ds, env.frame ≠ some p.1) (hlim : base.NoLimit)
    (ho : s.heap.get? f = some fo) (hd : fo.data = .func (fnX name qual params body scope cl dV kV doc pm an cdv ct)) (hcd : s.heap.CodeRec cdv qual) (hroom : A.depth < recursionLimit)
    (hbind : BindsTo s (fnX name qual params body scope cl dV kV doc pm an cdv ct) args binds) (hloc : ∀ y ∈ binds, scope.names.lookup y.1 = some .local)
    (h : ∀ g L' h₁, g = hideAll s.heap (ds.map (·.1)) → L' = s.heap.objs.size → Fr g L' h₁ (fun y => binds.reverse.lookup y) → News g L' h₁ ds → Below A base outs g → (∀ p ∈ ds, p.1 < L') →
      wpAny (model prog w) (A.deeper (envX qual scope L' f cdv cl)) (execs body (envX qual scope L' f cdv cl))
        (fun fl s' => R (.ok (.ret (match fl with | .ret v => v | _ => .none))) s')
        (fun e s' => wpAny (model prog w) (A.deeper (envX qual scope L' f cdv cl)) (leaving (envX qual scope L' f cdv cl) e) (fun _ s'' => R (.error e) s'') (fun e' s'' => R (.error e') s'') s')
        { s with heap := h₁, toks := s.toks + binds.length })
    (hcell : ∀ x ∈ scope.names, x.2 ≠ .cell) (hco : scope.isCoroutine = false := by rfl) (hgen : scope.isGenerator = false := by rfl) (hk : scope.kind = .function := by rfl) : codeAny (model prog w) A (.call (.ref f) args) R s := by
  have BG := groundG B D hfr
  refine codeAny_call_def (fd := fnX name qual params body scope cl dV kV doc pm an cdv ct) (body := body) (binds := binds) hroom ho hd (hlim.keeps B.stays) hcd rfl hbind hcell hloc (fun h₁ hns hk₁ => ?_) hco hgen hk
  exact h _ _ h₁ rfl rfl ⟨hns, fun b o e => hk₁ b o (of_hideAll _ e), Nat.le_of_eq (hideAll_size _ _)⟩
    (fun p hp => ⟨hk₁ _ _ (D p hp).1, Nat.ne_of_lt (Heap.lt_size (D p hp).1), hideAll_none _ (List.mem_map_of_mem hp)⟩) BG (fun p hp => Heap.lt_size (D p hp).1)

theorem callGC (B : Below A base outs s.heap) (D : ∀ p ∈ ds, s.heap.get? p.1 = some p.2 ∧ base.get? p.1 = none) (hfr : ∀ env ∈ outs, ∀ p ∈ ds, env.frame ≠ some p.1) (hlim : base.NoLimit)
    (ho : s.heap.get? f = some fo) (hd : fo.data = .func (fnX name qual params body scope [] dV kV doc pm an cdv ct)) (hcd : s.heap.CodeRec cdv qual) (hroom : A.depth < recursionLimit)
    (hbind : BindsTo s (fnX name qual params body scope [] dV kV doc pm an cdv ct) args binds)
    (hkind : (binds.all fun y => scope.names.lookup y.1 == some .local || scope.names.lookup y.1 == some .cell) = true) (hnd : ((cellsFrom 0 scope.names []).map (·.1)).Nodup)
    (h : ∀ g L' h₁ tk cells, g = hideAll s.heap (ds.map (·.1)) → L' = s.heap.objs.size → Fr g L' h₁ (bindL (envOfC qual scope L' f cdv).kindOf binds fun _ => none) → News g L' h₁ (cells ++ ds) →
      CellsAre (bindC (envOfC qual scope L' f cdv).kindOf binds fun _ => none) (cellsFrom (L' + 1) scope.names []) cells → Below A base outs g → (∀ p ∈ ds, p.1 < L') →
      wpAny (model prog w) (A.deeper (envOfC qual scope L' f cdv)) (execs body (envOfC qual scope L' f cdv))
        (fun fl s' => R (.ok (.ret (match fl with | .ret v => v | _ => .none))) s')
        (fun e s' => wpAny (model prog w) (A.deeper (envOfC qual scope L' f cdv)) (leaving (envOfC qual scope L' f cdv) e) (fun _ s'' => R (.error e) s'') (fun e' s'' => R (.error e') s'') s')
        { s with heap := h₁, toks := tk })
    (hco : scope.isCoroutine = false := by rfl) (hgen : scope.isGenerator = false := by rfl) (hk : scope.kind = .function := by rfl) : codeAny (model prog w) A (.call (.ref f) args) R s := by
  have BG := groundG B D hfr
  refine codeAny_call_function hroom ho hd hco hgen rfl hcd (hbind _ _ _ _ ?_)
  refine wpAny_newFunctionEnv_cells hk (kindsX hkind _) fun env' he s' x => ?_
  subst he
  refine ⟨(hlim.keeps B.stays).keeps x.toInCall.keep, codeAny_func ?_⟩
  obtain ⟨h₁, tk, rfl, _⟩ := x.done
  have hk₁ := x.toInCall.keep
  obtain ⟨cells, NC, Y⟩ := Cl.news (h₀ := s.heap) (Nat.le_refl _) fun n c hm => ⟨x.cell n c (lookup_of_mem_nodup (cellsFrom_names scope.names 0 (s.heap.objs.size + 1) [] [] rfl ▸ hnd) hm), x.above n c hm⟩
  refine h _ _ h₁ tk cells rfl rfl ⟨x.toInCall.ns, fun b o e => hk₁ b o (of_hideAll _ e), Nat.le_of_eq (hideAll_size _ _)⟩ (fun p hp => ?_) Y BG (fun p hp => Heap.lt_size (D p hp).1)
  rcases List.mem_append.mp hp with hp | hp
  · refine ⟨(NC p hp).1, (NC p hp).2.1, ?_⟩
    cases q : (hideAll s.heap (ds.map (·.1))).get? p.1 with
    | none => rfl
    | some o => have := of_hideAll _ q; rw [(NC p hp).2.2] at this; cases this
  · exact ⟨hk₁ _ _ (D p hp).1, Nat.ne_of_lt (Heap.lt_size (D p hp).1), hideAll_none _ (List.mem_map_of_mem hp)⟩
end

section
variable {prog : Program} {w : World} {A : Around} {s : Shared} {base : Heap} {outs : List Env} {ds : List (Addr × Obj)} {K : Frag} {p : Program} {loose : List Str} {mean : ExcName → Option Value} {mg mb : Str → Option Value}
  {R : Result → Shared → Prop} {name qual : Str} {params : Arguments} {body : List Stmt} {scope : Scope} {dV kV doc pm cdv ct oc : Value} {an od : Option Addr} {osl : Array (Option Value)} {f : Addr} {args : Args} {binds : List (Str × Value)}
theorem callK (X : K.In base) (T : Top p loose mean mg mb base) (B : Below A base outs s.heap) (D : ∀ p ∈ ds, s.heap.get? p.1 = some p.2 ∧ base.get? p.1 = none) (hfr : ∀ env ∈ outs, ∀ p ∈ ds, env.frame ≠ some p.1)
    (ho : K.lookup f = some ⟨oc, od, .func (fnOf name qual params body scope dV kV doc pm an cdv ct), osl⟩) (hcd : codeIn K cdv qual = true) (hroom : A.depth < recursionLimit)
    (hbind : BindsTo s (fnOf name qual params body scope dV kV doc pm an cdv ct) args binds) (hloc : ∀ y ∈ binds, scope.names.lookup y.1 = some .local)
    (h : ∀ g L' h₁, g = hideAll s.heap (ds.map (·.1)) → L' = s.heap.objs.size → Fr g L' h₁ (fun y => binds.reverse.lookup y) → News g L' h₁ ds → Below A base outs g → (∀ p ∈ ds, p.1 < L') → K.In g → Top p loose mean mg mb g →
      wpAny (model prog w) (A.deeper (envOf qual scope L' f cdv)) (execs body (envOf qual scope L' f cdv))
        (fun fl s' => R (.ok (.ret (match fl with | .ret v => v | _ => .none))) s')
        (fun e s' => wpAny (model prog w) (A.deeper (envOf qual scope L' f cdv)) (leaving (envOf qual scope L' f cdv) e) (fun _ s'' => R (.error e) s'') (fun e' s'' => R (.error e') s'') s')
        { s with heap := h₁, toks := s.toks + binds.length })
    (hco : scope.isCoroutine = false) (hgen : scope.isGenerator = false) (hk : scope.kind = .function) (hcell : ∀ x ∈ scope.names, x.2 ≠ .cell) : codeAny (model prog w) A (.call (.ref f) args) R s :=
  callG (cl := []) B D hfr T.nolimit (B.stays _ _ (X _ _ ho)) rfl (codeRec_of (X.keeps B.stays) hcd) hroom hbind hloc (fun g L' h₁ e1 e2 F N B' l => h g L' h₁ e1 e2 F N B' l (X.keeps B'.stays) (T.keeps B'.stays)) hcell hco hgen hk
theorem callKC (X : K.In base) (T : Top p loose mean mg mb base) (B : Below A base outs s.heap) (D : ∀ p ∈ ds, s.heap.get? p.1 = some p.2 ∧ base.get? p.1 = none) (hfr : ∀ env ∈ outs, ∀ p ∈ ds, env.frame ≠ some p.1)
    (ho : K.lookup f = some ⟨oc, od, .func (fnOf name qual params body scope dV kV doc pm an cdv ct), osl⟩) (hcd : codeIn K cdv qual = true) (hroom : A.depth < recursionLimit)
    (hbind : BindsTo s (fnOf name qual params body scope dV kV doc pm an cdv ct) args binds)
    (hkind : (binds.all fun y => scope.names.lookup y.1 == some .local || scope.names.lookup y.1 == some .cell) = true) (hnd : ((cellsFrom 0 scope.names []).map (·.1)).Nodup)
    (h : ∀ g L' h₁ tk cells, g = hideAll s.heap (ds.map (·.1)) → L' = s.heap.objs.size → Fr g L' h₁ (bindL (envOfC qual scope L' f cdv).kindOf binds fun _ => none) → News g L' h₁ (cells ++ ds) →
      CellsAre (bindC (envOfC qual scope L' f cdv).kindOf binds fun _ => none) (cellsFrom (L' + 1) scope.names []) cells → Below A base outs g → (∀ p ∈ ds, p.1 < L') → K.In g → Top p loose mean mg mb g →
      wpAny (model prog w) (A.deeper (envOfC qual scope L' f cdv)) (execs body (envOfC qual scope L' f cdv))
        (fun fl s' => R (.ok (.ret (match fl with | .ret v => v | _ => .none))) s')
        (fun e s' => wpAny (model prog w) (A.deeper (envOfC qual scope L' f cdv)) (leaving (envOfC qual scope L' f cdv) e) (fun _ s'' => R (.error e) s'') (fun e' s'' => R (.error e') s'') s')
        { s with heap := h₁, toks := tk })
    (hco : scope.isCoroutine = false) (hgen : scope.isGenerator = false) (hk : scope.kind = .function) : codeAny (model prog w) A (.call (.ref f) args) R s :=
  callGC B D hfr T.nolimit (B.stays _ _ (X _ _ ho)) rfl (codeRec_of (X.keeps B.stays) hcd) hroom hbind hkind hnd (fun g L' h₁ tk cells e1 e2 F N Y B' l => h g L' h₁ tk cells e1 e2 F N Y B' l (X.keeps B'.stays) (T.keeps B'.stays)) hco hgen hk
end

/-- what a contract keeps: every object but those at ds -/
def KeepsBut (ds : List Addr) (h h' : Heap) : Prop := ∀ b o, b ∉ ds → h.get? b = some o → h'.get? b = some o
theorem KeepsBut.fr {ds : List Addr} {h₀ h h' : Heap} {L : Addr} {m : Str → Option Value} (k : KeepsBut ds h h') (F : Fr h₀ L h m) (hL : L ∉ ds) (h0 : ∀ d ∈ ds, h₀.get? d = none) : Fr h₀ L h' m :=
  ⟨F.ns.at' fun o e => k _ o hL e, fun b o e => k b o (fun q => by rw [h0 b q] at e; cases e) (F.keep b o e), F.above⟩
theorem KeepsBut.news {ds : List Addr} {h₀ h h' : Heap} {L : Addr} {news : List (Addr × Obj)} (k : KeepsBut ds h h') (N : News h₀ L h news) (hd : ∀ p ∈ news, p.1 ∉ ds) : News h₀ L h' news :=
  fun p hp => ⟨k _ _ (hd p hp) (N p hp).1, (N p hp).2⟩
end
end Mine
namespace Mine
section
open_top hd2 for PySem.Challenge.rw_dw0036_02
end
end Mine
namespace Mine
section
section
variable {prog : Program} {w : World} {A : Around} {E : Value → Shared → Prop} {s : Shared}
theorem last_item {value slice : PySem.Expr} {l : Addr} {vs : List Value} {ns : List Int} {u : Tok} {Q : Value → Shared → Prop} (hl : s.heap.IsList l vs.toArray) (hi : IntsAre vs ns) (hne : ns ≠ []) (h : ∀ t, Q (.int (ns.getLastD 0) t) s)
    (hs : subscripted slice false (.ref l) (.int (-1) u) = operate [.ref l, .int (-1) u] (getItem (.ref l) (.int (-1) u)) := by with_unfolding_all rfl) :
    wpAny (model prog w) A (subscriptTail value slice (.ref l) (.int (-1) u)) Q E s := by
  have hlen := hi.length
  have hpos : 0 < vs.length := by
    rw [hlen]; exact List.length_pos_iff.mpr hne
  obtain ⟨y, t, e, rfl, _⟩ := kpa_ints hi hpos
  refine kde_neg (j := vs.length - 1) hl (by decide) (by decide) ?_ ?_ (h t) hs
  · unfold seqIndex?
    simp
    omega
  · rw [e]
    simp
end

section
variable {prog : Program} {w : World} {A₀ : Around} {E : Value → Shared → Prop} {s' : Shared} {h₀ h : Heap} {outer : List Env} {L a e t : Addr} {m : Str → Option Value} {name : Str} {scope : Scope} {cd : Value} {cl : List (Str × Addr)}
  {vs : List Value} {n : Str} {b₀ : Stmt} {suite : List Stmt} {pos np : Pos} {rest : List ExceptHandler} {Q : Flow → Shared → Prop} {news : List (Addr × Obj)}
  {p : Program} {loose : List Str} {mean : ExcName → Option Value} {mg mb : Str → Option Value} {K : Frag}
/-- an exception that flew into a frame with cells is caught there, under a name -/
theorem caught_X (B₀ : Below A₀ h₀ outer h₀) (F : Fr h₀ L h m) (hsm : h.UpToSlots s'.heap) (R : RaisedK h₀ (envX name scope L a cd cl :: outer) e (.type "ValueError") t vs news s'.heap)
    (X : K.In h₀) (T : TopRead p loose mg mb h₀) (hg : nsIn K mainGlobals (Str.ofString "ValueError") = some none)
    (k : ∀ h' oe ot ws nt tk, Fr h₀ L h' (fun y => if y = n then some (.ref e) else m y) → News h₀ L h' ((e, oe) :: (t, ot) :: news) → oe.cls = .type "ValueError" → oe.data = .fields ws → ws[0]? = some (.ref t) → ot.cls = .type "tuple" → ot.data = .seq vs.toArray nt → (∀ p ∈ news, p.1 ≠ e ∧ p.1 ≠ t) → e ≠ t →
      wpAny (model prog w) ((A₀.deeper (envX name scope L a cd cl)).mark (some (.ref e))) (execs (b₀ :: suite) (envX name scope L a cd cl))
        (fun f s₄ => wpAny (model prog w) (A₀.deeper (envX name scope L a cd cl)) (do bindName (envX name scope L a cd cl) n .none; unbindBehindTheSuite (envX name scope L a cd cl) n pos) (fun _ s₅ => Q f s₅) E s₄)
        (fun _ _ => False)
        { s' with heap := h', toks := tk })
    (hk : scope.kind = .function := by rfl) (hlo : (envX name scope L a cd cl).kindOf n = some .local := by rfl) (hx : (envX name scope L a cd cl).kindOf (Str.ofString "ValueError") = some .globalImplicit := by rfl) :
    wpAny (model prog w) (A₀.deeper (envX name scope L a cd cl)) (noteFrame (.ref e) (envX name scope L a cd cl))
      (fun _ s₂ => wpAny (model prog w) (A₀.deeper (envX name scope L a cd cl)) (setFlight (.ref e) none) (fun _ s₃ =>
        wpAny (model prog w) (A₀.deeper (envX name scope L a cd cl)) (handleBy (.ref e) (envX name scope L a cd cl) (.ExceptHandler (some (.Name (Str.ofString "ValueError") np)) (some n) (b₀ :: suite) pos :: rest)) Q E s₃) E s₂) E s' := by
  obtain ⟨⟨B, hB, hl, hfl, hnew⟩, htup⟩ := R
  have hL : B.get? L = none := by
    obtain ⟨_, ⟨L', _, hf, hn', _⟩, _⟩ := hfl.2.2.1
    obtain rfl : L = L' := Option.some.inj hf
    exact hn'
  refine wpAny_looks_onW (Around.frames_deeper B₀.stack) rfl hfl fun h₄ hheld₄ hsm₄ => ?_
  refine wpAny_landsW hheld₄ fun h₅ hheld hsm₅' => ?_
  have hsm₅ := hsm₄.trans hsm₅'
  have hheld' := flyingW_base hB hheld
  have F₅ := F.of_stays hheld'.1 (hsm.trans hsm₅)
  obtain ⟨ob, hob, hobc⟩ := hheld'.there
  refine wpAny_handleBy_builtin_as (X := "ValueError") (T := "ValueError") (b := true) PySem.F.isExc_ValueError PySem.F.notTuple_ValueError (by rw [isSubtype_type]; kernel_rfl) ?_
  refine nameX_B F₅ X T hg PyProof.Rows.Boot.«ValueError» (by decide) ⟨rfl, ⟨ob, hob, hobc⟩, ?_⟩ hk hx (by decide)
  refine lands_againW hheld fun h₆ hfl₆ hsm₆ => ?_
  have hfl₆' := flyingW_base hB hfl₆
  have F₆ := F.of_stays hfl₆'.1 ((hsm.trans hsm₅).trans hsm₆)
  obtain ⟨oe, ws, hoe, hoec, hoed, hoe0⟩ := hfl₆'.first
  obtain ⟨ot, nt, hot, hotc, hotd⟩ := (htup.of_slots hsm₅).of_slots hsm₆
  have N₆ := News.more F₆ (News.more F₆ News.nil hot (fun es n q => by rw [hotd] at q; cases q) (fresh_of_stays hB hnew)) hoe (fun es n q => by rw [hoed] at q; cases q) hfl₆'.2.1
  have Nl : News h₀ L h₆ news := fun q hq => ⟨hfl₆.1 _ _ (hl q hq).1, (fun z => by have := (hl q hq).1; rw [z, hL] at this; cases this), (hl q hq).2⟩
  refine storeX_L F₆ (news := _ ++ news) (fun q hq => (List.mem_append.mp hq).elim (N₆ q) (Nl q)) (fun h₇ F₇ N₇ => ?_) hk hlo
  refine wpAny_mono (k h₇ oe ot ws nt _ F₇ N₇ hoec hoed hoe0 hotc hotd (fun p hp => ⟨fun z => ?_, fun z => ?_⟩) ?_) (fun _ _ x => x) fun _ _ x => x.elim
  · have := (hl p hp).1; rw [z, hfl₆.2.1] at this; cases this
  · have := (hl p hp).1; rw [z, hnew] at this; cases this
  · intro z; rw [z, hot] at hoe; cases hoe; rw [hoed] at hotd; cases hotd
end
theorem in_cut {ns : List Int} {a b : Nat} (h : KBa.In ns) : KBa.In (List.take a (List.drop b ns)) := fun n hn => h n (List.mem_of_mem_drop (List.mem_of_mem_take hn))
section
variable {prog : Program} {w : World} {A : Around} {E : Value → Shared → Prop} {s : Shared} {h₀ : Heap} {L e t : Addr} {news : List (Addr × Obj)} {oe ot : Obj} {ws : Array Value} {nt : Nat} {Q : Value → Shared → Prop}
theorem type_exc (N : News h₀ L s.heap news) (hm : (e, oe) ∈ news) (hc : oe.cls = .type "ValueError") (h : Q (.type "ValueError") s) : wpAny (model prog w) A (call (.type "type") [.ref e]) Q E s :=
  call_type_of ⟨oe, N.get hm, hc⟩ (by decide) h
theorem str_exc {x : Str} {u : Tok} (hu : A.units + 2 < cLine) (N : News h₀ L s.heap news) (hm : (e, oe) ∈ news) (ht : (t, ot) ∈ news) (hc : oe.cls = .type "ValueError") (hd : oe.data = .fields ws) (h0 : ws[0]? = some (.ref t)) (hct : ot.cls = .type "tuple") (hdt : ot.data = .seq [Value.str x u].toArray nt) (h : Q (.str x u) s) :
    wpAny (model prog w) A (call (.type "str") [.ref e]) Q E s :=
  P.str_of_exc_one PySem.F.excStr_ValueError hu ⟨oe, ws, N.get hm, hc, hd, h0⟩ ⟨ot, nt, N.get ht, hct, hdt⟩ h
end
theorem name_goes_X {M : Model} {A : Around} {E : Value → Shared → Prop} {s : Shared} {name : Str} {scope : Scope} {L a : Addr} {cd : Value} {cl : List (Str × Addr)} {h₀ : Heap} {m : Str → Option Value} {news : List (Addr × Obj)} {n : Str} {pos : Pos} {Q : Unit → Shared → Prop} (F : Fr h₀ L s.heap m) (N : News h₀ L s.heap news)
    (h : ∀ h' v, Fr h₀ L h' (fun x => if x = n then v else m x) → News h₀ L h' news → Q () { s with heap := h', toks := s.toks + 1 })
    (hk : scope.kind = .function := by rfl) (hl : (envX name scope L a cd cl).kindOf n = some .local := by rfl) :
    wpAny M A (do bindName (envX name scope L a cd cl) n .none; unbindBehindTheSuite (envX name scope L a cd cl) n pos) Q E s :=
  wpAny_nameGoes_keeps hl F.ns (by show (scope.kind == .class || (scope.kind == .module && L != mainGlobals)) = false; rw [hk]; rfl) fun h' v hn hs => h h' v (F.set hn hs) (N.set hs)
theorem news_drop2 {h₀ h : Heap} {L : Addr} {a b : Addr × Obj} {news : List (Addr × Obj)} (N : News h₀ L h (a :: b :: news)) : News h₀ L h news := fun p hp => N p (.tail _ (.tail _ hp))
theorem extend_any {prog : Program} {w : World} {A : Around} {E : Value → Shared → Prop} {s : Shared} {h₀ : Heap} {L D b : Addr} {m : Str → Option Value} {news : List (Addr × Obj)} {g : Obj → List (Addr × Obj)} {its its2 : List Value} {n n2 : Nat} {Q : Value → Shared → Prop}
    (F : Fr h₀ L s.heap m) (N : News h₀ L s.heap news) (hb : (b, W.listOf its2.toArray n2) ∈ news) (U : UpdF D (W.listOf its.toArray n) news g) (hz : its.length + its2.length ≤ 10000)
    (h : ∀ h' n', Fr h₀ L h' m → News h₀ L h' (g (W.listOf (its ++ its2).toArray n')) → Q .none { s with heap := h' }) : wpAny (model prog w) A (call (.builtin "list.extend") [.ref D, .ref b]) Q E s := by
  obtain ⟨pre, post, rfl, hg, a, c⟩ := U.split
  have z := N (D, W.listOf its.toArray n) (List.mem_append.mpr (.inr (.head _)))
  have hl := sizeLine_eq
  refine call_meets PySem.F.slot_list_extend ⟨_, z.1, rfl⟩ PySem.F.entry_list_extend (PySem.F.args_list_extend_2 _ _) (PySem.AutoSeq1.list_extend_list_list_0 D its.toArray n b its2.toArray n2 ?_ ?_ ?_) ⟨z.1, (N _ hb).1, ?_⟩
  · simp [Builtin.List.listTooLong]
    intro _
    omega
  · simp; omega
  · simp; omega
  · by_cases e : its2 = []
    · subst e
      refine h _ n (F.change (Heap.SameBut.update ..) z.2.1 z.2.2) ?_
      rw [hg]
      exact kl_turn0 (fun x => x ++ #[]) N a c (by simp) (by simp)
    · refine h _ (n + 1) (F.change (Heap.SameBut.update ..) z.2.1 z.2.2) ?_
      rw [hg]
      exact kl_turn (fun x => x ++ its2.toArray) N a c (by simp) (by simpa using e)
end
end Mine
namespace Mine
section
def bodyOf (ss : List Stmt) (i : Nat) : List Stmt := match ss[i]? with
  | some (.FunctionDef _ _ b _ _ _ _ _ _ _) => b
  | some (.For _ _ b _ _) => b
  | _ => []
def argsOf (ss : List Stmt) (i : Nat) : Arguments := match ss[i]? with
  | some (.FunctionDef _ a _ _ _ _ _ _ _ _) => a
  | _ => default
def scopeOf (ss : List Stmt) (i : Nat) : Scope := match ss[i]? with
  | some (.FunctionDef _ _ _ _ _ _ sc _ _ _) => sc
  | _ => default
abbrev top2 : List Stmt := PySem.Challenge.pw_dw0036_02.main.body
def readArgs2 : Arguments := argsOf (bodyOf top2 4) 1
def readBody2 : List Stmt := bodyOf (bodyOf top2 4) 1
def readScope2 : Scope := scopeOf (bodyOf top2 4) 1
noncomputable abbrev loose2 : List Str := looseW hd2.view_39 [] ++ (recsOf hd2.view_39).map (·.name) ++ (litsOf hd2.view_39).map (·.1) ++ (clssOf hd2.view_39 (looseW hd2.view_39 [])).map (·.name)
abbrev readFn2 (q : Str) (cO cF : Addr) (dc pm : Value) (c : Addr) (ctv : Value) : Obj := fnMade (Str.ofString "_law_read") q readArgs2 readBody2 readScope2 [(Str.ofString "octets", cO), (Str.ofString "f", cF)] dc pm c ctv
example : readBody2.length = 3 := by rfl
/-- a stream's objects -/
structure Sg2 where
  (fn cc x d cF cO : Nat) (q : Str) (dc pm ctv : Value) (t1 t2 tq tb : Tok) (vs' : Array Value) (oc oF oO : Obj) (octs : Array UInt8)
def led2 (P : Params) (g : Sg2) (pos : Int) (tp : Tok) : List (Addr × Obj) :=
  [(g.fn, readFn2 g.q g.cO g.cF g.dc g.pm g.cc g.ctv), (g.cc, g.oc), (g.x, instObj 38 g.d),
    (g.d, dictOf [⟨PyData.keyHash P (Str.ofString "value"), Value.str (Str.ofString "value") g.t1, Value.int pos tp⟩, ⟨PyData.keyHash P (Str.ofString "read"), Value.str (Str.ofString "read") g.t2, Value.ref g.fn⟩] 2),
    (g.cF, g.oF), (g.cO, g.oO)]
def adr2 (g : Sg2) : List Addr := [g.fn, g.cc, g.x, g.d, g.cF, g.cO]
structure SgOk2 (g : Sg2) : Prop where
  ord : g.cO < g.cF ∧ g.cF < g.d ∧ g.d < g.x ∧ g.x < g.fn ∧ g.cc < g.fn ∧ (g.cc < g.cO ∨ g.x < g.cc)
  dF : g.oF.data = .cell (some (.ref g.x))
  dO : g.oO.data = .cell (some (.bytes g.octs g.tb))
  dc1 : g.oc.data = .fields g.vs'
  dc2 : g.vs'[1]? = some (.str g.q g.tq)
theorem led2_adr (P : Params) (g : Sg2) (pos : Int) (tp : Tok) : (led2 P g pos tp).map (·.1) = adr2 g := rfl
/-- what the state must give for a call upon a stream -/
structure At2 (w : World) (base : Heap) (outs : List Env) (g : Sg2) (pos : Int) (tp : Tok) (h : Heap) : Prop where
  live : ∀ p ∈ led2 w.params g pos tp, h.get? p.1 = some p.2 ∧ base.get? p.1 = none
  frames : ∀ env ∈ outs, ∀ p ∈ led2 w.params g pos tp, env.frame ≠ some p.1
def words2 : Str := Str.ofString "not enough data in stream to read uint1"

theorem keeps2 {P : Params} {g : Sg2} {pos pos' : Int} {tp tp' : Tok} {h h' : Heap} (h1 : ∀ p ∈ led2 P g pos tp, h.get? p.1 = some p.2) (k : ∀ b o, (hideAll h (adr2 g)).get? b = some o → h'.get? b = some o)
    (h2 : ∀ p ∈ led2 P g pos' tp', h'.get? p.1 = some p.2) : KeepsBut [g.d] h h' := by
  intro b o hb e
  by_cases hm : b ∈ adr2 g
  · simp only [led2, List.forall_mem_cons] at h1 h2
    simp only [adr2, List.mem_cons, List.not_mem_nil, or_false] at hm hb
    rcases hm with rfl | rfl | rfl | rfl | rfl | rfl
    · rw [h1.1] at e; cases e; exact h2.1
    · rw [h1.2.1] at e; cases e; exact h2.2.1
    · rw [h1.2.2.1] at e; cases e; exact h2.2.2.1
    · exact absurd rfl hb
    · rw [h1.2.2.2.2.1] at e; cases e; exact h2.2.2.2.2.1
    · rw [h1.2.2.2.2.2.1] at e; cases e; exact h2.2.2.2.2.2.1
  · exact k b o (hideAll_get _ e hm)
theorem ok2 {P : Params} {g : Sg2} {pos pos' : Int} {tp tp' : Tok} {h h' : Heap} {L : Addr} {m : Str → Option Value} (h1 : ∀ p ∈ led2 P g pos tp, h.get? p.1 = some p.2) (F : Fr (hideAll h (adr2 g)) L h' m) (N : News (hideAll h (adr2 g)) L h' (led2 P g pos' tp')) :
    KeepsBut [g.d] h h' ∧ ∀ p ∈ led2 P g pos' tp', h'.get? p.1 = some p.2 := ⟨keeps2 h1 F.keep fun p hp => (N p hp).1, fun p hp => (N p hp).1⟩
theorem cut2 {ns : List Int} {pos : Nat} (h : pos < ns.length) : (List.take (clipAt ns.length ((pos : Int) + 1) - min pos ns.length) (List.drop (min pos ns.length) ns)).getD (Int.toNat 0) 0 = ns.getD pos 0 := by
  have e1 : clipAt ns.length ((pos : Int) + 1) = pos + 1 := by unfold clipAt; omega
  have e2 : min pos ns.length = pos := by omega
  rw [e1, e2, show pos + 1 - pos = 1 by omega]
  simp [List.getD_eq_getElem?_getD, List.getElem?_take, List.getElem?_drop]
theorem clip2 {n pos : Nat} (h : pos ≤ n) : min (clipAt n ((pos : Int) + 1) - min pos n) (n - min pos n) = if pos < n then 1 else 0 := by
  have e1 : clipAt n ((pos : Int) + 1) = min (pos + 1) n := by unfold clipAt; omega
  rw [e1]; split <;> omega
abbrev Ar (dp un : Nat) (gd : Option (List Code)) (outs : List Env) : Around := { handled := none, depth := dp, frames := some outs, guards := gd, units := un }
local macro_rules | `(tactic| k_room) => `(tactic| ((try simp only [depth_under_make, depth_under_kw, depth_in1, depth_deeper]); omega))
local macro_rules | `(tactic| walk_at "leaving ref") => `(tactic| (k_here; (refine' leave_raiseS ?k1 (Heap.MadeExc.of (by assumption)) ?k2 ?k3 ?_; (case k1 => assumption); (case k2 => assumption); (case k3 => k_asm); k_whole; intro h' t' R' RK' U'; (try dsimp only at R' U' ⊢))))
theorem read2 {w : World} {mg mb : Str → Option Value} {base : Heap} {mean : ExcName → Option Value} {dp un : Nat} {gd : Option (List Code)} {outs : List Env} {s : Shared} {g : Sg2} {pos : Nat} {tp : Tok} {ns : List Int} {R : Result → Shared → Prop} :
    (hd2.heap_39 w.params).In base → Top topProg loose2 mean mg mb base → CodeHd base 48 44 → Below (Ar dp un gd outs) base outs s.heap → dp + 5 < recursionLimit → un + 30 < cLine →
    SgOk2 g → At2 w base outs g pos tp s.heap → KBw.bInts g.octs = ns → pos ≤ ns.length → ns.length ≤ 1000 →
    (∀ h' tk' tv tp', pos < ns.length → KeepsBut [g.d] s.heap h' → (∀ p ∈ led2 w.params g ((pos + 1 : Nat) : Int) tp', h'.get? p.1 = some p.2) → R (.ok (.ret (.int (ns.getD pos 0) tv))) { s with heap := h', toks := tk' }) →
    (¬ pos < ns.length → ∀ h' tk' e t u tp', RaisedS base (hideAll s.heap (adr2 g)) outs e (.type "ValueError") t [.str words2 u] (led2 w.params g pos tp') h' → (hideAll s.heap (adr2 g)).UpToSlots h' → R (.error (.ref e)) { s with heap := h', toks := tk' }) →
    codeAny (model PySem.Challenge.rw_dw0036_02.row.prog w) (Ar dp un gd outs) (.call (.ref 21) ⟨[.ref g.x], []⟩) R s := by
  w_top off
  k_fill
  intro X T hCd B hdep hun hg hat hns hpos hlen hok herr
  obtain ⟨hlive, hfr⟩ := hat
  k_dflt (refine' callK (ds := led2 w.params g pos tp) X T B ?d ?fr ?k6 ?k7 ?k8 ?k9 ?kB ?_ ?c2 ?c3 ?c4 ?c5; (case k6 => k_is); (case k7 => k_is); (case k8 => (show dp < recursionLimit; omega)); (case k9 => exact BindsTo.of_eq rfl); (case kB => exact locs rfl); (case c2 => exact rfl); (case c3 => exact rfl); (case c4 => exact rfl); (case c5 => decide); (case d => exact hlive); (case fr => exact hfr))
  intro g' L' h' eg eL F' N' B' l1 X' T'
  obtain ⟨fn, cc, x, d, cF, cO, q, dc, pm, ctv, t1, t2, tq, tb, vs', oc, oF, oO, octs⟩ := g
  obtain ⟨hord, dF, dO, dc1, dc2⟩ := hg
  simp only [led2, List.map_cons, List.map_nil] at *
  have hl2 := fun p hp => (hlive p hp).1
  k_steps
  · rename Fr _ _ _ _ => F
    rename News _ _ _ _ => N
    rename 0 < min _ _ => hz
    have hlt : pos < ns.length := by
      rw [clip2 hpos] at hz
      by_cases h : pos < ns.length
      · exact h
      · rw [if_neg h] at hz; exact absurd hz (Nat.lt_irrefl _)
    rw [clip2 hpos, if_pos hlt] at N
    show R _ _
    rw [cut2 hlt]
    subst eg
    obtain ⟨k1, k2⟩ := ok2 (g := ⟨fn, cc, x, d, cF, cO, q, dc, pm, ctv, t1, t2, tq, tb, vs', oc, oF, oO, octs⟩) (pos' := ((pos + 1 : Nat) : Int)) hl2 F N
    exact hok _ _ _ _ hlt k1 k2
  · rename_i hR _ hU
    rename ¬ 0 < min _ _ => hz
    have hlt : ¬ pos < ns.length := by
      rw [clip2 hpos] at hz
      intro h
      rw [if_pos h] at hz; exact hz (by decide)
    rw [clip2 hpos, if_neg hlt] at hR
    subst eg
    exact herr hlt _ _ _ _ _ _ hR hU
end
end Mine
namespace Mine
section
/-- a halt of the walk -/
def Stop (p : Prop) : Prop := p
theorem Stop.mk {p : Prop} (h : Stop p) : p := h
inductive Tr where
  | node (ts : List Tr)
mutual
inductive TreeIn (news : List (Addr × Obj)) : Value → Tr → Prop
  | mk {a : Addr} {vs : List Value} {k : Nat} {ts : List Tr} : (a, W.listOf vs.toArray k) ∈ news → ForestIn news vs ts → TreeIn news (.ref a) (.node ts)
inductive ForestIn (news : List (Addr × Obj)) : List Value → List Tr → Prop
  | nil : ForestIn news [] []
  | cons {v : Value} {vs : List Value} {t : Tr} {ts : List Tr} : TreeIn news v t → ForestIn news vs ts → ForestIn news (v :: vs) (t :: ts)
end
mutual
theorem TreeIn.mono {news news' : List (Addr × Obj)} (k : ∀ p ∈ news, p ∈ news') : ∀ {v : Value} {t : Tr}, TreeIn news v t → TreeIn news' v t
  | _, _, .mk h r => .mk (k _ h) (ForestIn.mono k r)
theorem ForestIn.mono {news news' : List (Addr × Obj)} (k : ∀ p ∈ news, p ∈ news') : ∀ {vs : List Value} {ts : List Tr}, ForestIn news vs ts → ForestIn news' vs ts
  | _, _, .nil => .nil
  | _, _, .cons h r => .cons (TreeIn.mono k h) (ForestIn.mono k r)
end
theorem ForestIn.snoc {news : List (Addr × Obj)} {vs : List Value} {ts : List Tr} {v : Value} {t : Tr} (h : ForestIn news vs ts) (k : TreeIn news v t) : ForestIn news (vs ++ [v]) (ts ++ [t]) := by
  induction vs generalizing ts with
  | nil => cases h; exact .cons k .nil
  | cons v vs ih =>
    cases h with
    | cons h r => exact .cons h (ih r)
theorem ForestIn.length {news : List (Addr × Obj)} {vs : List Value} {ts : List Tr} (h : ForestIn news vs ts) : vs.length = ts.length := by
  induction vs generalizing ts with
  | nil => cases h; rfl
  | cons v vs ih =>
    cases h with
    | cons _ r => simp [ih r]

/-- k trees, one behind the other -/
def forestBy (tr : List Int → Option (Tr × List Int)) : Nat → List Int → Option (List Tr × List Int)
  | 0, r => some ([], r)
  | k + 1, r => match tr r with
    | none => none
    | some (t, r') => match forestBy tr k r' with
      | none => none
      | some (ts, r'') => some (t :: ts, r'')
def treeF : Nat → List Int → Option (Tr × List Int)
  | 0, _ => none
  | _ + 1, [] => none
  | n + 1, c :: r => match forestBy (treeF n) c.toNat r with
    | none => none
    | some (ts, r') => some (.node ts, r')

def TreeC (w : World) (base : Heap) (n : Nat) : Prop :=
  ∀ ⦃dp un : Nat⦄ ⦃gd : Option (List Code)⦄ ⦃outs : List Env⦄ ⦃s : Shared⦄ ⦃g : Sg2⦄ ⦃pos : Nat⦄ ⦃tp : Tok⦄ ⦃ns : List Int⦄ ⦃R : Result → Shared → Prop⦄,
    Below (Ar dp un gd outs) base outs s.heap → dp + n + 8 < recursionLimit → un + 4 * n + 60 < cLine → SgOk2 g → At2 w base outs g pos tp s.heap → KBw.bInts g.octs = ns → pos ≤ ns.length → ns.length ≤ 1000 → (ns.drop pos).length ≤ n →
    (∀ h' tk' l t tl pos' tp', treeF n (ns.drop pos) = some (t, ns.drop pos') → pos < pos' → pos' ≤ ns.length → KeepsBut [g.d] s.heap h' → (∀ p ∈ led2 w.params g pos' tp', h'.get? p.1 = some p.2) →
      (∀ p ∈ tl, h'.get? p.1 = some p.2 ∧ s.heap.get? p.1 = none) → TreeIn tl (.ref l) t → R (.ok (.ret (.ref l))) { s with heap := h', toks := tk' }) →
    (treeF n (ns.drop pos) = none → ∀ h' tk' e t u tp', RaisedS base (hideAll s.heap (adr2 g)) outs e (.type "ValueError") t [.str words2 u] (led2 w.params g ns.length tp') h' → (hideAll s.heap (adr2 g)).UpToSlots h' → R (.error (.ref e)) { s with heap := h', toks := tk' }) →
    codeAny (model PySem.Challenge.rw_dw0036_02.row.prog w) (Ar dp un gd outs) (.call (.ref 63) ⟨[.ref g.x], []⟩) R s

theorem at2_of {w : World} {base g' h : Heap} {L : Addr} {outs : List Env} {env : Env} {g : Sg2} {pos : Int} {tp : Tok} (hs : base.StaysIn g') (hf : env.frame = some L) (N : News g' L h (led2 w.params g pos tp)) (hfr : ∀ env ∈ outs, ∀ b ∈ adr2 g, env.frame ≠ some b) :
    At2 w base (env :: outs) g pos tp h := by
  refine ⟨fun p hp => ⟨(N p hp).1, fresh_of_stays hs (N p hp).2.2⟩, fun e he p hp => ?_⟩
  rcases List.mem_cons.mp he with rfl | he
  · intro q; rw [hf] at q; exact (N p hp).2.1 (Option.some.inj q).symm
  · exact hfr e he p.1 (led2_adr w.params g pos tp ▸ List.mem_map_of_mem hp)

theorem fr_hide {h₀ h : Heap} {L : Addr} {m : Str → Option Value} {as : List Addr} (F : Fr h₀ L h m) (hL : L ∉ as) (h0 : ∀ a ∈ as, h₀.get? a = none) : Fr h₀ L (hideAll h as) m := by
  obtain ⟨o, es, ep, e, r⟩ := F.ns
  exact ⟨⟨o, es, ep, hideAll_get _ e hL, r⟩, fun b o e => hideAll_get _ (F.keep b o e) (fun q => by rw [h0 b q] at e; cases e), F.above⟩
theorem adr2_off {w : World} {g' h : Heap} {L : Addr} {g : Sg2} {pos : Int} {tp : Tok} (N : News g' L h (led2 w.params g pos tp)) : L ∉ adr2 g ∧ ∀ a ∈ adr2 g, g'.get? a = none := by
  rw [← led2_adr w.params g pos tp]
  refine ⟨fun q => ?_, fun a ha => ?_⟩
  · obtain ⟨p, hp, e⟩ := List.mem_map.mp q
    exact (N p hp).2.1 e
  · obtain ⟨p, hp, rfl⟩ := List.mem_map.mp ha
    exact (N p hp).2.2
/-- the state behind a call that changed the stream's place alone -/
theorem led2_after {w : World} {g' h h' : Heap} {L : Addr} {m : Str → Option Value} {g : Sg2} {pos pos' : Int} {tp tp' : Tok} (F : Fr g' L h m) (N : News g' L h (led2 w.params g pos tp)) (k : KeepsBut [g.d] h h') (hl : ∀ p ∈ led2 w.params g pos' tp', h'.get? p.1 = some p.2) :
    Fr g' L h' m ∧ News g' L h' (led2 w.params g pos' tp') := by
  obtain ⟨hL, h0⟩ := adr2_off N
  have hd : g.d ∈ adr2 g := by simp [adr2]
  refine ⟨k.fr F (fun q => hL (by rw [List.mem_singleton] at q; rw [q]; exact hd)) (fun d hd' => by rw [List.mem_singleton] at hd'; rw [hd']; exact h0 _ hd), fun p hp => ?_⟩
  have hm : p.1 ∈ adr2 g := led2_adr w.params g pos' tp' ▸ List.mem_map_of_mem hp
  exact ⟨hl p hp, fun q => hL (q ▸ hm), h0 _ hm⟩
theorem off_led2 {P : Params} {g : Sg2} {pos pos' : Int} {tp tp' : Tok} {adr : List Addr} (h : OwnOff (led2 P g pos tp) adr) : OwnOff (led2 P g pos' tp') adr := by
  intro p hp b hb
  have hm : p.1 ∈ (led2 P g pos tp).map (·.1) := by rw [led2_adr, ← led2_adr P g pos' tp']; exact List.mem_map_of_mem hp
  obtain ⟨q, hq, e⟩ := List.mem_map.mp hm
  rw [← e]; exact h q hq b hb
theorem oct2 {b : Array UInt8} {ns : List Int} (h : KBw.bInts b = ns) (i : Nat) : 0 ≤ ns.getD i 0 ∧ ns.getD i 0 < 256 := by
  subst h
  unfold KBw.bInts
  rw [List.getD_eq_getElem?_getD, List.getElem?_map]
  cases b.toList[i]? with
  | none => simp
  | some x =>
    simp only [Option.map_some, Option.getD_some]
    have := x.toNat_lt
    omega
def treeScope2 : Scope := scopeOf top2 6
abbrev envT (L : Addr) : Env := envOf (Str.ofString "_law_tree") treeScope2 L 63 (.ref 62)
def sonsBody2 : List Stmt := bodyOf (bodyOf top2 6) 1
def JT (w : World) (g : Sg2) (ns : List Int) (m pos0 c : Nat) (r1 : List Int) (lS : Addr) (i : Nat) (nx : List (Addr × Obj)) : Prop :=
  ∃ (vals : List Value) (k pos : Nat) (tp : Tok) (tl : List (Addr × Obj)) (ts : List Tr), nx = (lS, W.listOf vals.toArray k) :: (led2 w.params g pos tp ++ tl) ∧ ForestIn tl vals ts ∧ vals.length = i ∧ pos0 ≤ pos ∧ pos ≤ ns.length ∧
    OwnOff (led2 w.params g pos tp ++ tl) [lS] ∧ OwnOff tl (adr2 g) ∧ forestBy (treeF m) c r1 = (match forestBy (treeF m) (c - i) (ns.drop pos) with | none => none | some (us, r) => some (ts ++ us, r))

local macro_rules | `(tactic| walk_at "exec For Name Call cons nil") => `(tactic| ((with_reducible show wpAny _ _ (exec (Stmt.For _ _ _ _ _) _) _ _ _); refine Stop.mk ?_))
local macro_rules | `(tactic| walk_at "call ref") => `(tactic| ((with_reducible show wpAny _ _ (call (Value.ref 21) _) _ _ _); refine Stop.mk ?_))
local macro_rules | `(tactic| walk_at "call ref") => `(tactic| ((with_reducible show wpAny _ _ (call (Value.ref 63) _) _ _ _); refine Stop.mk ?_))
theorem tree_step {w : World} {mg mb : Str → Option Value} {base : Heap} {mean : ExcName → Option Value} {n : Nat} :
    (hd2.heap_39 w.params).In base → Top topProg loose2 mean mg mb base → CodeHd base 48 44 → (∀ m, n = m + 1 → TreeC w base m) → 
    (PySem.Challenge.rw_dw0036_02.row.prog = PySem.Challenge.rw_dw0036_02.row.prog) → TreeC w base n := by
  w_top off
  k_fill
  intro X T hCd ih _ dp un gd outs s g pos tp ns R B hdep hun hg hat hns hpos hlen hr hok herr
  obtain ⟨hlive, hfr⟩ := hat
  have hfr' : ∀ env ∈ outs, ∀ b ∈ adr2 g, env.frame ≠ some b := fun env he b hb => by
    rw [← led2_adr w.params g pos tp] at hb
    obtain ⟨p, hp, rfl⟩ := List.mem_map.mp hb
    exact hfr env he p hp
  k_dflt (refine' callK (ds := led2 w.params g pos tp) X T B ?d ?fr ?k6 ?k7 ?k8 ?k9 ?kB ?_ ?c2 ?c3 ?c4 ?c5; (case k6 => k_is); (case k7 => k_is); (case k8 => (show dp < recursionLimit; omega)); (case k9 => exact BindsTo.of_eq rfl); (case kB => exact locs rfl); (case c2 => exact rfl); (case c3 => exact rfl); (case c4 => exact rfl); (case c5 => decide); (case d => exact hlive); (case fr => exact hfr))
  intro g' L' h' eg eL F' N' B' l1 X' T'
  rw [led2_adr] at eg
  k_steps
  show wpAny _ _ _ _ _ _
  refine wpAny_For ?_
  k_steps
  show wpAny _ _ _ _ _ _
  have fly : ∀ h1 m1 (p1 : Int) t1 (h2 : Heap) tk2 e t u tp', Fr g' L' h1 m1 → News g' L' h1 (led2 w.params g p1 t1) → RaisedS base (hideAll h1 (adr2 g)) (envT L' :: outs) e (.type "ValueError") t [.str words2 u] (led2 w.params g ns.length tp') h2 → (hideAll h1 (adr2 g)).UpToSlots h2 → treeF n (ns.drop pos) = none →
      wpAny (model PySem.Challenge.rw_dw0036_02.row.prog w) ((Ar dp un gd outs).deeper (envT L')) (leaving (envT L') (.ref e)) (fun _ s'' => R (.error (.ref e)) s'') (fun e' s'' => R (.error e') s'') { s with heap := h2, toks := tk2 } := by
    intro h1 m1 p1 t1 h2 tk2 e t u tp' F1 N1 hR hU hnone
    obtain ⟨hL, h0⟩ := adr2_off N1
    refine leave_onS (s' := { s with heap := h2, toks := tk2 }) B' (fr_hide F1 hL h0) hR hU fun h3 RS _ U => ?_
    subst eg
    exact herr hnone h3 _ e t u tp' RS U
  rename Fr _ _ _ _ => F
  rename News _ _ _ _ => N
  rename_i tk0 lS hS lSlt hS2
  have N2 : News g' L' _ (led2 w.params g pos tp) := fun p hp => N p (List.mem_cons_of_mem _ hp)
  refine wpAny_call (read2 X T hCd (pushX (env := envT L') B' F rfl rfl) (by show dp + 1 + 5 < _; omega) (by show un + 3 + 30 < _; omega) hg (at2_of B'.stays rfl N2 hfr') hns hpos hlen ?_ ?_)
  · intro h1 tk1 tv tp1 hlt hk1 hl1
    show wpAny _ _ _ _ _ _
    obtain ⟨F1, N1⟩ := led2_after F N2 hk1 hl1
    have hlS : lS ∉ adr2 g := fun q => by
      rw [← led2_adr w.params g pos tp] at q
      obtain ⟨p, hp, e⟩ := List.mem_map.mp q
      exact Nat.lt_irrefl _ (e ▸ lSlt p hp)
    have hS1 := N _ (List.mem_cons_self ..)
    have N1' : News g' L' h1 ((lS, W.listOf #[] 0) :: led2 w.params g ((pos + 1 : Nat) : Int) tp1) := fun p hp => by
      rcases List.mem_cons.mp hp with rfl | hp
      · exact ⟨hk1 _ _ (fun q => hlS (by have e : lS = g.d := List.mem_singleton.mp q; rw [e]; simp [adr2])) hS1.1, hS1.2⟩
      · exact N1 p hp
    obtain ⟨m, rfl⟩ : ∃ m, n = m + 1 := ⟨n - 1, by rw [List.length_drop] at hr; omega⟩
    have hdr : ns.drop pos = ns.getD pos 0 :: ns.drop (pos + 1) := by
      rw [List.drop_eq_getElem_cons hlt, List.getD_eq_getElem?_getD, List.getElem?_eq_getElem hlt]; rfl
    have hoct := oct2 hns pos
    generalize hc : ns.getD pos 0 = c at *
    clear F N N2 N1
    k_steps
    rename_i hR0 tkR r1 r2 r3 hr3 F N hkR
    have hun0 : ∀ {b : Addr}, b ∉ adr2 g → g'.get? b = none → s.heap.get? b = none := by
      intro b hb h0
      cases q : s.heap.get? b with
      | none => rfl
      | some o => subst eg; rw [hideAll_get _ q hb] at h0; cases h0
    refine for_range (env := envT L') (h₀ := g') (n := c.toNat) (by passes_own) rfl hr3 (small_one (by omega) (by omega) (by omega) (by omega)) (by rw [rangeSize_nat]; simp) F N [Str.ofString "k"] (JT w g ns m (pos + 1) c.toNat (ns.drop (pos + 1)) lS) ?_ ?_ ?_
    · refine ⟨[], 0, pos + 1, tp1, [], [], by rw [List.append_nil], .nil, rfl, Nat.le_refl _, by omega, ?_, (fun _ h => nomatch h), ?_⟩
      · rw [List.append_nil]
        intro p hp b hb e
        rw [List.mem_singleton.mp hb] at e
        exact hlS (e ▸ led2_adr w.params g _ tp1 ▸ List.mem_map_of_mem hp)
      · rw [Nat.sub_zero]; cases forestBy (treeF m) c.toNat (ns.drop (pos + 1)) <;> rfl
    · rintro i tv u nx h tk own hi hown ⟨vals, k, p, tpp, tl, ts, rfl, hfor, hvl, hp0, hp1, hoffS, hoffA, hfb⟩ F₁ N₁
      simp only [List.cons_append, List.append_assoc] at N₁
      rw [List.map_cons, off_adr, List.map_append, led2_adr] at hown
      have hownA : OwnOff own (adr2 g) := fun q hq b hb => hown.2 q hq b (List.mem_append_left _ hb)
      have hoffT : OwnOff (led2 w.params g p tpp ++ (tl ++ own)) [lS] := by
        rw [← List.append_assoc]
        exact off_app.mpr ⟨hoffS, off_adr.mpr ⟨hown.1, off_nil⟩⟩
      have hvl2 : vals.length ≤ 1000 := by omega
      clear F N
      k_steps
      show wpAny _ _ _ _ _ _
      rename Fr _ _ _ _ => F2
      rename News _ _ _ _ => N2
      have N2l : News g' L' _ (led2 w.params g p tpp) := fun q hq => N2 q (List.mem_cons_of_mem _ (List.mem_append_left _ hq))
      have hdp : (ns.drop p).length ≤ m := by rw [List.length_drop] at hr ⊢; omega
      refine wpAny_call ((ih m rfl) (pushX (env := envT L') B' F2 rfl rfl) (by show dp + 1 + m + 8 < _; omega) (by show un + 3 + 4 * m + 60 < _; omega) hg (at2_of B'.stays rfl N2l hfr') hns hp1 hlen hdp ?_ ?_)
      · intro h3 tk3 l t tl3 pos3 tp3 htree hlt3 hle3 hk3 hl3 htl3 hin3
        show wpAny _ _ _ _ _ _
        obtain ⟨F3, N3⟩ := led2_after F2 N2l hk3 hl3
        have hS3 := N2 _ (List.mem_cons_self ..)
        have hdm : g.d ∈ adr2 g := by simp [adr2]
        have fresh3 : ∀ q ∈ tl3, q.1 ≠ L' ∧ g'.get? q.1 = none ∧ q.1 ≠ lS ∧ q.1 ∉ adr2 g := fun q hq => by
          have h0 := (htl3 q hq).2
          refine ⟨fun e => ?_, ?_, fun e => ?_, fun hm => ?_⟩
          · obtain ⟨o, _, _, e2, _⟩ := F2.ns
            rw [e] at h0; rw [h0] at e2; cases e2
          · cases e2 : g'.get? q.1 with
            | none => rfl
            | some o => rw [F2.keep _ _ e2] at h0; cases h0
          · rw [e] at h0; rw [hS3.1] at h0; cases h0
          · rw [← led2_adr w.params g p tpp] at hm
            obtain ⟨q', hq', e⟩ := List.mem_map.mp hm
            have h1 := (N2l q' hq').1
            rw [e, h0] at h1; cases h1
        have N3' : News g' L' h3 ((lS, W.listOf vals.toArray k) :: (led2 w.params g pos3 tp3 ++ ((tl3 ++ tl) ++ own))) := fun q hq => by
          rcases List.mem_cons.mp hq with rfl | hq
          · exact ⟨hk3 _ _ (fun z => hlS (by have e : lS = g.d := List.mem_singleton.mp z; rw [e]; exact hdm)) hS3.1, hS3.2⟩
          · rcases List.mem_append.mp hq with hq | hq
            · exact N3 q hq
            · rw [List.append_assoc] at hq
              rcases List.mem_append.mp hq with hq | hq
              · exact ⟨(htl3 q hq).1, (fresh3 q hq).1, (fresh3 q hq).2.1⟩
              · have hz := N2 q (List.mem_cons_of_mem _ (List.mem_append_right _ hq))
                refine ⟨hk3 _ _ (fun z => ?_) hz.1, hz.2⟩
                rcases List.mem_append.mp hq with hq | hq
                · exact hoffA q hq _ hdm (List.mem_singleton.mp z)
                · exact hownA q hq _ hdm (List.mem_singleton.mp z)
        have hoff3 : OwnOff (led2 w.params g pos3 tp3 ++ ((tl3 ++ tl) ++ own)) [lS] := by
          have a1 := off_app.mp hoffT
          have a2 := off_app.mp a1.2
          exact off_app.mpr ⟨off_led2 a1.1, off_app.mpr ⟨off_app.mpr ⟨off_adr.mpr ⟨fun q hq => (fresh3 q hq).2.2.1, off_nil⟩, a2.1⟩, a2.2⟩⟩
        have hown3 : OwnOff own (lS :: (adr2 g ++ (tl3 ++ tl).map (·.1))) := by
          intro q hq b hb
          rcases List.mem_cons.mp hb with rfl | hb
          · exact hown.1 q hq
          · rcases List.mem_append.mp hb with hb | hb
            · exact hownA q hq b hb
            · rw [List.map_append] at hb
              rcases List.mem_append.mp hb with hb | hb
              · obtain ⟨q', hq', rfl⟩ := List.mem_map.mp hb
                intro e
                have h1 := (N2 q (List.mem_cons_of_mem _ (List.mem_append_right _ (List.mem_append_right _ hq)))).1
                rw [e, (htl3 q' hq').2] at h1; cases h1
              · exact hown.2 q hq b (List.mem_append_right _ hb)
        clear F2 N2 N2l N3
        k_steps
        rename Fr _ _ _ _ => F4
        rename News _ _ _ _ => N4
        rw [List.push_toArray] at N4
        refine InvEndG.intro (nx := (lS, W.listOf (vals ++ [Value.ref l]).toArray (k + 1)) :: (led2 w.params g pos3 tp3 ++ (tl3 ++ tl))) F4 N4 ⟨?_, vals ++ [.ref l], k + 1, pos3, tp3, tl3 ++ tl, ts ++ [t], rfl, ?_, by simp [hvl], by omega, hle3, ?_, ?_, ?_⟩ ?_ ?_ ?_
        · intro z hz
          simp only [List.contains_cons, List.contains_nil, Bool.or_false, beq_eq_false_iff_ne] at hz
          simp [hz]
        · exact (hfor.mono fun q hq => List.mem_append_right _ hq).snoc (hin3.mono fun q hq => List.mem_append_left _ hq)
        · exact off_app.mpr ⟨(off_app.mp hoff3).1, (off_app.mp (off_app.mp hoff3).2).1⟩
        · exact off_app.mpr ⟨fun q hq b hb e => (fresh3 q hq).2.2.2 (e ▸ hb), hoffA⟩
        · rw [hfb, show c.toNat - i = (c.toNat - (i + 1)) + 1 by omega]
          simp only [forestBy, htree]
          cases forestBy (treeF m) (c.toNat - (i + 1)) (ns.drop pos3) with
          | none => rfl
          | some x => simp
        · rw [List.map_cons, List.map_append, led2_adr]; exact hown3
        · intro q hq
          simp only [List.mem_cons, List.mem_append] at hq ⊢
          rcases hq with h | h | h | h <;> simp [h]
        · intro q hq
          simp [hq]
      · intro hnone h3 tk3 e t u tp' hR hU
        refine fly _ _ _ _ h3 tk3 e t u tp' F2 N2l hR hU ?_
        rw [hdr]
        simp only [treeF]
        rw [hfb, show c.toNat - i = (c.toNat - (i + 1)) + 1 by omega]
        simp only [forestBy, hnone]
    · rintro u nx h tk ⟨vals, k, p, tpp, tl, ts, rfl, hfor, hvl, hp0, hp1, hoffS, hoffA, hfb⟩ F₁ N₁
      show wpAny _ _ _ _ _ _
      clear F N
      k_steps
      have Nl : News g' L' h (led2 w.params g p tpp) := fun q hq => N₁ q (List.mem_cons_of_mem _ (List.mem_append_left _ hq))
      have hgl := fun q hq => (hlive q hq).1
      obtain ⟨k1, k2⟩ : KeepsBut [g.d] s.heap h ∧ ∀ q ∈ led2 w.params g p tpp, h.get? q.1 = some q.2 := by
        subst eg
        exact ok2 hgl F₁ Nl
      refine hok h _ lS (.node ts) ((lS, W.listOf vals.toArray k) :: tl) p tpp ?_ (by omega) hp1 k1 k2 ?_ (.mk (List.mem_cons_self ..) (hfor.mono fun q hq => List.mem_cons_of_mem _ hq))
      · rw [hdr]
        simp only [treeF]
        rw [hfb, Nat.sub_self]
        simp [forestBy]
      · intro q hq
        rcases List.mem_cons.mp hq with rfl | hq
        · have hz := N₁ _ (List.mem_cons_self ..)
          exact ⟨hz.1, hun0 hlS hz.2.2⟩
        · have hz := N₁ q (List.mem_cons_of_mem _ (List.mem_append_right _ hq))
          exact ⟨hz.1, hun0 (fun hm => hoffA q hq _ hm rfl) hz.2.2⟩
  · intro hlt h2 tk2 e t u tp' hR hU
    obtain rfl : pos = ns.length := by omega
    refine fly _ _ _ _ h2 tk2 e t u tp' F N2 hR hU ?_
    rw [List.drop_length]
    cases n <;> rfl
theorem tree_ok {w : World} {mg mb : Str → Option Value} {base : Heap} {mean : ExcName → Option Value} (X : (hd2.heap_39 w.params).In base) (T : Top topProg loose2 mean mg mb base) (hCd : CodeHd base 48 44) : ∀ n, TreeC w base n := by
  intro n
  induction n with
  | zero => exact tree_step (n := 0) X T hCd (fun m h => absurd h (by omega)) rfl
  | succ n ih =>
    refine tree_step (n := n + 1) X T hCd (fun m h => ?_) rfl
    obtain rfl : n = m := by omega
    exact ih
end
end Mine
namespace Mine
section
mutual
/-- the numbers of sons, a node ahead of its sons -/
def pre : Tr → List Int
  | .node ts => (ts.length : Int) :: preL ts
def preL : List Tr → List Int
  | [] => []
  | t :: ts => pre t ++ preL ts
end
theorem preL_append : ∀ (a b : List Tr), preL (a ++ b) = preL a ++ preL b
  | [], b => rfl
  | t :: a, b => by rw [List.cons_append, preL, preL, preL_append a b, List.append_assoc]
theorem ints_one {vs : List Value} {ns : List Int} {n : Int} {t : Tok} (h : IntsAre vs ns) : IntsAre (vs ++ [.int n t]) (ns ++ [n]) := h.append (.cons _ _ .nil)
theorem ForestIn.at {news : List (Addr × Obj)} {vs : List Value} {ts : List Tr} (h : ForestIn news vs ts) {i : Nat} {v : Value} (hv : vs[i]? = some v) : ∃ t, ts[i]? = some t ∧ TreeIn news v t := by
  induction vs generalizing ts i with
  | nil => simp at hv
  | cons u vs ih =>
    cases h with
    | cons h r =>
      cases i with
      | zero => simp only [List.getElem?_cons_zero, Option.some.injEq] at hv ⊢; subst hv; exact ⟨_, rfl, h⟩
      | succ i => simp only [List.getElem?_cons_succ] at hv ⊢; exact ih r hv

theorem len_plain {prog : Program} {w : World} {A : Around} {E : Value → Shared → Prop} {s : Shared} {l : Addr} {vs : List Value} {Q : Value → Shared → Prop} (hl : s.heap.IsList l vs.toArray) (hz : vs.length ≤ 100000)
    (h : Q (.int (vs.length : Int) (s.toks + 1)) { s with toks := s.toks + 1 + 1 }) : wpAny (model prog w) A (call (.builtin "len") [.ref l]) Q E s :=
  len_list hl (by rw [List.size_toArray]; omega) (by rw [List.size_toArray]; exact h)
mutual
theorem pre_pos : ∀ t : Tr, 0 < (pre t).length
  | .node ts => by rw [pre]; simp
theorem preL_len : ∀ ts : List Tr, ts.length ≤ (preL ts).length
  | [] => by simp
  | t :: ts => by
    have := pre_pos t
    have := preL_len ts
    rw [preL, List.length_append, List.length_cons]
    omega
end
abbrev envC (L : Addr) : Env := envOf (Str.ofString "_law_counts") (scopeOf top2 7) L 70 (.ref 69)
def CountC (w : World) (base : Heap) (n : Nat) : Prop :=
  ∀ ⦃dp un : Nat⦄ ⦃gd : Option (List Code)⦄ ⦃outs : List Env⦄ ⦃s : Shared⦄ ⦃aC k : Nat⦄ ⦃cs : List Value⦄ ⦃ns : List Int⦄ ⦃news : List (Addr × Obj)⦄ ⦃v : Value⦄ ⦃t : Tr⦄ ⦃R : Result → Shared → Prop⦄,
    Below (Ar dp un gd outs) base outs s.heap → dp + n + 8 < recursionLimit → un + 4 * n + 60 < cLine → s.heap.get? aC = some (W.listOf cs.toArray k) → base.get? aC = none → (∀ env ∈ outs, env.frame ≠ some aC) → IntsAre cs ns →
    (∀ p ∈ news, s.heap.get? p.1 = some p.2 ∧ p.1 ≠ aC) → TreeIn news v t → (pre t).length ≤ n → ns.length + (pre t).length ≤ 1000 →
    (∀ h' tk' cs' k', KeepsBut [aC] s.heap h' → h'.get? aC = some (W.listOf (List.toArray cs') k') → IntsAre cs' (ns ++ pre t) → R (.ok (.ret (.ref aC))) { s with heap := h', toks := tk' }) →
    codeAny (model PySem.Challenge.rw_dw0036_02.row.prog w) (Ar dp un gd outs) (.call (.ref 70) ⟨[v, .ref aC], []⟩) R s

local macro_rules | `(tactic| walk_at "exec For Name Name cons nil") => `(tactic| ((with_reducible show wpAny _ _ (exec (Stmt.For _ _ _ _ _) _) _ _ _); refine Stop.mk ?_))
local macro_rules | `(tactic| walk_at "call ref") => `(tactic| ((with_reducible show wpAny _ _ (call (Value.ref 70) _) _ _ _); refine Stop.mk ?_))
local macro_rules | `(tactic| walk_at "call builtin:len") => `(tactic| (k_here; (with_reducible show wpAny _ _ (call (Value.builtin _) [Value.ref _]) _ _ _); k_dflt (refine' len_plain ?l ?z ?_; (case l => is_list); (case z => omega))))
theorem count_step {w : World} {mg mb : Str → Option Value} {base : Heap} {mean : ExcName → Option Value} {n : Nat} :
    (hd2.heap_39 w.params).In base → Top topProg loose2 mean mg mb base → (∀ m, n = m + 1 → CountC w base m) →
    (PySem.Challenge.rw_dw0036_02.row.prog = PySem.Challenge.rw_dw0036_02.row.prog) → CountC w base n := by
  w_top off
  k_fill
  intro X T ih _ dp un gd outs s aC k cs ns news v t R B hdep hun hC hC0 hfr hi hnews hin hsz hlen hok
  cases hin with
  | @mk a vs ka ts hm hfor =>
  have hpre : pre (.node ts) = (ts.length : Int) :: preL ts := by rw [pre]
  k_dflt (refine' callK (ds := [(aC, W.listOf cs.toArray k)]) X T B ?d ?fr ?k6 ?k7 ?k8 ?k9 ?kB ?_ ?c2 ?c3 ?c4 ?c5; (case k6 => k_is); (case k7 => k_is); (case k8 => (show dp < recursionLimit; omega)); (case k9 => exact BindsTo.of_eq rfl); (case kB => exact locs rfl); (case c2 => exact rfl); (case c3 => exact rfl); (case c4 => exact rfl); (case c5 => decide); (case d => (intro p hp; rw [List.mem_singleton.mp hp]; exact ⟨hC, hC0⟩)); (case fr => (intro env he p hp; rw [List.mem_singleton.mp hp]; exact hfr env he)))
  intro g' L' h' eg eL F' N' B' l1 X' T'
  refine wpAny_noRaise ?_
  have hnews' : ∀ p ∈ news, g'.get? p.1 = some p.2 := fun p hp => by
    subst eg
    exact hideAll_get _ (hnews p hp).1 (fun q => (hnews p hp).2 (List.mem_singleton.mp q))
  have hl' : g'.IsList a vs.toArray := ⟨_, hnews' _ hm, rfl, ka, rfl⟩
  have hvt := hfor.length
  have hle := preL_len ts
  rw [hpre, List.length_cons] at hsz hlen
  have hcl : cs.length ≤ 1000 := by rw [hi.length]; omega
  have hvl : vs.length ≤ 1000 := by omega
  k_steps
  show wpAny _ _ _ _ _ _
  refine wpAny_For ?_
  k_steps
  show wpAny _ _ _ _ _ _
  rename Fr _ _ _ _ => F
  rename News _ _ _ _ => N
  refine for_old (env := envC L') (h₀ := g') PassesOwn.never rfl hl' F N [Str.ofString "son"] (fun i nx => ∃ cs' k', nx = [(aC, W.listOf (List.toArray cs') k')] ∧ IntsAre cs' (ns ++ [(ts.length : Int)] ++ preL (ts.take i))) ?_ ?_ ?_
  · refine ⟨_, _, rfl, ?_⟩
    rw [List.take_zero, preL, List.append_nil, ← hvt]
    exact ints_one hi
  · rintro i v u nx h tk own hv hown ⟨cs', k', rfl, hi'⟩ F₁ N₁
    obtain ⟨son, hson, hin⟩ := hfor.at hv
    obtain ⟨hilt, hget⟩ := List.getElem?_eq_some_iff.mp hson
    have hsplit : preL ts = preL (ts.take i) ++ (pre son ++ preL (ts.drop (i + 1))) := by
      conv => lhs; rw [← List.take_append_drop i ts, List.drop_eq_getElem_cons hilt, hget]
      rw [preL_append, preL]
    have hsl := congrArg List.length hsplit
    simp only [List.length_append] at hsl
    have hpp := pre_pos son
    obtain ⟨m, rfl⟩ : ∃ m, n = m + 1 := ⟨n - 1, by omega⟩
    obtain ⟨a1, rfl⟩ : ∃ a1, v = .ref a1 := by cases hin; exact ⟨_, rfl⟩
    clear F N
    simp only [List.cons_append, List.nil_append] at N₁
    k_steps
    show wpAny _ _ _ _ _ _
    rename Fr _ _ _ _ => F2
    rename News _ _ _ _ => N2
    have hC2 := N2 _ (List.mem_cons_self ..)
    have hnl : (ns ++ [(ts.length : Int)] ++ preL (ts.take i)).length = ns.length + 1 + (preL (ts.take i)).length := by simp only [List.length_append, List.length_singleton]
    refine wpAny_call ((ih m rfl) (pushX (env := envC L') B' F2 rfl rfl) (by show dp + 1 + m + 8 < _; omega) (by show un + 3 + 4 * m + 60 < _; omega) hC2.1 (fresh_of_stays B'.stays hC2.2.2) ?_ hi' (fun p hp => ⟨F2.keep _ _ (hnews' p hp), (hnews p hp).2⟩) hin (by omega) (by omega) ?_)
    · intro env he
      rcases List.mem_cons.mp he with rfl | he
      · intro q; exact hC2.2.1 (Option.some.inj q).symm
      · exact hfr env he
    · intro h3 tk3 cs3 k3 hk3 hC3 hi3
      show wpAny _ _ _ _ _ _
      have F3 := hk3.fr F2 (fun q => hC2.2.1 (List.mem_singleton.mp q).symm) (fun d hd => by rw [List.mem_singleton.mp hd]; exact hC2.2.2)
      have N3 : News g' L' h3 ((aC, W.listOf cs3.toArray k3) :: own) := fun p hp => by
        rcases List.mem_cons.mp hp with rfl | hp
        · exact ⟨hC3, hC2.2⟩
        · have hz := N2 p (List.mem_cons_of_mem _ hp)
          exact ⟨hk3 _ _ (fun q => hown p hp aC (by simp) (List.mem_singleton.mp q)) hz.1, hz.2⟩
      clear F2 N2
      k_steps
      rename Fr _ _ _ _ => F4
      rename News _ _ _ _ => N4
      refine InvEndG.intro (nx := [(aC, W.listOf cs3.toArray k3)]) F4 N4 ⟨?_, cs3, k3, rfl, ?_⟩ ?_ ?_ ?_
      · intro z hz
        simp only [List.contains_cons, List.contains_nil, Bool.or_false, beq_eq_false_iff_ne] at hz
        simp [hz]
      · have e : preL (ts.take (i + 1)) = preL (ts.take i) ++ pre son := by
          rw [List.take_add_one, hson, preL_append]; simp [preL]
        rw [e, ← List.append_assoc]
        exact hi3
      · exact hown
      · intro q hq; simp at hq; simp [hq]
      · intro q hq; simp [hq]
  · rintro u nx h tk ⟨cs', k', rfl, hi'⟩ F₁ N₁
    show wpAny _ _ _ _ _ _
    clear F N
    k_steps
    rename_i a2
    have hz := N₁ _ (List.mem_cons_self ..)
    have hk : KeepsBut [aC] s.heap h := fun b o hb e => F₁.keep b o (by subst eg; exact hideAll_get _ e hb)
    refine hok _ _ cs' k' hk hz.1 ?_
    rw [hpre, show ns ++ (ts.length : Int) :: preL ts = ns ++ [(ts.length : Int)] ++ preL ts by simp]
    rwa [hvt, List.take_length] at hi'
theorem count_ok {w : World} {mg mb : Str → Option Value} {base : Heap} {mean : ExcName → Option Value} (X : (hd2.heap_39 w.params).In base) (T : Top topProg loose2 mean mg mb base) : ∀ n, CountC w base n := by
  intro n
  induction n with
  | zero => exact count_step (n := 0) X T (fun m h => absurd h (by omega)) rfl
  | succ n ih =>
    refine count_step (n := n + 1) X T (fun m h => ?_) rfl
    obtain rfl : n = m := by omega
    exact ih
end
end Mine
namespace Mine
section
abbrev envR (L : Addr) : Env := envOf (Str.ofString "_law_refusal") (scopeOf top2 8) L 77 (.ref 76)
local macro_rules | `(tactic| walk_at "call ref") => `(tactic| ((with_reducible show wpAny _ _ (call (Value.ref 63) _) _ _ _); refine Stop.mk ?_))
local macro_rules | `(tactic| walk_at "exec Try") => `(tactic| refine wpAny_Try_except ?_)
local macro_rules | `(tactic| walk_at "call type:str") => `(tactic| ((with_reducible show wpAny _ _ (call (Value.type "str") [Value.ref _]) _ _ _); refine Stop.mk ?_))
theorem refuse2 {w : World} {mg mb : Str → Option Value} {base : Heap} {mean : ExcName → Option Value} {n dp un : Nat} {gd : Option (List Code)} {outs : List Env} {s : Shared} {g : Sg2} {pos : Nat} {tp : Tok} {ns : List Int} {R : Result → Shared → Prop} :
    (hd2.heap_39 w.params).In base → Top topProg loose2 mean mg mb base → CodeHd base 48 44 → Below (Ar dp un gd outs) base outs s.heap → dp + n + 12 < recursionLimit → un + 4 * n + 80 < cLine →
    SgOk2 g → At2 w base outs g pos tp s.heap → KBw.bInts g.octs = ns → pos ≤ ns.length → ns.length ≤ 1000 → (ns.drop pos).length ≤ n → treeF n (ns.drop pos) = none → KtsDicts (outs.filterMap (·.frame)) s.heap →
    (∀ h' tk' u tp', (∀ b o, b ∉ adr2 g → b ∉ outs.filterMap (·.frame) → s.heap.get? b = some o → h'.get? b = some o) → (hideAll s.heap (adr2 g)).UpToSlots h' → (∀ p ∈ led2 w.params g ns.length tp', h'.get? p.1 = some p.2) → R (.ok (.ret (.str words2 u))) { s with heap := h', toks := tk' }) →
    codeAny (model PySem.Challenge.rw_dw0036_02.row.prog w) (Ar dp un gd outs) (.call (.ref 77) ⟨[.ref g.x], []⟩) R s := by
  w_top off
  k_fill
  intro X T hCd B hdep hun hg hat hns hpos hlen hr hnone hD hok
  obtain ⟨hlive, hfr⟩ := hat
  have hfr' : ∀ env ∈ outs, ∀ b ∈ adr2 g, env.frame ≠ some b := fun env he b hb => by
    rw [← led2_adr w.params g pos tp] at hb
    obtain ⟨p, hp, rfl⟩ := List.mem_map.mp hb
    exact hfr env he p hp
  k_dflt (refine' callK (ds := led2 w.params g pos tp) X T B ?d ?fr ?k6 ?k7 ?k8 ?k9 ?kB ?_ ?c2 ?c3 ?c4 ?c5; (case k6 => k_is); (case k7 => k_is); (case k8 => (show dp < recursionLimit; omega)); (case k9 => exact BindsTo.of_eq rfl); (case kB => exact locs rfl); (case c2 => exact rfl); (case c3 => exact rfl); (case c4 => exact rfl); (case c5 => decide); (case d => exact hlive); (case fr => exact hfr))
  intro g' L' h' eg eL F' N' B' l1 X' T'
  rw [led2_adr] at eg
  have hD' : KtsDicts (outs.filterMap (·.frame)) g' := fun b hb => by
    obtain ⟨o, es, k, ho, hd⟩ := hD b hb
    obtain ⟨env, he, hf⟩ := List.mem_filterMap.mp hb
    subst eg
    exact ⟨o, es, k, hideAll_get _ ho (fun q => hfr' env he b q hf), hd⟩
  refine wpAny_noRaise ?_
  k_steps
  show wpAny _ _ _ _ _ _
  rename Fr _ _ _ _ => F
  rename News _ _ _ _ => N
  refine wpAny_call (tree_ok X T hCd n (pushX (env := envR L') B' F rfl rfl) (by show dp + 1 + n + 8 < _; omega) (by show un + 3 + 4 * n + 60 < _; omega) hg (at2_of B'.stays rfl N hfr') hns hpos hlen hr ?_ ?_)
  · intro h1 tk1 l t tl pos' tp' ht
    rw [hnone] at ht; cases ht
  · intro _ h2 tk2 e t u tp' hR hU
    obtain ⟨hL, h0⟩ := adr2_off N
    have F2 := fr_hide F hL h0
    show wpAny _ _ _ _ _ _
    k_dflt (refine' caught_SB (T' := "ValueError") hR F2 B' hU X T hD' KtsTurn.refl ?ex PyProof.Rows.Boot.«ValueError» (by decide) PySem.F.isExc_ValueError PySem.F.notTuple_ValueError ?hs ?_; (case ex => k_is); (case hs => (rw [isSubtype_type]; kernel_rfl)))
    rintro h3 g3 news3 tk3 K3 F3 N3 ⟨oe, ot, ws, nt, m1, m2, q1, q2, q3, q4, q5⟩ Nl3 B3 X3 T3 D3
    refine wpAny_noRaise ?_
    have N4 : News g3 L' h3 ((e, oe) :: (t, ot) :: led2 w.params g ns.length tp') := fun p hp => by
      rcases List.mem_cons.mp hp with rfl | hp
      · exact N3 _ m1
      · rcases List.mem_cons.mp hp with rfl | hp
        · exact N3 _ m2
        · exact Nl3 p hp
    clear F N N3 Nl3
    k_steps
    show wpAny _ _ _ _ _ _
    refine str_exc (by show un + 3 + 2 < cLine; omega) N4 (List.mem_cons_self ..) (List.mem_cons_of_mem _ (List.mem_cons_self ..)) q1 q2 q3 q4 q5 ?_
    refine name_goes_keeps F3 N4 ?_ rfl rfl
    intro h4 v4 F4 N4'
    refine hok h4 _ u tp' (fun b o hb hb2 e0 => F4.keep b o (K3.other b o (by subst eg; exact hideAll_get _ e0 hb) hb2)) (fun b o e0 _ => ?_) (fun p hp => (N4' p (List.mem_cons_of_mem _ (List.mem_cons_of_mem _ hp))).1)
    subst eg
    obtain ⟨sl, hs⟩ := K3.up e0
    exact ⟨sl, F4.keep _ _ hs⟩
end
end Mine
namespace Mine
section
def octet2 (x : Int) : Int := if x.fmod 16 < 8 then 0 else if x.fmod 16 < 12 then 1 else if x.fmod 16 < 14 then 2 else if x.fmod 16 = 14 then 3 else 4 + (x.fdiv 16).fmod 252
local macro_rules | `(tactic| k_room) => `(tactic| ((try simp only [depth_under_make, depth_under_kw, depth_in1, depth_deeper]); omega))
theorem octet_ok {w : World} {mg mb : Str → Option Value} {base : Heap} {mean : ExcName → Option Value} {dp un : Nat} {gd : Option (List Code)} {outs : List Env} {s : Shared} {a : Int} {ta : Tok} {R : Result → Shared → Prop} :
    (hd2.heap_39 w.params).In base → Top topProg loose2 mean mg mb base → Below (Ar dp un gd outs) base outs s.heap → dp + 5 < recursionLimit → un + 30 < cLine →
    (∀ h' tk' tv, KeepsBut [] s.heap h' → R (.ok (.ret (.int (octet2 a) tv))) { s with heap := h', toks := tk' }) →
    codeAny (model PySem.Challenge.rw_dw0036_02.row.prog w) (Ar dp un gd outs) (.call (.ref 56) ⟨[.int a ta], []⟩) R s := by
  w_top off
  k_fill
  intro X T B hdep hun hok
  k_dflt (refine' callK (ds := []) X T B ?d ?fr ?k6 ?k7 ?k8 ?k9 ?kB ?_ ?c2 ?c3 ?c4 ?c5; (case k6 => k_is); (case k7 => k_is); (case k8 => (show dp < recursionLimit; omega)); (case k9 => exact BindsTo.of_eq rfl); (case kB => exact locs rfl); (case c2 => exact rfl); (case c3 => exact rfl); (case c4 => exact rfl); (case c5 => decide); (case d => (intro p hp; cases hp)); (case fr => (intro _ _ p hp; cases hp)))
  intro g' L' h' eg eL F' N' B' l1 X' T'
  refine wpAny_noRaise ?_
  have keep : ∀ (h : Heap) m, Fr g' L' h m → KeepsBut [] s.heap h := fun h m F b o _ e => F.keep b o (by subst eg; exact e)
  have fin : ∀ (h : Heap) m tk x tv, Fr g' L' h m → x = octet2 a → R (.ok (.ret (.int x tv))) { s with heap := h, toks := tk } := fun h m tk x tv F e => by subst e; exact hok h tk tv (keep h m F)
  clear hok
  k_steps
  all_goals (rename Fr _ _ _ _ => F; refine fin _ _ _ _ _ F ?_; unfold octet2; (repeat' split) <;> first | rfl | omega | (simp_all; done))
theorem octet_call {w : World} {mg mb : Str → Option Value} {base : Heap} {mean : ExcName → Option Value} {s : Shared} {a : Int} {ta : Tok} {nm : Str} {sc : Scope} {L fa : Addr} {cd : Value} {m : Str → Option Value} {news : List (Addr × Obj)} {s₂ : Heap} {Q E : Value → Shared → Prop}
    (X : (hd2.heap_39 w.params).In base) (T : Top topProg loose2 mean mg mb base) (B : Below callerA base [] base) (F : Fr base L s.heap m) (N : News base L s.heap news) (I : InElt s₂ s.heap) (hk : sc.kind = .function)
    (h : ∀ h' tk' tv, Fr base L h' m → News base L h' news → InElt s₂ h' → Q (.int (octet2 a) tv) { s with heap := h', toks := tk' }) :
    wpAny (model PySem.Challenge.rw_dw0036_02.row.prog w) (callerA.deeper (envOf nm sc L fa cd)) (call (.ref 56) [.int a ta]) Q E s := by
  refine wpAny_call (octet_ok X T (pushX (env := envOf nm sc L fa cd) B F rfl hk) (by decide) (by decide) ?_)
  intro h' tk' tv k
  exact h h' tk' tv (k.fr F List.not_mem_nil (fun _ h => nomatch h)) (k.news N fun _ _ => List.not_mem_nil) (fun b o e => k b o List.not_mem_nil (I b o e))
end
end Mine
namespace Mine
section
def lawBody2 : List Stmt := bodyOf top2 9
def lawScope2 : Scope := scopeOf top2 9
def bodyA : List Stmt := bodyOf lawBody2 5
abbrev env2 (L fa : Addr) (cd : Value) : Env := envOf (Str.ofString "law") lawScope2 L fa cd
abbrev m2 (lE lW lO : Addr) (tw : Tok) (m0 : Str → Option Value) : Str → Option Value := fun y => if y = Str.ofString "ends" then some (Value.ref lE) else if y = Str.ofString "walk" then some (Value.ref lW) else if y = Str.ofString "octets" then some (Value.ref lO) else if y = Str.ofString "words" then some (Value.str words2 tw) else m0 y
/-- what a turn of the walk does to the ends -/
def StepE (nwk : List Int) (v : Int) (nen : List Int) (i : Nat) (nen' : List Int) : Prop := ((∀ a ∈ nwk, v < a) ∧ nen' = nen ++ [(i : Int) + 1]) ∨ (¬ (∀ a ∈ nwk, v < a) ∧ nen' = nen)
local macro_rules | `(tactic| walk_at "subscriptTail Name UnaryOp ref int") => `(tactic| (k_here; (with_unfolding_all refine' last_item ?k1 ?k2 ?k3 ?_ ?k6; (case k1 => is_list); (case k2 => l_ints); (case k3 => first | assumption | simp); (case k6 => with_unfolding_all rfl)); intro t'))
local macro_rules | `(tactic| walk_at "call builtin:min") => `(tactic| (k_here; (with_reducible show wpAny _ _ (call (Value.builtin _) [Value.ref _]) _ _ _); (with_unfolding_all refine' kso_min ?k1 ?k2 ?k3 ?k4 ?k5 ?k6 ?_; (case k1 => k_asm); (case k2 => k_asm); (case k3 => kso_list); (case k4 => assumption); (case k5 => (simp only [List.length_take, List.length_append, List.length_cons, List.length_nil]; omega)); (case k6 => with_unfolding_all rfl); k_whole); intro h' M' t' k' F' N' a' b'; (try k_sweep)))
theorem take_snoc2 {l : List Int} {a : Int} : List.take ((l ++ [a]).length - 1) (l ++ [a]) = l := by simp
theorem last_snoc2 {l : List Int} {a : Int} : (l ++ [a]).getLastD 0 = a := by simp
theorem same_k {m m' : Str → Option Value} {v : Option Value} (h : SameMap [Str.ofString "k"] m m') : SameMap [Str.ofString "k"] m (fun y => if y = Str.ofString "k" then v else m' y) := fun z hz => by
  have := h z hz
  simp only [List.contains_cons, List.contains_nil, Bool.or_false, beq_eq_false_iff_ne] at hz
  simp only [if_neg hz]; exact this
theorem same_k0 {m u : Str → Option Value} : SameMap [Str.ofString "k"] m (fun y => if [Str.ofString "k"].contains y then u y else m y) := fun z hz => by simp only [hz]; rfl
theorem turnA {w : World} {mg mb m0 u : Str → Option Value} {base : Heap} {mean : ExcName → Option Value} {s : Shared} {L fa lE lW lO i : Nat} {cd : Value} {tw tv : Tok} {en wk ov : List Value} {nen nwk os : List Int} {k1 k2 k3 : Nat} {T : List (Addr × Obj)} {P : Flow → Shared → Prop} :
    (hd2.heap_39 w.params).In base → Top topProg loose2 mean mg mb base → Below callerA base [] base →
    Fr base L s.heap (fun y => if [Str.ofString "k"].contains y then u y else m2 lE lW lO tw m0 y) → News base L s.heap ((lE, W.listOf en.toArray k1) :: (lW, W.listOf wk.toArray k2) :: (lO, W.listOf ov.toArray k3) :: T) → (lO < lW ∧ lW < lE) → OwnOff T [lE, lW, lO] →
    IntsAre en nen → IntsAre wk nwk → IntsAre ov os → i < os.length → os.length ≤ 100 → nwk.length = i + 1 → nwk ≠ [] → nen.length ≤ 100 →
    (∀ h' tk' m' en' wk' nen' k1' k2', SameMap [Str.ofString "k"] (m2 lE lW lO tw m0) m' → Fr base L h' m' → News base L h' ((lE, W.listOf (List.toArray en') k1') :: (lW, W.listOf (List.toArray wk') k2') :: (lO, W.listOf ov.toArray k3) :: T) →
      IntsAre wk' (nwk ++ [nwk.getLastD 0 + os.getD i 0 - 1]) → IntsAre en' nen' → StepE nwk (nwk.getLastD 0 + os.getD i 0 - 1) nen i nen' → P .next { s with heap := h', toks := tk' }) →
    wpAny (model PySem.Challenge.rw_dw0036_02.row.prog w) (callerA.deeper (env2 L fa cd)) (storeName (env2 L fa cd) (Str.ofString "k") (.int (0 + (i : Int)) tv)) (fun _ s₂ => wpAny (model PySem.Challenge.rw_dw0036_02.row.prog w) (callerA.deeper (env2 L fa cd)) (execs bodyA (env2 L fa cd)) P (fun _ _ => False) s₂) (fun _ _ => False) s := by
  w_top off
  k_fill
  intro X T B F N hord hoff iE iW iO hi hlo hlw hne hle hP
  have l1 : en.length ≤ 100 := by rw [iE.length]; exact hle
  have l2 : wk.length ≤ 100 := by rw [iW.length]; omega
  have l3 : ov.length ≤ 100 := by rw [iO.length]; exact hlo
  k_steps
  · rename Fr _ _ _ _ => F
    rename News _ _ _ _ => N
    rename _ < _ => hlt
    rename (∀ a, a ∈ List.take _ _ → _ ≤ a) => hmin
    simp only [List.push_toArray] at N
    rw [last_snoc2] at hlt
    rw [take_snoc2] at hmin
    rw [show (0 + (i : Int)).toNat = i by omega] at *
    rw [show (0 + (i : Int)) = (i : Int) by omega] at *
    refine hP _ _ _ _ _ (nen ++ [(i : Int) + 1]) _ _ (same_k same_k0) F (fun p hp => N p (List.mem_cons_of_mem _ hp)) (ints_one iW) (ints_one iE) (Or.inl ⟨fun a ha => ?_, rfl⟩)
    have := hmin a ha
    omega
  · rename Fr _ _ _ _ => F
    rename News _ _ _ _ => N
    rename ¬ _ < _ => hlt
    rename _ ∈ List.take _ _ => hmem
    rw [last_snoc2] at hlt
    rw [take_snoc2] at hmem
    rw [show (0 + (i : Int)).toNat = i by omega] at *
    refine hP _ _ _ _ _ nen _ _ (same_k same_k0) F (fun p hp => N p (List.mem_cons_of_mem _ hp)) (ints_one iW) iE (Or.inr ⟨fun q => hlt (q _ hmem), rfl⟩)
/-- the walk -/
def ws (os : List Int) (i : Nat) : Int := ((os.take i).map (· - 1)).sum
def lowB (os : List Int) (j : Nat) : Bool := decide (∀ l, l < j → ws os j < ws os l)
def endsTo (os : List Int) (i : Nat) : List Nat := (List.range (i + 1)).filter (lowB os)
theorem ws_succ {os : List Int} {i : Nat} (h : i < os.length) : ws os (i + 1) = ws os i + os.getD i 0 - 1 := by
  unfold ws
  rw [List.take_add_one, List.getElem?_eq_getElem h, List.map_append, List.sum_append, List.getD_eq_getElem?_getD, List.getElem?_eq_getElem h]
  simp
  omega
def WInv (os : List Int) (i : Nat) (nwk nen : List Int) : Prop := nwk = (List.range (i + 1)).map (ws os) ∧ nen = (endsTo os i).map (fun n : Nat => (n : Int))
theorem winv_0 (os : List Int) : WInv os 0 [0] [0] := ⟨rfl, by unfold endsTo; simp [List.range_succ, lowB]⟩
theorem winv_step {os nwk nen nen' : List Int} {i : Nat} (h : WInv os i nwk nen) (hi : i < os.length) (hs : StepE nwk (nwk.getLastD 0 + os.getD i 0 - 1) nen i nen') : WInv os (i + 1) (nwk ++ [nwk.getLastD 0 + os.getD i 0 - 1]) nen' := by
  obtain ⟨rfl, rfl⟩ := h
  have e1 : ((List.range (i + 1)).map (ws os)).getLastD 0 = ws os i := by rw [List.range_succ, List.map_append]; simp
  rw [e1, ← ws_succ hi]
  rw [e1, ← ws_succ hi] at hs
  refine ⟨by rw [List.range_succ (n := i + 1), List.map_append]; rfl, ?_⟩
  have e2 : endsTo os (i + 1) = endsTo os i ++ (if lowB os (i + 1) then [i + 1] else []) := by
    unfold endsTo
    rw [List.range_succ (n := i + 1), List.filter_append]
    congr 1
    rw [List.filter_cons]
    rfl
  have e3 : (∀ a ∈ (List.range (i + 1)).map (ws os), ws os (i + 1) < a) ↔ lowB os (i + 1) = true := by
    unfold lowB
    simp only [List.mem_map, List.mem_range, decide_eq_true_eq]
    exact ⟨fun h l hl => h _ ⟨l, hl, rfl⟩, fun h a ⟨l, hl, e⟩ => e ▸ h l hl⟩
  rw [e2]
  rcases hs with ⟨h, rfl⟩ | ⟨h, rfl⟩
  · rw [if_pos (e3.mp h)]; simp
  · rw [if_neg (fun q => h (e3.mpr q))]; simp
def JA (lE lW lO : Addr) (ov : List Value) (k3 : Nat) (os : List Int) (T : List (Addr × Obj)) (i : Nat) (nx : List (Addr × Obj)) : Prop :=
  ∃ (en wk : List Value) (nen nwk : List Int) (k1 k2 : Nat), nx = (lE, W.listOf en.toArray k1) :: (lW, W.listOf wk.toArray k2) :: (lO, W.listOf ov.toArray k3) :: T ∧ IntsAre en nen ∧ IntsAre wk nwk ∧ WInv os i nwk nen
theorem endsTo_len (os : List Int) (i : Nat) : (endsTo os i).length ≤ i + 1 := by
  unfold endsTo
  exact Nat.le_trans (List.length_filter_le _ _) (by simp)
theorem loopA {w : World} {mg mb m0 : Str → Option Value} {base : Heap} {mean : ExcName → Option Value} {s : Shared} {L fa lE lW lO r : Nat} {cd : Value} {tw t1 t2 t3 ta tb : Tok} {ov : List Value} {os : List Int} {k3 : Nat} {T : List (Addr × Obj)} {Q : Flow → Shared → Prop} {px : Pos}
    (X : (hd2.heap_39 w.params).In base) (Tp : Top topProg loose2 mean mg mb base) (B : Below callerA base [] base)
    (F : Fr base L s.heap (m2 lE lW lO tw m0)) (N : News base L s.heap ((lE, W.listOf #[Value.int 0 ta] 0) :: (lW, W.listOf #[Value.int 0 tb] 0) :: (lO, W.listOf ov.toArray k3) :: T)) (hord : lO < lW ∧ lW < lE) (hoff : OwnOff T [lE, lW, lO])
    (iO : IntsAre ov os) (hlo : os.length ≤ 80) (hr : IsRange s.heap r 0 (os.length : Int) 1 t1 t2 t3)
    (hQ : ∀ (u : Str → Option Value) h' tk' en wk nen nwk k1 k2, Fr base L h' (fun y => if [Str.ofString "k"].contains y then u y else m2 lE lW lO tw m0 y) → News base L h' ((lE, W.listOf (List.toArray en) k1) :: (lW, W.listOf (List.toArray wk) k2) :: (lO, W.listOf ov.toArray k3) :: T) →
      IntsAre en nen → IntsAre wk nwk → WInv os os.length nwk nen → Q .next { s with heap := h', toks := tk' }) :
    wpAny (model PySem.Challenge.rw_dw0036_02.row.prog w) (callerA.deeper (env2 L fa cd)) (pyIter (.ref r)) (fun it s₂ => codeAny (model PySem.Challenge.rw_dw0036_02.row.prog w) (callerA.deeper (env2 L fa cd)) (.forLoop (.Name (Str.ofString "k") px) it bodyA [] (env2 L fa cd)) (fun r s' => match r with | .ok f => Q f s' | .error e => cameBackBy (model PySem.Challenge.rw_dw0036_02.row.prog w) (callerA.deeper (env2 L fa cd)) (env2 L fa cd) (fun _ _ => False) e s') s₂) (fun _ _ => False) s := by
  refine for_range (env := env2 L fa cd) (h₀ := base) (n := os.length) PassesOwn.never rfl hr (small_one (by omega) (by omega) (by omega) (by omega)) (by rw [rangeSize_nat]; simp) F N [Str.ofString "k"] (JA lE lW lO ov k3 os T) ⟨[_], [_], [0], [0], 0, 0, rfl, .cons _ _ .nil, .cons _ _ .nil, winv_0 os⟩ ?_ ?_
  · rintro i tv u nx h tk own hi hown ⟨en, wk, nen, nwk, k1, k2, rfl, iE, iW, hv⟩ F₁ N₁
    have hl1 : nwk.length = i + 1 := by rw [hv.1]; simp
    have hl2 : nen.length ≤ i + 1 := by rw [hv.2, List.length_map]; exact endsTo_len os i
    have hne : nwk ≠ [] := fun e => by rw [e] at hl1; simp at hl1
    simp only [List.map_cons, off_adr] at hown
    have hoffT : OwnOff (T ++ own) [lE, lW, lO] := off_app.mpr ⟨hoff, off_adr.mpr ⟨hown.1, off_adr.mpr ⟨hown.2.1, off_adr.mpr ⟨hown.2.2.1, off_nil⟩⟩⟩⟩
    simp only [List.cons_append] at N₁
    refine turnA (s := { s with heap := h, toks := tk }) X Tp B F₁ N₁ hord hoffT iE iW iO hi (by omega) hl1 hne (by omega) ?_
    intro h' tk' m' en' wk' nen' k1' k2' hsm F' N' iW' iE' hst
    refine InvEndG.intro (nx := (lE, W.listOf en'.toArray k1') :: (lW, W.listOf wk'.toArray k2') :: (lO, W.listOf ov.toArray k3) :: T) F' N' ⟨hsm, en', wk', nen', _, k1', k2', rfl, iE', iW', winv_step hv hi hst⟩ ?_ ?_ ?_
    · simp only [List.map_cons, off_adr]
      exact ⟨hown.1, hown.2.1, hown.2.2.1, hown.2.2.2⟩
    · intro p hp
      simp only [List.mem_cons, List.mem_append] at hp ⊢
      rcases hp with h | h | h | h <;> simp [h]
    · intro p hp
      simp [hp]
  · rintro u nx h tk ⟨en, wk, nen, nwk, k1, k2, rfl, iE, iW, hv⟩ F₁ N₁
    exact hQ u h tk en wk nen nwk k1 k2 F₁ N₁ iE iW hv
end
end Mine
namespace Mine
section
def restA : List Stmt := lawBody2.drop 6
def bodyB : List Stmt := bodyOf lawBody2 7
def restB : List Stmt := lawBody2.drop 8
end
end Mine
namespace Mine
section
abbrev m3 (x lE lW lO : Addr) (tw : Tok) (u0 m0 : Str → Option Value) : Str → Option Value := fun y => if y = Str.ofString "f" then some (Value.ref x) else if [Str.ofString "k"].contains y then u0 y else m2 lE lW lO tw m0 y
abbrev stB : List Str := [Str.ofString "k", Str.ofString "tree"]
local macro_rules | `(tactic| walk_at "call ref") => `(tactic| ((with_reducible show wpAny _ _ (call (Value.ref 63) _) _ _ _); refine Stop.mk ?_))
local macro_rules | `(tactic| walk_at "call ref") => `(tactic| ((with_reducible show wpAny _ _ (call (Value.ref 70) _) _ _ _); refine Stop.mk ?_))
theorem allLt_ne {d : Nat} {l : List (Addr × Obj)} (h : AllLt d l) : ∀ p ∈ l, p.1 ≠ d := by
  induction l with
  | nil => intro p hp; cases hp
  | cons q r ih =>
    intro p hp
    rcases List.mem_cons.mp hp with rfl | hp
    · exact Nat.ne_of_lt h.1
    · exact ih h.2 p hp
/-- the ledger behind a call that changed one list alone -/
theorem news_set {base h h' : Heap} {L a : Addr} {o o' : Obj} {news : List (Addr × Obj)} (N : News base L h ((a, o) :: news)) (k : KeepsBut [a] h h') (e : h'.get? a = some o') (off : OwnOff news [a]) : News base L h' ((a, o') :: news) := fun p hp => by
  rcases List.mem_cons.mp hp with rfl | hp
  · exact ⟨e, (N _ (List.mem_cons_self ..)).2⟩
  · have hz := N p (List.mem_cons_of_mem _ hp)
    exact ⟨k _ _ (fun q => off p hp a (by simp) (List.mem_singleton.mp q)) hz.1, hz.2⟩
theorem turnB {w : World} {mg mb m0 u0 u : Str → Option Value} {base : Heap} {mean : ExcName → Option Value} {s : Shared} {L fa lE lW lO i n : Nat} {g : Sg2} {pos pos' : Nat} {cd : Value} {tw tv tp : Tok} {en ov : List Value} {nen os : List Int} {k1 k3 : Nat} {t : Tr} {T₀ : List (Addr × Obj)} {P : Flow → Shared → Prop} :
    (hd2.heap_39 w.params).In base → Top topProg loose2 mean mg mb base → Below callerA base [] base → CodeHd base 48 44 →
    Fr base L s.heap (fun y => if stB.contains y then u y else m3 g.x lE lW lO tw u0 m0 y) → News base L s.heap (led2 w.params g pos tp ++ ((lE, W.listOf en.toArray k1) :: (lO, W.listOf ov.toArray k3) :: T₀)) → (lO < lE ∧ lE < g.cO ∧ lE < g.cc) → SgOk2 g → KBw.bInts g.octs = os → OwnOff T₀ (lE :: lO :: adr2 g) →
    IntsAre en nen → IntsAre ov os → os.length ≤ 300 → n ≤ 300 → (os.drop pos).length ≤ n → nen.length ≤ 400 → i + 1 < nen.length → nen.getD i 0 = pos → nen.getD (i + 1) 0 = pos' → pos ≤ pos' → pos' ≤ os.length → treeF n (os.drop pos) = some (t, os.drop pos') → pre t = (os.drop pos).take (pos' - pos) →
    (∀ h' tk' m' tp', SameMap stB (m3 g.x lE lW lO tw u0 m0) m' → Fr base L h' m' → News base L h' (led2 w.params g pos' tp' ++ ((lE, W.listOf en.toArray k1) :: (lO, W.listOf ov.toArray k3) :: T₀)) → P .next { s with heap := h', toks := tk' }) →
    wpAny (model PySem.Challenge.rw_dw0036_02.row.prog w) (callerA.deeper (env2 L fa cd)) (storeName (env2 L fa cd) (Str.ofString "k") (.int (0 + (i : Int)) tv)) (fun _ s₂ => wpAny (model PySem.Challenge.rw_dw0036_02.row.prog w) (callerA.deeper (env2 L fa cd)) (execs bodyB (env2 L fa cd)) P (fun _ _ => False) s₂) (fun _ _ => False) s := by
  w_top off
  k_fill
  intro X T B hCd F N hord hg hns hoff iE iO hlo hn hdr hle hi he1 he2 hpp hpl htree hpre hP
  have l1 : en.length ≤ 400 := by rw [iE.length]; exact hle
  have l3 : ov.length ≤ 300 := by rw [iO.length]; exact hlo
  k_steps
  show wpAny _ _ _ _ _ _
  rename_i h' _ _
  rename Fr _ _ _ _ => F2
  rename News _ _ _ _ => N2
  have N2l : News base L _ (led2 w.params g pos tp) := fun q hq => N2 q (List.mem_append_left _ hq)
  refine wpAny_call (tree_ok X T hCd n (pushX (env := env2 L fa cd) B F2 rfl rfl) (Nat.lt_of_le_of_lt (m := 700) (by show 302 + n + 8 ≤ _; omega) (by decide)) (Nat.lt_of_le_of_lt (m := 2000) (by show 4 + 3 + 4 * n + 60 ≤ _; omega) (by decide)) hg (at2_of B.stays rfl N2l (fun _ h => nomatch h)) hns (by omega) (by omega) hdr ?_ ?_)
  · intro h3 tk3 l t3 tl3 pos3 tp3 htree3 hlt3 hle3 hk3 hl3 htl3 hin3
    show wpAny _ _ _ _ _ _
    rw [htree] at htree3
    obtain ⟨e1, e2⟩ := Prod.mk.inj (Option.some.inj htree3)
    have e3 : pos3 = pos' := by
      have := congrArg List.length e2
      rw [List.length_drop, List.length_drop] at this
      omega
    subst e1 e3
    obtain ⟨F3, N3⟩ := led2_after F2 N2l hk3 hl3
    have hdm : g.d ∈ adr2 g := by simp [adr2]
    have hLs : ∃ o, h'.get? L = some o := by obtain ⟨o, _, _, e, _⟩ := F2.ns; exact ⟨o, e⟩
    have old : ∀ q ∈ (lE, W.listOf en.toArray k1) :: (lO, W.listOf ov.toArray k3) :: T₀, h'.get? q.1 = some q.2 ∧ q.1 ≠ L ∧ base.get? q.1 = none := fun q hq => N2 q (List.mem_append_right _ hq)
    have hnd : ∀ q ∈ (lE, W.listOf en.toArray k1) :: (lO, W.listOf ov.toArray k3) :: T₀, q.1 ≠ g.d := fun q hq => by
      rcases List.mem_cons.mp hq with rfl | hq
      · have := hg.ord; show lE ≠ g.d; omega
      · rcases List.mem_cons.mp hq with rfl | hq
        · have := hg.ord; show lO ≠ g.d; omega
        · exact hoff q hq g.d (by simp [adr2])
    have fresh3 : ∀ q ∈ tl3, q.1 ≠ L ∧ base.get? q.1 = none ∧ ∀ p ∈ led2 w.params g pos tp ++ ((lE, W.listOf en.toArray k1) :: (lO, W.listOf ov.toArray k3) :: T₀), q.1 ≠ p.1 := fun q hq => by
      have h0 := (htl3 q hq).2
      refine ⟨fun e => ?_, ?_, fun p hp e => ?_⟩
      · obtain ⟨o, ho⟩ := hLs; rw [e, ho] at h0; cases h0
      · cases e2 : base.get? q.1 with
        | none => rfl
        | some o => rw [F2.keep _ _ e2] at h0; cases h0
      · have h1 := (N2 p hp).1
        rw [← e, h0] at h1; cases h1
    have N4 : News base L h3 (led2 w.params g pos3 tp3 ++ ((lE, W.listOf en.toArray k1) :: (lO, W.listOf ov.toArray k3) :: (tl3 ++ T₀))) := fun q hq => by
      rcases List.mem_append.mp hq with hq | hq
      · exact N3 q hq
      · have : q ∈ tl3 ∨ q ∈ (lE, W.listOf en.toArray k1) :: (lO, W.listOf ov.toArray k3) :: T₀ := by
          simp only [List.mem_cons, List.mem_append] at hq ⊢
          rcases hq with h | h | h | h <;> simp [h]
        rcases this with hq | hq
        · exact ⟨(htl3 q hq).1, (fresh3 q hq).1, (fresh3 q hq).2.1⟩
        · exact ⟨hk3 _ _ (fun z => hnd q hq (List.mem_singleton.mp z)) (old q hq).1, (old q hq).2⟩
    have hoff4 : OwnOff (tl3 ++ T₀) (lE :: lO :: adr2 g) := by
      refine off_app.mpr ⟨fun q hq b hb e => ?_, hoff⟩
      have h2 := (fresh3 q hq).2.2
      simp only [List.mem_cons] at hb
      rcases hb with rfl | rfl | hb
      · exact h2 (b, W.listOf en.toArray k1) (by simp) e
      · exact h2 (b, W.listOf ov.toArray k3) (by simp) e
      · rw [← led2_adr w.params g pos tp] at hb
        obtain ⟨p, hp, rfl⟩ := List.mem_map.mp hb
        exact h2 p (List.mem_append_left _ hp) e
    clear F2 N2 N2l N3 hk3 hl3 old fresh3 hnd hLs hdm htree3 e2
    obtain ⟨fn, cc, x, d, cF, cO, q, dc, pm, ctv, t1, t2, tq, tb, vs', oc, oF, oO, octs⟩ := g
    obtain ⟨hord2, dF, dO, dc1, dc2⟩ := hg
    simp only [led2, adr2, List.cons_append, List.nil_append] at *
    have he2' : nen.getD (0 + (i : Int) + 1).toNat 0 = (pos3 : Int) := by rw [show (0 + (i : Int) + 1).toNat = i + 1 by omega]; exact he2
    have he1' : nen.getD (0 + (i : Int)).toNat 0 = (pos : Int) := by rw [show (0 + (i : Int)).toNat = i by omega]; exact he1
    k_steps
    · (first | (rename ¬ _ = _ => hne; exact absurd he2'.symm hne) | (rename _ ≠ _ => hne; exact absurd he2'.symm hne))
    · show wpAny _ _ _ _ _ _
      rename Fr _ _ _ _ => F5
      rename News _ _ _ _ => N5
      rename_i aC h5 aord
      have hC2 := N5 _ (List.mem_cons_self ..)
      have hpl : (pre t).length ≤ 300 := by rw [hpre, List.length_take, List.length_drop]; omega
      have hAl : AllLt aC (tl3 ++ T₀) := aord.2.2.2.2.2.2.2.2
      refine wpAny_call (count_ok X T (pre t).length (news := tl3) (pushX (env := env2 L fa cd) B F5 rfl rfl) (Nat.lt_of_le_of_lt (m := 700) (by show 302 + (pre t).length + 8 ≤ _; omega) (by decide)) (Nat.lt_of_le_of_lt (m := 2000) (by show 4 + 3 + 4 * (pre t).length + 60 ≤ _; omega) (by decide)) hC2.1 (fresh_of_stays B.stays hC2.2.2) ?_ .nil ?_ hin3 (Nat.le_refl _) (by simp; omega) ?_)
      · intro env he
        rw [List.mem_singleton.mp he]
        intro q; exact hC2.2.1 (Option.some.inj q).symm
      · intro p hp
        have hz := N5 p (by simp [hp])
        exact ⟨hz.1, allLt_ne hAl p (List.mem_append_left _ hp)⟩
      · intro h6 tk6 cs6 k6 hk6 hC6 hi6
        show wpAny _ _ _ _ _ _
        simp only [List.nil_append] at hi6
        have l6 : cs6.length ≤ 300 := by rw [hi6.length]; exact hpl
        have F6 := hk6.fr F5 (fun q => hC2.2.1 (List.mem_singleton.mp q).symm) (fun d hd => by rw [List.mem_singleton.mp hd]; exact hC2.2.2)
        have N6 := news_set N5 hk6 hC6 (by
          intro p hp y hy
          rw [List.mem_singleton.mp hy]
          simp only [List.mem_cons] at hp
          rcases hp with rfl | rfl | rfl | rfl | rfl | rfl | rfl | rfl | hp
          all_goals first | exact allLt_ne hAl p hp | k_ne)
        clear F5 N5 hk6
        k_steps
        · rename Fr _ _ _ _ => F7
          rename News _ _ _ _ => N7
          refine hP _ _ _ tp3 ?_ F7 ?_
          · intro z hz
            simp only [List.contains_cons, List.contains_nil, Bool.or_false, Bool.or_eq_false_iff, beq_eq_false_iff_ne] at hz
            have h1 : stB.contains z = false := by simp [hz]
            simp only [if_neg hz.1, if_neg hz.2, h1]
            rfl
          · intro p hp
            refine N7 p ?_
            simp only [List.mem_cons, List.mem_append] at hp ⊢
            rcases hp with h | h | h | h | h | h | h | h | h <;> simp [h]
        · rename ¬ _ = _ => hne
          refine absurd ?_ hne
          rw [he1', he2', hpre]
          congr 1
          omega
  · intro hnone
    rw [htree] at hnone; cases hnone
end
end Mine
namespace Mine
section
/-- what the plain law says of the ends: each opens a tree that ends at the next -/
structure Ends (os : List Int) (n : Nat) (E : List Nat) : Prop where
  pos : 0 < E.length
  zero : E.getD 0 0 = 0
  le : ∀ i, i < E.length → E.getD i 0 ≤ os.length
  mono : ∀ i, i + 1 < E.length → E.getD i 0 ≤ E.getD (i + 1) 0
  tree : ∀ i, i + 1 < E.length → ∃ t, treeF n (os.drop (E.getD i 0)) = some (t, os.drop (E.getD (i + 1) 0)) ∧ pre t = (os.drop (E.getD i 0)).take (E.getD (i + 1) 0 - E.getD i 0)
def JB (P : Params) (g : Sg2) (E : List Nat) (T : List (Addr × Obj)) (i : Nat) (nx : List (Addr × Obj)) : Prop := ∃ tp, nx = led2 P g (E.getD i 0 : Nat) tp ++ T
theorem getD_cast {E : List Nat} {i : Nat} : (E.map (fun n : Nat => (n : Int))).getD i 0 = ((E.getD i 0 : Nat) : Int) := by
  rw [List.getD_eq_getElem?_getD, List.getD_eq_getElem?_getD, List.getElem?_map]
  cases E[i]? <;> rfl
theorem loopB {w : World} {mg mb m0 u0 : Str → Option Value} {base : Heap} {mean : ExcName → Option Value} {s : Shared} {L fa lE lW lO n r : Nat} {g : Sg2} {cd : Value} {tw tp t1 t2 t3 : Tok} {en ov : List Value} {os : List Int} {E : List Nat} {k1 k3 : Nat} {T₀ : List (Addr × Obj)} {Q : Flow → Shared → Prop} {px : Pos}
    (X : (hd2.heap_39 w.params).In base) (T : Top topProg loose2 mean mg mb base) (B : Below callerA base [] base) (hCd : CodeHd base 48 44)
    (F : Fr base L s.heap (m3 g.x lE lW lO tw u0 m0)) (N : News base L s.heap (led2 w.params g 0 tp ++ ((lE, W.listOf en.toArray k1) :: (lO, W.listOf ov.toArray k3) :: T₀))) (hord : lO < lE ∧ lE < g.cO ∧ lE < g.cc) (hg : SgOk2 g) (hns : KBw.bInts g.octs = os) (hoff : OwnOff T₀ (lE :: lO :: adr2 g))
    (iE : IntsAre en (E.map (fun n : Nat => (n : Int)))) (iO : IntsAre ov os) (hlo : os.length ≤ 300) (hn : n ≤ 300) (hln : os.length ≤ n) (hle : E.length ≤ 400) (hEs : Ends os n E) (hr : IsRange s.heap r 0 ((E.length : Int) - 1) 1 t1 t2 t3)
    (hQ : ∀ (u : Str → Option Value) h' tk' tp', Fr base L h' (fun y => if stB.contains y then u y else m3 g.x lE lW lO tw u0 m0 y) → News base L h' (led2 w.params g (E.getD (E.length - 1) 0 : Nat) tp' ++ ((lE, W.listOf en.toArray k1) :: (lO, W.listOf ov.toArray k3) :: T₀)) → Q .next { s with heap := h', toks := tk' }) :
    wpAny (model PySem.Challenge.rw_dw0036_02.row.prog w) (callerA.deeper (env2 L fa cd)) (pyIter (.ref r)) (fun it s₂ => codeAny (model PySem.Challenge.rw_dw0036_02.row.prog w) (callerA.deeper (env2 L fa cd)) (.forLoop (.Name (Str.ofString "k") px) it bodyB [] (env2 L fa cd)) (fun r s' => match r with | .ok f => Q f s' | .error e => cameBackBy (model PySem.Challenge.rw_dw0036_02.row.prog w) (callerA.deeper (env2 L fa cd)) (env2 L fa cd) (fun _ _ => False) e s') s₂) (fun _ _ => False) s := by
  have hp := hEs.pos
  have hcast : (E.length : Int) - 1 = ((E.length - 1 : Nat) : Int) := by omega
  rw [hcast] at hr
  refine for_range (env := env2 L fa cd) (h₀ := base) (n := E.length - 1) PassesOwn.never rfl hr (small_one (by omega) (by omega) (by omega) (by omega)) (by rw [rangeSize_nat]; simp) F N stB (JB w.params g E ((lE, W.listOf en.toArray k1) :: (lO, W.listOf ov.toArray k3) :: T₀)) ⟨tp, by rw [hEs.zero]; rfl⟩ ?_ ?_
  · rintro i tv u nx h tk own hi hown ⟨tp1, rfl⟩ F₁ N₁
    obtain ⟨t, ht1, ht2⟩ := hEs.tree i (by omega)
    rw [List.map_append, led2_adr] at hown
    have hoff1 : OwnOff (T₀ ++ own) (lE :: lO :: adr2 g) := by
      refine off_app.mpr ⟨hoff, fun p hp b hb => hown p hp b ?_⟩
      simp only [List.mem_cons, List.mem_append, List.map_cons] at hb ⊢
      rcases hb with h | h | h <;> simp [h]
    simp only [List.append_assoc, List.cons_append] at N₁
    refine turnB (s := { s with heap := h, toks := tk }) (pos := E.getD i 0) (pos' := E.getD (i + 1) 0) X T B hCd F₁ N₁ hord hg hns hoff1 iE iO hlo hn (by rw [List.length_drop]; omega) (by rw [List.length_map]; exact hle) (by rw [List.length_map]; omega) getD_cast getD_cast (hEs.mono i (by omega)) (hEs.le (i + 1) (by omega)) ht1 ht2 ?_
    intro h' tk' m' tp' hsm F' N'
    refine InvEndG.intro (nx := led2 w.params g (E.getD (i + 1) 0 : Nat) tp' ++ ((lE, W.listOf en.toArray k1) :: (lO, W.listOf ov.toArray k3) :: T₀)) F' N' ⟨hsm, tp', rfl⟩ ?_ ?_ ?_
    · rw [List.map_append, led2_adr]; exact hown
    · intro p hp
      simp only [List.mem_cons, List.mem_append] at hp ⊢
      rcases hp with h | h | h | h
      · exact .inl h
      · exact .inr (.inl h)
      · exact .inr (.inr (.inl h))
      · exact .inr (.inr (.inr (.inl h)))
    · intro p hp
      simp [hp]
  · rintro u nx h tk ⟨tp1, rfl⟩ F₁ N₁
    exact hQ u h tk tp1 F₁ N₁
end
end Mine
namespace Mine
section
/-- the ledger of a stream, made out of the walk's own -/
theorem stream_led {P : Params} {base h : Heap} {L fn cc x d cF cO : Nat} {q : Str} {dc pm ctv : Value} {t1 t2 tq tb tp : Tok} {vs' : Array Value} {oc oF oO : Obj} {octs : Array UInt8} {T T' : List (Addr × Obj)}
    (N : News base L h ((fn, readFn2 q cO cF dc pm cc ctv) :: (x, instObj 38 d) :: (d, dictOf [⟨PyData.keyHash P (Str.ofString "value"), Value.str (Str.ofString "value") t1, Value.int 0 tp⟩, ⟨PyData.keyHash P (Str.ofString "read"), Value.str (Str.ofString "read") t2, Value.ref fn⟩] 2) :: (cF, oF) :: (cO, oO) :: T)) (hcc : (cc, oc) ∈ T) (hT : ∀ p ∈ T', p ∈ T) :
    News base L h (led2 P ⟨fn, cc, x, d, cF, cO, q, dc, pm, ctv, t1, t2, tq, tb, vs', oc, oF, oO, octs⟩ ((0 : Nat) : Int) tp ++ T') := by
  intro p hp
  refine N p ?_
  rcases List.mem_append.mp hp with hp | hp
  · simp only [led2, List.mem_cons, List.not_mem_nil, or_false] at hp
    rcases hp with h | h | h | h | h | h
    · rw [h]; simp
    · rw [h]; simp [hcc]
    · rw [h]; simp
    · rw [h]; simp
    · rw [h]; simp
    · rw [h]; simp
  · simp [hT p hp]
theorem refuse_call {w : World} {mg mb : Str → Option Value} {base : Heap} {mean : ExcName → Option Value} {s : Shared} {L fa n pos : Nat} {g : Sg2} {cd : Value} {tp : Tok} {os : List Int} {m : Str → Option Value} {T' : List (Addr × Obj)} {Q E : Value → Shared → Prop}
    (X : (hd2.heap_39 w.params).In base) (T : Top topProg loose2 mean mg mb base) (B : Below callerA base [] base) (hCd : CodeHd base 48 44)
    (F : Fr base L s.heap m) (N : News base L s.heap (led2 w.params g pos tp ++ T')) (hoff : OwnOff T' (adr2 g)) (hg : SgOk2 g) (hns : KBw.bInts g.octs = os) (hpos : pos ≤ os.length) (hlo : os.length ≤ 300) (hn : n ≤ 300) (hdr : (os.drop pos).length ≤ n) (hnone : treeF n (os.drop pos) = none)
    (h : ∀ h' tk' u tp', Fr base L h' m → News base L h' (led2 w.params g os.length tp' ++ T') → Q (.str words2 u) { s with heap := h', toks := tk' }) :
    wpAny (model PySem.Challenge.rw_dw0036_02.row.prog w) (callerA.deeper (env2 L fa cd)) (call (.ref 77) [.ref g.x]) Q E s := by
  have Nl : News base L s.heap (led2 w.params g pos tp) := fun q hq => N q (List.mem_append_left _ hq)
  obtain ⟨hL, h0⟩ := adr2_off Nl
  refine wpAny_call (refuse2 (n := n) X T hCd (pushX (env := env2 L fa cd) B F rfl rfl) (Nat.lt_of_le_of_lt (m := 700) (by show 302 + n + 12 ≤ _; omega) (by decide)) (Nat.lt_of_le_of_lt (m := 2000) (by show 4 + 3 + 4 * n + 80 ≤ _; omega) (by decide)) hg (at2_of B.stays rfl Nl (fun _ h => nomatch h)) hns hpos (by omega) hdr hnone ?_ ?_)
  · intro b hb
    obtain rfl : b = L := by
      obtain ⟨env, he, hf⟩ := List.mem_filterMap.mp hb
      rw [List.mem_singleton.mp he] at hf
      exact (Option.some.inj hf).symm
    obtain ⟨o, es, ep, e, hd, _⟩ := F.ns
    exact ⟨o, _, _, e, hd⟩
  · intro h' tk' u tp' hk hU hl
    have hfL : ∀ b, b ≠ L → b ∉ [env2 L fa cd].filterMap (·.frame) := fun b hb q => by
      obtain ⟨env, he, hf⟩ := List.mem_filterMap.mp q
      rw [List.mem_singleton.mp he] at hf
      exact hb (Option.some.inj hf).symm
    refine h h' tk' u tp' ⟨hU.ns (fr_hide F hL h0).ns, fun b o e => ?_, F.above⟩ fun q hq => ?_
    · refine hk b o (fun q => by rw [h0 b q] at e; cases e) (hfL b fun q => by rw [q, kts_self F] at e; cases e) (F.keep b o e)
    · rcases List.mem_append.mp hq with hq | hq
      · have hm : q.1 ∈ adr2 g := led2_adr w.params g os.length tp' ▸ List.mem_map_of_mem hq
        exact ⟨hl q hq, fun z => hL (z ▸ hm), h0 _ hm⟩
      · have hz := N q (List.mem_append_right _ hq)
        exact ⟨hk _ _ (fun z => hoff q hq _ z rfl) (hfL _ hz.2.1) hz.1, hz.2⟩
theorem tree_call {w : World} {mg mb : Str → Option Value} {base : Heap} {mean : ExcName → Option Value} {s : Shared} {L fa n pos pos' : Nat} {g : Sg2} {cd : Value} {tp : Tok} {os : List Int} {t : Tr} {m : Str → Option Value} {T' : List (Addr × Obj)} {Q E : Value → Shared → Prop}
    (X : (hd2.heap_39 w.params).In base) (T : Top topProg loose2 mean mg mb base) (B : Below callerA base [] base) (hCd : CodeHd base 48 44)
    (F : Fr base L s.heap m) (N : News base L s.heap (led2 w.params g pos tp ++ T')) (hoff : OwnOff T' (adr2 g)) (hg : SgOk2 g) (hns : KBw.bInts g.octs = os) (hpos : pos ≤ os.length) (hlo : os.length ≤ 300) (hn : n ≤ 300) (hdr : (os.drop pos).length ≤ n) (htree : treeF n (os.drop pos) = some (t, os.drop pos')) (hpos' : pos' ≤ os.length)
    (h : ∀ h' tk' l tl tp', Fr base L h' m → News base L h' (led2 w.params g pos' tp' ++ (T' ++ tl)) → OwnOff tl (T'.map (·.1) ++ adr2 g) → TreeIn tl (.ref l) t → Q (.ref l) { s with heap := h', toks := tk' }) :
    wpAny (model PySem.Challenge.rw_dw0036_02.row.prog w) (callerA.deeper (env2 L fa cd)) (call (.ref 63) [.ref g.x]) Q E s := by
  have Nl : News base L s.heap (led2 w.params g pos tp) := fun q hq => N q (List.mem_append_left _ hq)
  refine wpAny_call (tree_ok X T hCd n (pushX (env := env2 L fa cd) B F rfl rfl) (Nat.lt_of_le_of_lt (m := 700) (by show 302 + n + 8 ≤ _; omega) (by decide)) (Nat.lt_of_le_of_lt (m := 2000) (by show 4 + 3 + 4 * n + 60 ≤ _; omega) (by decide)) hg (at2_of B.stays rfl Nl (fun _ h => nomatch h)) hns hpos (by omega) hdr ?_ ?_)
  · intro h3 tk3 l t3 tl3 pos3 tp3 htree3 hlt3 hle3 hk3 hl3 htl3 hin3
    rw [htree] at htree3
    obtain ⟨e1, e2⟩ := Prod.mk.inj (Option.some.inj htree3)
    have e3 : pos3 = pos' := by
      have := congrArg List.length e2
      rw [List.length_drop, List.length_drop] at this
      omega
    subst e1 e3
    obtain ⟨F3, N3⟩ := led2_after F Nl hk3 hl3
    have hdm : g.d ∈ adr2 g := by simp [adr2]
    have hLs : ∃ o, s.heap.get? L = some o := by obtain ⟨o, _, _, e, _⟩ := F.ns; exact ⟨o, e⟩
    have fresh3 : ∀ q ∈ tl3, q.1 ≠ L ∧ base.get? q.1 = none ∧ ∀ p ∈ led2 w.params g pos tp ++ T', q.1 ≠ p.1 := fun q hq => by
      have h0 := (htl3 q hq).2
      refine ⟨fun e => ?_, ?_, fun p hp e => ?_⟩
      · obtain ⟨o, ho⟩ := hLs; rw [e, ho] at h0; cases h0
      · cases e2 : base.get? q.1 with
        | none => rfl
        | some o => rw [F.keep _ _ e2] at h0; cases h0
      · have h1 := (N p hp).1
        rw [← e, h0] at h1; cases h1
    refine h h3 tk3 l tl3 tp3 F3 (fun q hq => ?_) (fun q hq b hb e => ?_) hin3
    · rcases List.mem_append.mp hq with hq | hq
      · exact N3 q hq
      · rcases List.mem_append.mp hq with hq | hq
        · have hz := N q (List.mem_append_right _ hq)
          exact ⟨hk3 _ _ (fun z => hoff q hq _ hdm (List.mem_singleton.mp z)) hz.1, hz.2⟩
        · exact ⟨(htl3 q hq).1, (fresh3 q hq).1, (fresh3 q hq).2.1⟩
    · have h2 := (fresh3 q hq).2.2
      rcases List.mem_append.mp hb with hb | hb
      · obtain ⟨p, hp, rfl⟩ := List.mem_map.mp hb
        exact h2 p (List.mem_append_right _ hp) e
      · rw [← led2_adr w.params g pos tp] at hb
        obtain ⟨p, hp, rfl⟩ := List.mem_map.mp hb
        exact h2 p (List.mem_append_left _ hp) e
  · intro hnone
    rw [htree] at hnone; cases hnone
/-- the call of _law_counts with a new list -/
theorem count_call {w : World} {mg mb : Str → Option Value} {base : Heap} {mean : ExcName → Option Value} {s : Shared} {L fa aC : Nat} {cd v : Value} {t : Tr} {m : Str → Option Value} {tl T' : List (Addr × Obj)} {Q E : Value → Shared → Prop}
    (X : (hd2.heap_39 w.params).In base) (T : Top topProg loose2 mean mg mb base) (B : Below callerA base [] base)
    (F : Fr base L s.heap m) (N : News base L s.heap ((aC, W.listOf #[] 0) :: T')) (hsub : ∀ p ∈ tl, p ∈ T') (hoff : ∀ p ∈ T', p.1 ≠ aC) (hin : TreeIn tl v t) (hpl : (pre t).length ≤ 300)
    (h : ∀ h' tk' cs k, Fr base L h' m → News base L h' ((aC, W.listOf (List.toArray cs) k) :: T') → IntsAre cs (pre t) → Q (.ref aC) { s with heap := h', toks := tk' }) :
    wpAny (model PySem.Challenge.rw_dw0036_02.row.prog w) (callerA.deeper (env2 L fa cd)) (call (.ref 70) [v, .ref aC]) Q E s := by
  have hC2 := N _ (List.mem_cons_self ..)
  refine wpAny_call (count_ok X T (pre t).length (news := tl) (cs := []) (ns := []) (pushX (env := env2 L fa cd) B F rfl rfl) (Nat.lt_of_le_of_lt (m := 700) (by show 302 + (pre t).length + 8 ≤ _; omega) (by decide)) (Nat.lt_of_le_of_lt (m := 2000) (by show 4 + 3 + 4 * (pre t).length + 60 ≤ _; omega) (by decide)) hC2.1 (fresh_of_stays B.stays hC2.2.2) ?_ .nil ?_ hin (Nat.le_refl _) (by simp; omega) ?_)
  · intro env he
    rw [List.mem_singleton.mp he]
    intro q; exact hC2.2.1 (Option.some.inj q).symm
  · intro p hp
    exact ⟨(N p (List.mem_cons_of_mem _ (hsub p hp))).1, hoff p (hsub p hp)⟩
  · intro h6 tk6 cs6 k6 hk6 hC6 hi6
    rw [List.nil_append] at hi6
    exact h h6 tk6 cs6 k6 (hk6.fr F (fun q => hC2.2.1 (List.mem_singleton.mp q).symm) (fun d hd => by rw [List.mem_singleton.mp hd]; exact hC2.2.2))
      (news_set N hk6 hC6 (fun p hp y hy => by rw [List.mem_singleton.mp hy]; exact hoff p hp)) hi6
end
end Mine
namespace Mine
section
/-- what the plain law says of what is left -/
def Left (os nwk : List Int) (pos : Nat) : Prop := ∀ M, M ∈ nwk → (∀ a, a ∈ nwk → M ≤ a) → nwk.getLastD 0 - M + 1 ≤ 150 → 1 ≤ nwk.getLastD 0 - M + 1 ∧ treeF 300 ((os.drop pos ++ List.replicate (nwk.getLastD 0 - M + 1).toNat 0).dropLast) = none ∧
  ∃ t, treeF 300 (os.drop pos ++ List.replicate (nwk.getLastD 0 - M + 1).toNat 0) = some (t, []) ∧ pre t = os.drop pos ++ List.replicate (nwk.getLastD 0 - M + 1).toNat 0
/-- k trees as a count of what is still wanted: what is taken, what is left -/
def need : Nat → List Int → Option (List Int × List Int)
  | 0, r => some ([], r)
  | _ + 1, [] => none
  | k + 1, c :: r => match need (k + c.toNat) r with
    | none => none
    | some (a, b) => some (c :: a, b)
theorem need_len : ∀ {r : List Int} {k : Nat} {a b : List Int}, need k r = some (a, b) → r = a ++ b
  | r, 0, a, b, h => by simp only [need, Option.some.injEq, Prod.mk.injEq] at h; rw [← h.1, ← h.2]; rfl
  | [], k + 1, a, b, h => by simp [need] at h
  | c :: r, k + 1, a, b, h => by
    simp only [need] at h
    cases e : need (k + c.toNat) r with
    | none => rw [e] at h; simp at h
    | some x =>
      rw [e] at h
      simp only [Option.some.injEq, Prod.mk.injEq] at h
      rw [← h.1, ← h.2, List.cons_append, ← need_len e]
theorem need_add : ∀ (r : List Int) (k l : Nat), need (k + l) r = (match need k r with
    | none => none
    | some (a, b) => match need l b with
      | none => none
      | some (a', b') => some (a ++ a', b'))
  | r, 0, l => by
    simp only [need, Nat.zero_add, List.nil_append]
    cases need l r <;> rfl
  | [], k + 1, l => by
    rw [show k + 1 + l = (k + l) + 1 by omega]
    simp only [need]
  | c :: r, k + 1, l => by
    rw [show k + 1 + l = (k + l) + 1 by omega]
    simp only [need]
    rw [show k + l + c.toNat = (k + c.toNat) + l by omega, need_add r (k + c.toNat) l]
    cases need (k + c.toNat) r with
    | none => rfl
    | some x =>
      obtain ⟨a, b⟩ := x
      simp only
      cases need l b with
      | none => rfl
      | some y => rfl
def TreeIs (n : Nat) : Prop := ∀ r : List Int, r.length ≤ n → (∀ x ∈ r, 0 ≤ x) → match need 1 r with
  | none => treeF n r = none
  | some (a, b) => ∃ t, treeF n r = some (t, b) ∧ pre t = a
theorem forest_is {n : Nat} (H : TreeIs n) : ∀ (k : Nat) (r : List Int), r.length ≤ n → (∀ x ∈ r, 0 ≤ x) → match need k r with
    | none => forestBy (treeF n) k r = none
    | some (a, b) => ∃ ts, forestBy (treeF n) k r = some (ts, b) ∧ preL ts = a ∧ ts.length = k
  | 0, r, _, _ => by
    simp only [need]
    exact ⟨[], rfl, by rw [preL], rfl⟩
  | k + 1, r, hl, hp => by
    rw [show k + 1 = 1 + k by omega, need_add, show 1 + k = k + 1 by omega]
    have h1 := H r hl hp
    cases e : need 1 r with
    | none => rw [e] at h1; simp only at h1 ⊢; simp only [forestBy, h1]
    | some x =>
      obtain ⟨a, b⟩ := x
      rw [e] at h1
      obtain ⟨t, ht, ha⟩ := h1
      have er := need_len e
      have hb : b.length ≤ n := by rw [er, List.length_append] at hl; omega
      have h2 := forest_is H k b hb (fun x hx => hp x (by rw [er]; exact List.mem_append_right _ hx))
      simp only
      cases e2 : need k b with
      | none => rw [e2] at h2; simp only at h2 ⊢; simp only [forestBy, ht, h2]
      | some y =>
        obtain ⟨a', b'⟩ := y
        rw [e2] at h2
        obtain ⟨ts, hts, hpa, hlen⟩ := h2
        refine ⟨t :: ts, by simp only [forestBy, ht, hts], by rw [preL, ha, hpa], by rw [List.length_cons, hlen]⟩
theorem tree_is : ∀ n, TreeIs n
  | 0 => fun r hl hp => by
    obtain rfl : r = [] := List.length_eq_zero_iff.mp (by omega)
    simp only [need, treeF]
  | n + 1 => fun r hl hp => by
    cases r with
    | nil => simp only [need, treeF]
    | cons c r =>
      have h := forest_is (tree_is n) c.toNat r (by simp only [List.length_cons] at hl; omega) (fun x hx => hp x (List.mem_cons_of_mem _ hx))
      have hc := hp c (List.mem_cons_self ..)
      simp only [need, Nat.zero_add]
      cases e : need c.toNat r with
      | none => rw [e] at h; simp only at h ⊢; simp only [treeF, h]
      | some x =>
        obtain ⟨a, b⟩ := x
        rw [e] at h
        obtain ⟨ts, h1, h2, h3⟩ := h
        refine ⟨.node ts, by simp only [treeF, h1], ?_⟩
        rw [pre, h2, h3]
        congr 1
        omega
theorem ws_zero (r : List Int) : ws r 0 = 0 := rfl
theorem ws_cons (c : Int) (r : List Int) (j : Nat) : ws (c :: r) (j + 1) = c - 1 + ws r j := by
  unfold ws
  rw [List.take_succ_cons, List.map_cons, List.sum_cons]
/-- the first place where the walk has gone down by k -/
theorem need_at : ∀ (r : List Int) (k j : Nat), (∀ x ∈ r, 0 ≤ x) → j ≤ r.length → ws r j = -(k : Int) → (∀ i, i < j → -(k : Int) < ws r i) → need k r = some (r.take j, r.drop j)
  | r, 0, j, _, _, _, h2 => by
    cases j with
    | zero => simp only [need, List.take_zero, List.drop_zero]
    | succ j => have := h2 0 (by omega); rw [ws_zero] at this; omega
  | [], k + 1, j, _, hj, h1, _ => by
    obtain rfl : j = 0 := by simpa using hj
    rw [ws_zero] at h1; omega
  | c :: r, k + 1, 0, _, _, h1, _ => by rw [ws_zero] at h1; omega
  | c :: r, k + 1, j + 1, hp, hj, h1, h2 => by
    have hc := hp c (List.mem_cons_self ..)
    rw [ws_cons] at h1
    have := need_at r (k + c.toNat) j (fun x hx => hp x (List.mem_cons_of_mem _ hx)) (by simpa using hj) (by omega) (fun i hi => by
      have := h2 (i + 1) (by omega)
      rw [ws_cons] at this
      omega)
    simp only [need, this, List.take_succ_cons, List.drop_succ_cons]
/-- where the walk never goes down by k, all is taken and more is wanted -/
theorem need_over (q : List Int) : ∀ (r : List Int) (k : Nat), (∀ x ∈ r, 0 ≤ x) → (∀ j, j ≤ r.length → -(k : Int) < ws r j) → need k (r ++ q) = (match need ((k : Int) + ws r r.length).toNat q with | none => none | some (a, b) => some (r ++ a, b))
  | [], k, _, h => by
    rw [List.length_nil, ws_zero, List.nil_append, Int.add_zero, Int.toNat_natCast]
    cases need k q <;> rfl
  | c :: r, 0, _, h => by have := h 0 (by omega); rw [ws_zero] at this; omega
  | c :: r, k + 1, hp, h => by
    have hc := hp c (List.mem_cons_self ..)
    have := need_over q r (k + c.toNat) (fun x hx => hp x (List.mem_cons_of_mem _ hx)) (fun j hj => by
      have := h (j + 1) (by simpa using hj)
      rw [ws_cons] at this
      omega)
    rw [List.cons_append]
    simp only [need]
    rw [this, List.length_cons, ws_cons, show ((k + 1 : Nat) : Int) + (c - 1 + ws r r.length) = ((k + c.toNat : Nat) : Int) + ws r r.length by omega]
    cases need (((k + c.toNat : Nat) : Int) + ws r r.length).toNat q with
    | none => rfl
    | some x => rfl
theorem need_zeros : ∀ m : Nat, need m (List.replicate m 0) = some (List.replicate m 0, [])
  | 0 => rfl
  | m + 1 => by
    rw [List.replicate_succ]
    simp only [need]
    rw [show m + (0 : Int).toNat = m from rfl, need_zeros m]
theorem need_few : ∀ m : Nat, need (m + 1) (List.replicate m 0) = none
  | 0 => rfl
  | m + 1 => by
    rw [List.replicate_succ]
    simp only [need]
    rw [show m + 1 + (0 : Int).toNat = m + 1 from rfl, need_few m]
theorem ws_drop (os : List Int) (p j : Nat) : ws (os.drop p) j = ws os (p + j) - ws os p := by
  unfold ws
  have : os.take (p + j) = os.take p ++ (os.drop p).take j := by
    rw [List.take_add]
  rw [this, List.map_append, List.sum_append]
  omega
theorem low_iff {os : List Int} {j : Nat} : lowB os j = true ↔ ∀ l, l < j → ws os j < ws os l := by
  unfold lowB
  rw [decide_eq_true_eq]
/-- between a low place and the next the walk stays up -/
theorem stays {os : List Int} {e b : Nat} (he : lowB os e = true) (hb : ∀ j, e < j → j < b → lowB os j = false) : ∀ j, e ≤ j → j < b → ws os e ≤ ws os j := by
  intro j
  induction j using Nat.strongRecOn with
  | _ j ih =>
    intro h1 h2
    by_cases hej : e = j
    · subst hej; exact Int.le_refl _
    · apply Classical.byContradiction
      intro hlt
      have hl : lowB os j = true := by
        rw [low_iff]
        intro l hl
        by_cases hle : e ≤ l
        · have := ih l hl hle (by omega)
          omega
        · have := (low_iff.mp he) l (by omega)
          omega
      rw [hb j (by omega) h2] at hl
      cases hl
theorem mem_ends {os : List Int} {i j : Nat} : j ∈ endsTo os i ↔ j ≤ i ∧ lowB os j = true := by
  unfold endsTo
  rw [List.mem_filter, List.mem_range]
  exact ⟨fun h => ⟨by omega, h.2⟩, fun h => ⟨by omega, h.2⟩⟩
theorem ends_sorted (os : List Int) (i : Nat) : (endsTo os i).Pairwise (· < ·) := List.Pairwise.filter _ List.pairwise_lt_range
theorem getD_lt {E : List Nat} {i : Nat} (h : i < E.length) : E.getD i 0 = E[i] := by
  rw [List.getD_eq_getElem?_getD, List.getElem?_eq_getElem h]; rfl
theorem sorted_lt {E : List Nat} (h : E.Pairwise (· < ·)) {i j : Nat} (hij : i < j) (hj : j < E.length) : E.getD i 0 < E.getD j 0 := by
  rw [getD_lt (by omega), getD_lt hj]
  exact List.pairwise_iff_getElem.mp h i j (by omega) hj hij
theorem sorted_gap {E : List Nat} (h : E.Pairwise (· < ·)) {i x : Nat} (hx : x ∈ E) (hi : i + 1 < E.length) (h1 : E.getD i 0 < x) (h2 : x < E.getD (i + 1) 0) : False := by
  obtain ⟨l, hl, rfl⟩ := List.getElem_of_mem hx
  rw [← getD_lt hl] at h1 h2
  by_cases q1 : l ≤ i
  · rcases Nat.lt_or_ge l i with q | q
    · have := sorted_lt h q (by omega); omega
    · obtain rfl : l = i := by omega
      omega
  · rcases Nat.lt_or_ge (i + 1) l with q | q
    · have := sorted_lt h q hl; omega
    · obtain rfl : l = i + 1 := by omega
      omega
theorem sorted_last {E : List Nat} (h : E.Pairwise (· < ·)) {x : Nat} (hx : x ∈ E) : x ≤ E.getD (E.length - 1) 0 := by
  obtain ⟨l, hl, rfl⟩ := List.getElem_of_mem hx
  rw [← getD_lt hl]
  rcases Nat.lt_or_ge l (E.length - 1) with q | q
  · exact Nat.le_of_lt (sorted_lt h q (by omega))
  · obtain rfl : l = E.length - 1 := by omega
    exact Nat.le_refl _
theorem zero_mem (os : List Int) (i : Nat) : 0 ∈ endsTo os i := mem_ends.mpr ⟨Nat.zero_le _, low_iff.mpr fun _ hl => absurd hl (Nat.not_lt_zero _)⟩
theorem getD_mem {E : List Nat} {i : Nat} (h : i < E.length) : E.getD i 0 ∈ E := by rw [getD_lt h]; exact List.getElem_mem h
theorem ends_ok {os : List Int} {n : Nat} (hp : ∀ x ∈ os, 0 ≤ x) (hn : os.length ≤ n) : Ends os n (endsTo os os.length) := by
  have hs := ends_sorted os os.length
  have h0 := zero_mem os os.length
  have hpos : 0 < (endsTo os os.length).length := List.length_pos_of_mem h0
  refine ⟨hpos, ?_, fun i hi => (mem_ends.mp (getD_mem hi)).1, fun i hi => Nat.le_of_lt (sorted_lt hs (Nat.lt_succ_self i) hi), fun i hi => ?_⟩
  · obtain ⟨l, hl, e⟩ := List.getElem_of_mem h0
    rw [← getD_lt hl] at e
    rcases Nat.eq_zero_or_pos l with rfl | q
    · exact e
    · have := sorted_lt hs q hl; omega
  · obtain ⟨p1, q1⟩ := mem_ends.mp (getD_mem (i := i) (E := endsTo os os.length) (by omega))
    obtain ⟨p2, q2⟩ := mem_ends.mp (getD_mem hi)
    have hlt := sorted_lt hs (Nat.lt_succ_self i) hi
    have hgap : ∀ x, (endsTo os os.length).getD i 0 < x → x < (endsTo os os.length).getD (i + 1) 0 → lowB os x = false := fun x h1 h2 => by
      cases hx : lowB os x with
      | false => rfl
      | true => exact (sorted_gap hs (mem_ends.mpr ⟨by omega, hx⟩) hi h1 h2).elim
    generalize (endsTo os os.length).getD i 0 = e at *
    generalize (endsTo os os.length).getD (i + 1) 0 = f at *
    have hst := stays q1 hgap
    have hf : ws os f = ws os e - 1 := by
      have a1 := (low_iff.mp q2) e hlt
      have a2 := hst (f - 1) (by omega) (by omega)
      have a3 := ws_succ (os := os) (i := f - 1) (by omega)
      rw [show f - 1 + 1 = f by omega] at a3
      have a4 : 0 ≤ os.getD (f - 1) 0 := by
        rw [List.getD_eq_getElem?_getD, List.getElem?_eq_getElem (by omega)]
        exact hp _ (List.getElem_mem _)
      omega
    have hnd := need_at (os.drop e) 1 (f - e) (fun x hx => hp x (List.mem_of_mem_drop hx)) (by rw [List.length_drop]; omega) (by rw [ws_drop, show e + (f - e) = f by omega]; omega) (fun l hl => by
      rw [ws_drop]
      have := hst (e + l) (by omega) (by omega)
      omega)
    have := tree_is n (os.drop e) (by rw [List.length_drop]; omega) (fun x hx => hp x (List.mem_of_mem_drop hx))
    rw [hnd] at this
    obtain ⟨t, ht, ha⟩ := this
    refine ⟨t, ?_, ha⟩
    rw [ht, List.drop_drop, show e + (f - e) = f by omega]
theorem last_low {os : List Int} {p : Nat} (hp : p = (endsTo os os.length).getD ((endsTo os os.length).length - 1) 0) : p ≤ os.length ∧ lowB os p = true ∧ ∀ j, p ≤ j → j ≤ os.length → ws os p ≤ ws os j := by
  have hs := ends_sorted os os.length
  have h0 := zero_mem os os.length
  have hpos : 0 < (endsTo os os.length).length := List.length_pos_of_mem h0
  obtain ⟨p1, q1⟩ := mem_ends.mp (getD_mem (E := endsTo os os.length) (i := (endsTo os os.length).length - 1) (by omega))
  rw [← hp] at p1 q1
  refine ⟨p1, q1, fun j h1 h2 => stays (b := os.length + 1) q1 (fun x a b => ?_) j h1 (by omega)⟩
  cases hx : lowB os x with
  | false => rfl
  | true =>
    have := sorted_last hs (mem_ends.mpr ⟨by omega, hx⟩)
    omega
theorem none_ok {os : List Int} {n p : Nat} (hq : ∀ x ∈ os, 0 ≤ x) (hn : os.length ≤ n) (hp : p = (endsTo os os.length).getD ((endsTo os os.length).length - 1) 0) : treeF n (os.drop p) = none := by
  obtain ⟨p1, q1, h⟩ := last_low hp
  have hnd := need_over [] (os.drop p) 1 (fun x hx => hq x (List.mem_of_mem_drop hx)) (fun j hj => by
    rw [List.length_drop] at hj
    rw [ws_drop]
    have := h (p + j) (by omega) (by omega)
    omega)
  have hw : ws (os.drop p) (os.drop p).length = ws os os.length - ws os p := by rw [ws_drop, List.length_drop, show p + (os.length - p) = os.length by omega]
  have hge := h os.length p1 (Nat.le_refl _)
  rw [List.append_nil, hw] at hnd
  obtain ⟨m, hm⟩ : ∃ m, (((1 : Nat) : Int) + (ws os os.length - ws os p)).toNat = m + 1 := ⟨(ws os os.length - ws os p).toNat, by omega⟩
  rw [hm] at hnd
  simp only [need] at hnd
  have := tree_is n (os.drop p) (by rw [List.length_drop]; omega) (fun x hx => hq x (List.mem_of_mem_drop hx))
  rw [hnd] at this
  exact this
theorem left_ok {os : List Int} {p : Nat} (hq : ∀ x ∈ os, 0 ≤ x) (hn : os.length ≤ 100) (hp : p = (endsTo os os.length).getD ((endsTo os os.length).length - 1) 0) : Left os ((List.range (os.length + 1)).map (ws os)) p := by
  obtain ⟨p1, q1, h⟩ := last_low hp
  intro M hM hmin h150
  have elast : ((List.range (os.length + 1)).map (ws os)).getLastD 0 = ws os os.length := by rw [List.range_succ, List.map_append]; simp
  rw [elast] at h150 ⊢
  have eM : M = ws os p := by
    have a1 : M ≤ ws os p := hmin _ (List.mem_map.mpr ⟨p, List.mem_range.mpr (by omega), rfl⟩)
    obtain ⟨j, hj, rfl⟩ := List.mem_map.mp hM
    rw [List.mem_range] at hj
    rcases Nat.lt_or_ge j p with q | q
    · have := (low_iff.mp q1) j q; omega
    · have := h j q (by omega); omega
  subst eM
  have hge := h os.length p1 (Nat.le_refl _)
  obtain ⟨m, hm⟩ : ∃ m : Nat, (ws os os.length - ws os p + 1).toNat = m + 1 := ⟨(ws os os.length - ws os p).toNat, by omega⟩
  have hpd : ∀ x ∈ os.drop p, 0 ≤ x := fun x hx => hq x (List.mem_of_mem_drop hx)
  have hov : ∀ q, _ := fun q => need_over q (os.drop p) 1 hpd (fun j hj => by
    rw [List.length_drop] at hj
    rw [ws_drop]
    have := h (p + j) (by omega) (by omega)
    omega)
  have hw : ws (os.drop p) (os.drop p).length = ws os os.length - ws os p := by rw [ws_drop, List.length_drop, show p + (os.length - p) = os.length by omega]
  rw [hw, show (((1 : Nat) : Int) + (ws os os.length - ws os p)).toNat = m + 1 by omega] at hov
  have hpz : ∀ k, ∀ x ∈ os.drop p ++ List.replicate k 0, 0 ≤ x := fun k x hx => by
    rcases List.mem_append.mp hx with hx | hx
    · exact hpd x hx
    · rw [(List.mem_replicate.mp hx).2]; exact Int.le_refl 0
  have hln : ∀ k, k ≤ 150 → (os.drop p ++ List.replicate k (0 : Int)).length ≤ 300 := fun k hk => by
    rw [List.length_append, List.length_drop, List.length_replicate]; omega
  rw [hm]
  refine ⟨by omega, ?_, ?_⟩
  · rw [List.replicate_succ', ← List.append_assoc, List.dropLast_concat]
    have h1 := hov (List.replicate m 0)
    rw [need_few m] at h1
    have := tree_is 300 (os.drop p ++ List.replicate m 0) (hln m (by omega)) (hpz m)
    rw [h1] at this
    exact this
  · have h1 := hov (List.replicate (m + 1) 0)
    rw [need_zeros (m + 1)] at h1
    have := tree_is 300 (os.drop p ++ List.replicate (m + 1) 0) (hln (m + 1) (by omega)) (hpz (m + 1))
    rw [h1] at this
    exact this
end
end Mine
namespace Mine
section
def restC : List Stmt := lawBody2.drop 10
def restD : List Stmt := lawBody2.drop 12
def qRead : Str := Str.ofString "_law_stream.<locals>._law_read"
theorem cut_last {prog : Program} {w : World} {A : Around} {E : Value → Shared → Prop} {s : Shared} {h₀ : Heap} {L l : Addr} {m : Str → Option Value} {news : List (Addr × Obj)} {value slice : PySem.Expr} {vs : List Value} {ns : List Int} {t : Tok} {Q : Value → Shared → Prop}
    (F : Fr h₀ L s.heap m) (N : News h₀ L s.heap news) (hl : s.heap.IsList l vs.toArray) (hi : IntsAre vs ns) (hz : vs.length ≤ 1000)
    (h : ∀ D ws h', Fr h₀ L h' m → News h₀ L h' ((D, W.listOf (List.toArray ws) 0) :: news) → (∀ p ∈ news, p.1 < D) → IntsAre ws ns.dropLast → Q (.ref D) { s with heap := h' })
    (hs : subscripted slice false (.ref l) (.ref s.heap.objs.size) = operate [.ref s.heap.objs.size, .ref l] (getItem (.ref l) (.ref s.heap.objs.size))) (ht : ∀ r, letTemporaryGo value (.ref l) r = pure ()) :
    wpAny (model prog w) A (subscriptTail value slice (.ref l) (.ref s.heap.objs.size)) Q E { s with heap := s.heap.push { cls := .type "slice", data := .fields #[.none, .int (-1) t, .none] } } := by
  have e : ns.dropLast = ns.take (ns.length - (-(-1 : Int)).toNat) := by rw [List.dropLast_eq_take]; rfl
  refine kmk_slice_ints (ms := ns.dropLast) F N hl IsPart.none (IsPart.int _ _) hi (e ▸ kmk_upto_neg hi (by decide)) rfl (fun D ws h' F' N' l1 hI' _ _ => h D ws h' F' N' l1 hI') hs ht ?_
  rw [List.size_toArray, sizeLine_eq]; omega
theorem cut_from {prog : Program} {w : World} {A : Around} {E : Value → Shared → Prop} {s : Shared} {h₀ : Heap} {L l : Addr} {m : Str → Option Value} {news : List (Addr × Obj)} {value slice : PySem.Expr} {vs : List Value} {ns : List Int} {pos : Nat} {t : Tok} {Q : Value → Shared → Prop}
    (F : Fr h₀ L s.heap m) (N : News h₀ L s.heap news) (hl : s.heap.IsList l vs.toArray) (hi : IntsAre vs ns) (hz : vs.length ≤ 1000)
    (h : ∀ D ws h', Fr h₀ L h' m → News h₀ L h' ((D, W.listOf (List.toArray ws) 0) :: news) → (∀ p ∈ news, p.1 < D) → IntsAre ws (ns.drop pos) → Q (.ref D) { s with heap := h' })
    (hs : subscripted slice false (.ref l) (.ref s.heap.objs.size) = operate [.ref s.heap.objs.size, .ref l] (getItem (.ref l) (.ref s.heap.objs.size))) (ht : ∀ r, letTemporaryGo value (.ref l) r = pure ()) :
    wpAny (model prog w) A (subscriptTail value slice (.ref l) (.ref s.heap.objs.size)) Q E { s with heap := s.heap.push { cls := .type "slice", data := .fields #[.int (pos : Int) t, .none, .none] } } := by
  have e : ns.drop pos = ns.drop (pos : Int).toNat := by rw [Int.toNat_natCast]
  refine kmk_slice_ints (ms := ns.drop pos) F N hl (IsPart.int _ _) IsPart.none hi (e ▸ kmk_from hi (Int.natCast_nonneg _)) rfl (fun D ws h' F' N' l1 hI' _ _ => h D ws h' F' N' l1 hI') hs ht ?_
  rw [List.size_toArray, sizeLine_eq]; omega
theorem in_dropLast {ns : List Int} (h : KBa.In ns) : KBa.In ns.dropLast := fun n hn => h n (List.dropLast_subset _ hn)
local macro_rules | `(tactic| walk_at "subscriptTail Name Slice ref ref") => `(tactic| (k_here; (with_reducible show wpAny _ _ (subscriptTail _ (PySem.Expr.Slice _ _ none _) (Value.ref _) (Value.ref _)) _ _ _); k_dflt (refine' cut_last ?F ?N ?l ?i ?z ?_ ?s ?t; (case F => k_asm); (case N => k_asm); (case l => kmk_list); (case i => assumption); (case z => omega); (case s => with_unfolding_all rfl); (case t => kmk_pure)); intro D' ws' h' F' N' l1 hI'; (try k_lt l1); (try k_sweep)))
local macro_rules | `(tactic| walk_at "call ref") => `(tactic| ((with_reducible show wpAny _ _ (call (Value.ref 63) _) _ _ _); refine Stop.mk ?_))
local macro_rules | `(tactic| walk_at "call ref") => `(tactic| ((with_reducible show wpAny _ _ (call (Value.ref 70) _) _ _ _); refine Stop.mk ?_))
local macro_rules | `(tactic| walk_at "call ref") => `(tactic| ((with_reducible show wpAny _ _ (call (Value.ref 77) _) _ _ _); refine Stop.mk ?_))
theorem afterD {w : World} {mg mb m0 : Str → Option Value} {base : Heap} {mean : ExcName → Option Value} {s : Shared} {L fa lR cc : Nat} {cd : Value} {tw tq : Tok} {vs' : Array Value} {oc : Obj} {rv : List Value} {rs : List Int} {t : Tr} {Q : Flow → Shared → Prop} :
    (hd2.heap_39 w.params).In base → Top topProg loose2 mean mg mb base → Below callerA base [] base → CodeHd base 48 44 →
    Fr base L s.heap (fun y => if y = Str.ofString "words" then some (Value.str words2 tw) else m0 y) → News base L s.heap [(lR, W.listOf rv.toArray 0), (cc, oc), (44, tabObj (#[] ++ #[rawInt ((15 : Nat) : Int), rawInt ((4 : Nat) : Int), Value.ref cc]))] →
    (44 < cc ∧ cc < lR) → oc.data = .fields vs' → vs'[1]? = some (.str qRead tq) → KBa.In rs → KBa.In rs.dropLast → IntsAre rv rs → rs.length ≤ 213 → rs.dropLast.length ≤ 213 → rs ≠ [] →
    treeF 300 rs.dropLast = none → treeF 300 rs = some (t, []) → pre t = rs →
    (∀ h' tk' m' tab', Fr base L h' m' → News base L h' [(44, tabObj tab')] → Q (.ret (.bool true)) { s with heap := h', toks := tk' }) →
    wpAny (model PySem.Challenge.rw_dw0036_02.row.prog w) (callerA.deeper (env2 L fa cd)) (storeName (env2 L fa cd) (Str.ofString "rest") (.ref lR)) (fun _ s' => wpAny (model PySem.Challenge.rw_dw0036_02.row.prog w) (callerA.deeper (env2 L fa cd)) (execs restD (env2 L fa cd)) Q (fun _ _ => False) s') (fun _ _ => False) s := by
  w_top off
  k_fill
  intro X T B hCd F N hord dc1 dc2 hoc hoc2 iR hlr hlr2 hne hnone htree hpre hQ
  have l1 : rv.length ≤ 213 := by rw [iR.length]; omega
  k_steps
  show wpAny _ _ _ _ _ _
  rename Fr base L _ _ => F1
  rename News base L _ _ => N1
  rename IntsAre _ (List.dropLast rs) => iD
  rename Obj.data _ = _ => dF
  revert dF
  rename Obj.data _ = _ => dO
  intro dF
  obtain ⟨tb, htb⟩ : ∃ tb, Obj.data _ = .cell (some (.bytes (byteArr rs.dropLast) tb)) := ⟨_, dO⟩
  have N2 := stream_led (T' := [(lR, W.listOf rv.toArray 0), (44, tabObj (#[] ++ #[rawInt ((15 : Nat) : Int), rawInt ((4 : Nat) : Int), Value.ref cc]))]) (oc := oc) (tq := tq) (vs' := vs') (octs := byteArr rs.dropLast) (tb := tb) N1 (by simp) (by intro p hp; simp only [List.mem_cons, List.not_mem_nil, or_false] at hp ⊢; rcases hp with h | h <;> simp [h])
  refine refuse_call (n := 300) (pos := 0) X T B hCd F1 N2 ?_ ⟨?_, dF, htb, dc1, ?_⟩ (KBa.ints_make hoc2) (Nat.zero_le _) (by omega) (by omega) (by rw [List.drop_zero]; omega) (by rw [List.drop_zero]; exact hnone) ?_
  · intro p hp y hy
    simp only [List.mem_cons, List.not_mem_nil, or_false, adr2] at hp hy
    rcases hp with rfl | rfl <;> rcases hy with rfl | rfl | rfl | rfl | rfl | rfl <;> k_ne
  · dsimp only; omega
  · dsimp only
    rw [dc2]; rfl
  intro h2 tk2 u2 tp2 F2 N3
  have N4 : News base L h2 [(lR, W.listOf rv.toArray 0), (cc, oc), (44, tabObj (#[] ++ #[rawInt ((15 : Nat) : Int), rawInt ((4 : Nat) : Int), Value.ref cc]))] := fun p hp => N3 p (by
    simp only [List.mem_cons, List.not_mem_nil, or_false] at hp
    rcases hp with h | h | h <;> simp [h, led2])
  clear N3 N2 F1 N1 dF dO htb iD
  dsimp only
  k_steps
  show wpAny _ _ _ _ _ _
  rename Fr base L _ _ => F5
  rename News base L _ _ => N5
  rename Obj.data _ = _ => dF
  revert dF
  rename Obj.data _ = _ => dO
  intro dF
  obtain ⟨tb', htb⟩ : ∃ tb, Obj.data _ = .cell (some (.bytes (byteArr rs) tb)) := ⟨_, dO⟩
  have N6 := stream_led (T' := [(lR, W.listOf rv.toArray 0), (44, tabObj (#[] ++ #[rawInt ((15 : Nat) : Int), rawInt ((4 : Nat) : Int), Value.ref cc]))]) (oc := oc) (tq := tq) (vs' := vs') (octs := byteArr rs) (tb := tb') N5 (by simp) (by intro p hp; simp only [List.mem_cons, List.not_mem_nil, or_false] at hp ⊢; rcases hp with h | h <;> simp [h])
  refine tree_call (s := { s with heap := _, toks := _ }) (n := 300) (pos := 0) (pos' := rs.length) (t := t) X T B hCd F5 N6 ?_ ⟨?_, dF, htb, dc1, ?_⟩ (KBa.ints_make hoc) (Nat.zero_le _) (by omega) (by omega) (by rw [List.drop_zero]; omega) (by rw [List.drop_zero, List.drop_length]; exact htree) (Nat.le_refl _) ?_
  · intro p hp y hy
    simp only [List.mem_cons, List.not_mem_nil, or_false, adr2] at hp hy
    rcases hp with rfl | rfl <;> rcases hy with rfl | rfl | rfl | rfl | rfl | rfl <;> k_ne
  · dsimp only; omega
  · dsimp only
    rw [dc2]; rfl
  intro h7 tk7 l7 tl7 tp7 F7 N7 hoff7 hin7
  clear N5 N6 F5
  simp only [led2, adr2, List.cons_append, List.nil_append, List.map_cons, List.map_nil] at N7 hoff7
  dsimp only
  k_steps
  show wpAny _ _ _ _ _ _
  rename Fr base L _ _ => F8
  rename News base L _ _ => N8
  rename _ ∧ _ => aord
  have hAl : AllLt _ tl7 := aord.2.2.2.2.2.2.2.2
  have hpl : (pre t).length ≤ 300 := by rw [hpre]; omega
  refine count_call (s := { s with heap := _, toks := _ }) (t := t) (tl := tl7) X T B F8 N8 ?_ ?_ hin7 hpl ?_
  · intro p hp; simp [hp]
  · intro p hp
    simp only [List.mem_cons] at hp
    rcases hp with rfl | rfl | rfl | rfl | rfl | rfl | rfl | rfl | hp
    all_goals first | exact allLt_ne hAl p hp | k_ne
  intro h9 tk9 cs9 k9 F9 N9 i9
  rw [hpre] at i9
  have l9 : cs9.length ≤ 213 := by rw [i9.length]; omega
  clear F8 N8
  dsimp only
  k_steps
  rw [beq_self_eq_true]
  exact hQ _ _ _ (#[] ++ #[rawInt ((15 : Nat) : Int), rawInt ((4 : Nat) : Int), Value.ref cc]) F9 (fun p hp => N9 p (by rw [List.mem_singleton.mp hp]; simp))
end
end Mine
namespace Mine
section
abbrev restOf (os : List Int) (pos : Nat) (lk : Int) : List Int := os.drop pos ++ List.replicate lk.toNat 0
theorem in_take {ns : List Int} {a : Nat} (h : KBa.In ns) : KBa.In (ns.take a) := fun n hn => h n (List.mem_of_mem_take hn)
theorem in_rest {ns : List Int} {a : Nat} {k : Int} (h : KBa.In ns) : KBa.In (restOf ns a k) := fun n hn => by
  rcases List.mem_append.mp hn with hn | hn
  · exact h n (List.mem_of_mem_drop hn)
  · rw [(List.mem_replicate.mp hn).2]; decide
theorem last_item_eq {prog : Program} {w : World} {A : Around} {E : Value → Shared → Prop} {s : Shared} {value slice : PySem.Expr} {l : Addr} {vs : List Value} {ns : List Int} {u : Tok} {z : Int} {Q : Value → Shared → Prop} (hz : ns.getLastD 0 = z) (hl : s.heap.IsList l vs.toArray) (hi : IntsAre vs ns) (hne : ns ≠ []) (h : ∀ t, Q (.int z t) s)
    (hs : subscripted slice false (.ref l) (.int (-1) u) = operate [.ref l, .int (-1) u] (getItem (.ref l) (.int (-1) u)) := by with_unfolding_all rfl) :
    wpAny (model prog w) A (subscriptTail value slice (.ref l) (.int (-1) u)) Q E s := last_item hl hi hne (by subst hz; exact h) hs
local macro_rules | `(tactic| walk_at "subscriptTail Name UnaryOp ref int") => `(tactic| (k_here; (with_unfolding_all refine' last_item_eq ?k0 ?k1 ?k2 ?k3 ?_ ?k6; (case k0 => assumption); (case k1 => is_list); (case k2 => assumption); (case k3 => assumption); (case k6 => with_unfolding_all rfl)); intro t'))
local macro_rules | `(tactic| walk_at "binaryOp Mult ref int") => `(tactic| ((with_reducible show wpAny _ _ (binaryOp Operator.Mult (Value.ref _) (Value.int _ _)) _ _ _); refine Stop.mk ?_))
local macro_rules | `(tactic| walk_at "subscriptTail Name Slice ref ref") => `(tactic| (k_here; (with_reducible show wpAny _ _ (subscriptTail _ (PySem.Expr.Slice _ _ none _) (Value.ref _) (Value.ref _)) _ _ _); k_dflt (refine' cut_from ?F ?N ?l ?i ?z ?_ ?s ?t; (case F => k_asm); (case N => k_asm); (case l => kmk_list); (case i => assumption); (case z => omega); (case s => with_unfolding_all rfl); (case t => kmk_pure)); intro D' ws' h' F' N' l1 hI'; (try k_lt l1); (try k_sweep)))
theorem flat_rep {α : Type} (n : Nat) (a : α) : (List.replicate n [a]).flatten = List.replicate n a := by
  induction n with
  | zero => rfl
  | succ n ih => rw [List.replicate_succ, List.flatten_cons, ih, List.replicate_succ]; rfl
theorem fr_name {h₀ h : Heap} {L : Addr} {m : Str → Option Value} {z : Str} {v : Value} (F : Fr h₀ L h m) (e : m z = some v) : Fr h₀ L h (fun y => if y = z then some v else m y) := by
  have : (fun y => if y = z then some v else m y) = m := by
    funext y
    split
    · rename_i hy; rw [hy, e]
    · rfl
  rw [this]; exact F
theorem afterC {w : World} {mg mb m0 u0 u : Str → Option Value} {base : Heap} {mean : ExcName → Option Value} {s : Shared} {L fa x lE lW lO cc pos : Nat} {lk : Int} {cd : Value} {tw tl tq : Tok} {vs' : Array Value} {oc : Obj} {en ov : List Value} {nen os : List Int} {k1 k3 : Nat} {Q : Flow → Shared → Prop} :
    (hd2.heap_39 w.params).In base → Top topProg loose2 mean mg mb base → Below callerA base [] base → CodeHd base 48 44 →
    Fr base L s.heap (fun y => if stB.contains y then u y else m3 x lE lW lO tw u0 m0 y) → News base L s.heap [(cc, oc), (lE, W.listOf en.toArray k1), (lO, W.listOf ov.toArray k3), (44, tabObj (#[] ++ #[rawInt ((15 : Nat) : Int), rawInt ((4 : Nat) : Int), Value.ref cc]))] →
    (44 < lO ∧ lO < lE ∧ lE < cc) → oc.data = .fields vs' → vs'[1]? = some (.str qRead tq) → KBa.In os → IntsAre en nen → IntsAre ov os → os.length ≤ 63 → nen.length ≤ 100 → nen ≠ [] → nen.getLastD 0 = (pos : Int) → pos ≤ os.length → 1 ≤ lk →
    (lk ≤ 150 → treeF 300 (restOf os pos lk).dropLast = none ∧ ∃ t, treeF 300 (restOf os pos lk) = some (t, []) ∧ pre t = restOf os pos lk) →
    (∀ h' tk' m' tab', Fr base L h' m' → News base L h' [(44, tabObj tab')] → Q (.ret (.bool true)) { s with heap := h', toks := tk' }) →
    wpAny (model PySem.Challenge.rw_dw0036_02.row.prog w) (callerA.deeper (env2 L fa cd)) (storeName (env2 L fa cd) (Str.ofString "lacks") (.int lk tl)) (fun _ s' => wpAny (model PySem.Challenge.rw_dw0036_02.row.prog w) (callerA.deeper (env2 L fa cd)) (execs restC (env2 L fa cd)) Q (fun _ _ => False) s') (fun _ _ => False) s := by
  w_top off
  k_fill
  intro X T B hCd F N hord dc1 dc2 hoc iE iO hlo hle hne1 hlast hpos hlk1 hleft hQ
  have l1 : en.length ≤ 100 := by rw [iE.length]; omega
  have l3 : ov.length ≤ 100 := by rw [iO.length]; omega
  k_steps
  · rename Fr base L _ _ => F1
    rename News base L _ _ => N1
    exact hQ _ _ _ (#[] ++ #[rawInt ((15 : Nat) : Int), rawInt ((4 : Nat) : Int), Value.ref cc]) F1 (fun p hp => N1 p (by rw [List.mem_singleton.mp hp]; simp))
  · show wpAny _ _ _ _ _ _
    rename Fr base L _ _ => F1
    rename News base L _ _ => N1
    rename ¬ 150 < lk => h150
    rename IntsAre _ (List.drop _ os) => iD
    refine KM.mul (vs := [_]) (ns := [0]) F1 N1 ⟨_, (N1 _ (List.mem_cons_self ..)).1, rfl, _, rfl⟩ (.cons _ _ .nil) (by omega) (by omega) (by simp; omega) ?_
    intro Dz hz F2 N2 l2 iz n2 s2 e2 e3 e4
    dsimp only
    rw [flat_rep, flat_rep] at iz
    rw [flat_rep] at N2
    clear F1 N1
    have hr := hleft (by omega)
    obtain ⟨hr1, t, hr2, hr3⟩ := hr
    rename IntsAre _ (List.drop _ os) => iD
    refine kmk_add_ints (s := { s with heap := _, toks := _ }) F2 N2 ⟨_, (N2 (_, W.listOf (List.toArray _) 0) (.tail _ (.tail _ (.head _)))).1, rfl, _, rfl⟩ ⟨_, (N2 _ (List.mem_cons_self ..)).1, rfl, _, rfl⟩ iD iz ?_ ?_
    · intro lR rv h3 F3 N3 l3 iR
      dsimp only
      have hlR : cc < lR := l3 (cc, oc) (by simp)
      have hlen : (restOf os pos lk).length ≤ 213 := by rw [List.length_append, List.length_drop, List.length_replicate]; omega
      have hoc2 : KBa.In (restOf os pos lk) := in_rest hoc
      refine afterD (s := { s with heap := _, toks := _ }) X T B hCd (fr_name F3 rfl) (fun p hp => N3 p ?_) ⟨by omega, hlR⟩ dc1 dc2 hoc2 (in_dropLast hoc2) iR hlen (by rw [List.length_dropLast]; omega) ?_ hr1 hr2 hr3 hQ
      · simp only [List.mem_cons, List.not_mem_nil, or_false] at hp ⊢
        rcases hp with h | h | h <;> simp [h]
      · intro e
        have := congrArg List.length e
        rw [List.length_append, List.length_replicate] at this
        simp only [List.length_nil] at this
        omega
    · rw [sizeLine_eq, List.length_drop, List.length_replicate]; omega
end
end Mine
namespace Mine
section
local macro_rules | `(tactic| walk_at "subscriptTail Name UnaryOp ref int") => `(tactic| (k_here; (with_unfolding_all refine' last_item ?k1 ?k2 ?k3 ?_ ?k6; (case k1 => is_list); (case k2 => l_ints); (case k3 => first | assumption | simp); (case k6 => with_unfolding_all rfl)); intro t'))
local macro_rules | `(tactic| walk_at "call builtin:min") => `(tactic| ((with_reducible show wpAny _ _ (call (Value.builtin _) [Value.ref _]) _ _ _); refine Stop.mk ?_))
local macro_rules | `(tactic| walk_at "call ref") => `(tactic| ((with_reducible show wpAny _ _ (call (Value.ref 63) _) _ _ _); refine Stop.mk ?_))
local macro_rules | `(tactic| walk_at "call ref") => `(tactic| ((with_reducible show wpAny _ _ (call (Value.ref 70) _) _ _ _); refine Stop.mk ?_))
local macro_rules | `(tactic| walk_at "call ref") => `(tactic| ((with_reducible show wpAny _ _ (call (Value.ref 77) _) _ _ _); refine Stop.mk ?_))
local macro_rules | `(tactic| walk_at "binaryOp Mult ref int") => `(tactic| ((with_reducible show wpAny _ _ (binaryOp Operator.Mult (Value.ref _) (Value.int _ _)) _ _ _); refine Stop.mk ?_))
local macro_rules | `(tactic| walk_at "storeName") => `(tactic| ((with_reducible show wpAny _ _ (storeName _ (Str.ofString "lacks") _) _ _ _); refine Stop.mk ?_))
theorem last_mem {l : List Int} (h : l ≠ []) : l.getLastD 0 ∈ l := by
  rw [List.getLastD_eq_getLast?, List.getLast?_eq_some_getLast h]
  exact List.getLast_mem h
theorem afterB {w : World} {mg mb m0 u0 u : Str → Option Value} {base : Heap} {mean : ExcName → Option Value} {s : Shared} {L fa lE lW lO n pos : Nat} {g : Sg2} {cd : Value} {tw tp : Tok} {en wk ov : List Value} {nen nwk os : List Int} {k1 k2 k3 : Nat} {Q : Flow → Shared → Prop} :
    (hd2.heap_39 w.params).In base → Top topProg loose2 mean mg mb base → Below callerA base [] base → CodeHd base 48 44 →
    Fr base L s.heap (fun y => if stB.contains y then u y else m3 g.x lE lW lO tw u0 m0 y) → News base L s.heap (led2 w.params g pos tp ++ [(lE, W.listOf en.toArray k1), (lO, W.listOf ov.toArray k3), (lW, W.listOf wk.toArray k2), (44, tabObj (#[] ++ #[rawInt ((15 : Nat) : Int), rawInt ((4 : Nat) : Int), Value.ref g.cc]))]) →
    (44 < lO ∧ lO < lW ∧ lW < lE ∧ lE < g.cO ∧ lE < g.cc) → SgOk2 g → g.q = qRead → KBw.bInts g.octs = os → KBa.In os → IntsAre en nen → IntsAre wk nwk → IntsAre ov os → os.length ≤ 63 → nen.length ≤ 100 → nwk.length = os.length + 1 → nen ≠ [] → nwk ≠ [] → nen.getLastD 0 = (pos : Int) → pos ≤ os.length → n ≤ 300 → os.length ≤ n → treeF n (os.drop pos) = none → Left os nwk pos →
    (∀ h' tk' m' tab', Fr base L h' m' → News base L h' [(44, tabObj tab')] → Q (.ret (.bool true)) { s with heap := h', toks := tk' }) →
    wpAny (model PySem.Challenge.rw_dw0036_02.row.prog w) (callerA.deeper (env2 L fa cd)) (execs restB (env2 L fa cd)) Q (fun _ _ => False) s := by
  w_top off
  k_fill
  intro X T B hCd F N hord hg hq hns hoc iE iW iO hlo hle hlw hne1 hne2 hlast hpos hn hln hnone hleft hQ
  have l1 : en.length ≤ 100 := by rw [iE.length]; omega
  have l2 : wk.length ≤ 100 := by rw [iW.length]; omega
  have l3 : ov.length ≤ 100 := by rw [iO.length]; omega
  have hord2 := hg.ord
  have hoff : OwnOff [(lE, W.listOf en.toArray k1), (lO, W.listOf ov.toArray k3), (lW, W.listOf wk.toArray k2), (44, tabObj (#[] ++ #[rawInt ((15 : Nat) : Int), rawInt ((4 : Nat) : Int), Value.ref g.cc]))] (adr2 g) := by
    intro p hp y hy
    simp only [List.mem_cons, List.not_mem_nil, or_false, adr2] at hp hy
    rcases hp with rfl | rfl | rfl | rfl <;> rcases hy with rfl | rfl | rfl | rfl | rfl | rfl <;> k_ne
  k_steps
  show wpAny _ _ _ _ _ _
  refine refuse_call (n := n) X T B hCd F N hoff hg hns hpos (by omega) hn (by rw [List.length_drop]; omega) hnone ?_
  intro h1 tk1 u1 tp1 F1 N1
  clear F N
  simp only [led2, List.cons_append, List.nil_append] at N1
  k_steps
  show wpAny _ _ _ _ _ _
  have hnone2 : treeF n (os.drop os.length) = none := by
    rw [List.drop_length]
    cases n <;> rfl
  refine refuse_call (n := n) (pos := os.length) (tp := tp1) X T B hCd F1 N1 hoff hg hns (Nat.le_refl _) (by omega) hn (by rw [List.length_drop]; omega) hnone2 ?_
  intro h2 tk2 u2 tp2 F2 N2
  clear F1 N1
  simp only [led2, List.cons_append, List.nil_append] at N2
  k_steps
  · show wpAny _ _ _ _ _ _
    rename Fr _ _ _ _ => F3
    rename News _ _ _ _ => N3
    refine kso_min F3 N3 ⟨_, (N3 (lW, W.listOf wk.toArray k2) (by simp)).1, rfl, _, rfl⟩ iW (by omega) rfl ?_
    intro h4 M tM tk4 F4 N4 hmem hmin
    dsimp only
    clear F3 N3
    k_steps
    show wpAny _ _ _ _ _ _
    have hM := hmin _ (last_mem hne2)
    rename Fr base L _ _ => F5
    rename News base L _ _ => N5
    refine afterC (s := { s with heap := _, toks := _ }) (pos := pos) (k1 := k1) (k3 := k3) (cc := g.cc) (oc := g.oc) (vs' := g.vs') (tq := g.tq) X T B hCd F5 (fun p hp => N5 p ?_) ⟨by omega, by omega, by omega⟩ hg.dc1 (hq ▸ hg.dc2) hoc iE iO hlo hle hne1 hlast hpos (by omega) (fun h150 => (hleft M hmem hmin h150).2) hQ
    simp only [List.mem_cons, List.not_mem_nil, or_false] at hp ⊢
    rcases hp with h | h | h | h <;> simp [h]
  · rename ¬ _ = _ => hx
    exact absurd rfl hx
end
end Mine
namespace Mine
section
local macro_rules | `(tactic| walk_at "exec For Name Call cons nil") => `(tactic| ((with_reducible show wpAny _ _ (exec (Stmt.For _ _ _ _ _) _) _ _ _); refine Stop.mk ?_))
theorem last_cast {E : List Nat} : (E.map (fun n : Nat => (n : Int))).getLastD 0 = ((E.getD (E.length - 1) 0 : Nat) : Int) := by
  rw [← getD_cast, List.getLastD_eq_getLast?, List.getLast?_eq_getElem?, List.getD_eq_getElem?_getD, List.length_map]
theorem mid2 {w : World} {mg mb m0 u : Str → Option Value} {base : Heap} {mean : ExcName → Option Value} {s : Shared} {L fa lE lW lO fn cc x d cF cO r : Nat} {q : Str} {cd dc pm ctv : Value} {tw t1 t2 tq tb tp a1 a2 a3 : Tok} {en wk ov : List Value} {nen nwk os : List Int} {k1 k2 k3 : Nat} {vs' : Array Value} {oc oF oO : Obj} {Q : Flow → Shared → Prop} {px : Pos}
    (X : (hd2.heap_39 w.params).In base) (T : Top topProg loose2 mean mg mb base) (B : Below callerA base [] base) (hCd : CodeHd base 48 44)
    (F : Fr base L s.heap (m3 x lE lW lO tw u m0))
    (N : News base L s.heap [(fn, readFn2 q cO cF dc pm cc ctv), (cc, oc), (x, instObj 38 d), (d, dictOf [⟨PyData.keyHash w.params (Str.ofString "value"), Value.str (Str.ofString "value") t1, Value.int 0 tp⟩, ⟨PyData.keyHash w.params (Str.ofString "read"), Value.str (Str.ofString "read") t2, Value.ref fn⟩] 2), (cF, oF), (cO, oO),
      (lE, W.listOf en.toArray k1), (lW, W.listOf wk.toArray k2), (lO, W.listOf ov.toArray k3), (44, tabObj (#[] ++ #[rawInt ((15 : Nat) : Int), rawInt ((4 : Nat) : Int), Value.ref cc]))])
    (hord : 44 < lO ∧ lO < lW ∧ lW < lE ∧ lE < cO ∧ cO < cF ∧ cF < d ∧ d < x ∧ x < cc ∧ cc < fn)
    (dF : oF.data = .cell (some (.ref x))) (dO : oO.data = .cell (some (.bytes (byteArr os) tb))) (dc1 : oc.data = .fields vs') (dc2 : vs'[1]? = some (.str q tq)) (hq : q = qRead)
    (iE : IntsAre en nen) (iW : IntsAre wk nwk) (iO : IntsAre ov os) (hlo : os.length ≤ 63) (hoc : KBa.In os) (hv : WInv os os.length nwk nen) (hr : IsRange s.heap r 0 ((nen.length : Int) - 1) 1 a1 a2 a3)
    (hQ : ∀ h' tk' m' tab', Fr base L h' m' → News base L h' [(44, tabObj tab')] → Q (.ret (.bool true)) { s with heap := h', toks := tk' }) :
    wpAny (model PySem.Challenge.rw_dw0036_02.row.prog w) (callerA.deeper (env2 L fa cd)) (pyIter (.ref r)) (fun it s₂ => codeAny (model PySem.Challenge.rw_dw0036_02.row.prog w) (callerA.deeper (env2 L fa cd)) (.forLoop (.Name (Str.ofString "k") px) it bodyB [] (env2 L fa cd))
      (fun r s' => match r with | .ok f => (match f with | .next => wpAny (model PySem.Challenge.rw_dw0036_02.row.prog w) (callerA.deeper (env2 L fa cd)) (execs restB (env2 L fa cd)) Q (fun _ _ => False) s' | f => Q f s') | .error e => cameBackBy (model PySem.Challenge.rw_dw0036_02.row.prog w) (callerA.deeper (env2 L fa cd)) (env2 L fa cd) (fun _ _ => False) e s') s₂) (fun _ _ => False) s := by
  obtain ⟨rfl, rfl⟩ := hv
  have hpos : ∀ y ∈ os, 0 ≤ y := fun y hy => (hoc y hy).1
  have hEs := ends_ok (n := 300) hpos (by omega)
  have hlen := endsTo_len os os.length
  rw [List.length_map] at hr
  have hne : (endsTo os os.length).map (fun n : Nat => (n : Int)) ≠ [] := fun e => by
    have := congrArg List.length e
    rw [List.length_map, List.length_nil] at this
    have := hEs.pos
    omega
  have hg : SgOk2 ⟨fn, cc, x, d, cF, cO, q, dc, pm, ctv, t1, t2, tq, tb, vs', oc, oF, oO, byteArr os⟩ := ⟨by dsimp only; omega, dF, dO, dc1, dc2⟩
  refine loopB (g := ⟨fn, cc, x, d, cF, cO, q, dc, pm, ctv, t1, t2, tq, tb, vs', oc, oF, oO, byteArr os⟩) (tp := tp) (E := endsTo os os.length) (n := 300) (k1 := k1) (k3 := k3) (T₀ := [(lW, W.listOf wk.toArray k2), (44, tabObj (#[] ++ #[rawInt ((15 : Nat) : Int), rawInt ((4 : Nat) : Int), Value.ref cc]))]) X T B hCd F (fun p hp => N p ?_) (by dsimp only; omega) hg (KBa.ints_make hoc) ?_ iE iO (by omega) (by omega) (by omega) (by omega) hEs hr ?_
  · simp only [led2, List.mem_cons, List.mem_append, List.not_mem_nil, or_false] at hp ⊢
    rcases hp with (h | h | h | h | h | h) | h | h | h | h <;> simp [h]
  · intro p hp y hy
    simp only [List.mem_cons, List.not_mem_nil, or_false, adr2] at hp hy
    rcases hp with rfl | rfl <;> rcases hy with rfl | rfl | rfl | rfl | rfl | rfl | rfl | rfl <;> k_ne
  · intro u1 h1 tk1 tp1 F1 N1
    show wpAny _ _ _ _ _ _
    have hlast := hEs.le ((endsTo os os.length).length - 1) (by have := hEs.pos; omega)
    exact afterB (s := { s with heap := h1, toks := tk1 }) (n := 300) X T B hCd F1 N1 (by dsimp only; omega) hg hq (KBa.ints_make hoc) hoc iE iW iO hlo (by rw [List.length_map]; omega) (by simp) hne (by simp) last_cast hlast (by omega) (by omega) (none_ok hpos (by omega) rfl) (left_ok hpos (by omega) rfl) hQ
theorem afterA {w : World} {mg mb m0 u : Str → Option Value} {base : Heap} {mean : ExcName → Option Value} {s : Shared} {L fa lE lW lO : Nat} {cd : Value} {tw : Tok} {en wk ov : List Value} {nen nwk os : List Int} {k1 k2 k3 : Nat} {Q : Flow → Shared → Prop} :
    (hd2.heap_39 w.params).In base → Top topProg loose2 mean mg mb base → Below callerA base [] base → CodeHd base 48 44 →
    Fr base L s.heap (fun y => if [Str.ofString "k"].contains y then u y else m2 lE lW lO tw m0 y) → News base L s.heap [(lE, W.listOf en.toArray k1), (lW, W.listOf wk.toArray k2), (lO, W.listOf ov.toArray k3), (44, tabObj #[])] → (44 < lO ∧ lO < lW ∧ lW < lE) →
    IntsAre en nen → IntsAre wk nwk → IntsAre ov os → os.length ≤ 63 → KBa.In os → WInv os os.length nwk nen →
    (∀ h' tk' m' tab', Fr base L h' m' → News base L h' [(44, tabObj tab')] → Q (.ret (.bool true)) { s with heap := h', toks := tk' }) →
    wpAny (model PySem.Challenge.rw_dw0036_02.row.prog w) (callerA.deeper (env2 L fa cd)) (execs restA (env2 L fa cd)) Q (fun _ _ => False) s := by
  w_top off
  k_fill
  intro X T B hCd F N hord iE iW iO hlo hoc hv hQ
  have hl1 : nwk.length = os.length + 1 := by rw [hv.1]; simp
  have hl2 : nen.length ≤ os.length + 1 := by rw [hv.2, List.length_map]; exact endsTo_len os _
  have l1 : en.length ≤ 100 := by rw [iE.length]; omega
  have l2 : wk.length ≤ 100 := by rw [iW.length]; omega
  have l3 : ov.length ≤ 100 := by rw [iO.length]; omega
  k_steps
  show wpAny _ _ _ _ _ _
  rename (_ : Array Value)[1]? = _ => dc2
  refine wpAny_For ?_
  k_steps
  show wpAny _ _ _ _ _ _
  rename Fr base L _ _ => F1
  rename News base L _ _ => N1
  rename IsRange _ _ _ _ _ _ _ _ => hr
  rename Obj.data _ = Data.fields _ => dc1
  rename Obj.data _ = Data.cell (some (Value.ref _)) => dF
  revert dc1 dF
  rename Obj.data _ = _ => dO
  intro dF dc1
  obtain ⟨tb, htb⟩ : ∃ tb, Obj.data _ = .cell (some (.bytes (byteArr os) tb)) := ⟨_, dO⟩
  refine mid2 (s := { s with heap := _, toks := _ }) X T B hCd F1 N1 ?_ dF htb dc1 dc2 rfl iE iW iO hlo hoc hv hr hQ
  omega
end
end Mine
section
open Mine
local macro_rules | `(tactic| walk_at "exec For Name Call cons nil") => `(tactic| ((with_reducible show wpAny _ _ (exec (Stmt.For _ _ _ _ _) _) _ _ _); refine Stop.mk ?_))
local macro_rules | `(tactic| walk_at "call ref") => `(tactic| (k_here; (with_reducible show wpAny _ _ (call (Value.ref 56) [Value.int _ _]) _ _ _); k_dflt (refine' octet_call ?X ?T ?B ?F ?N ?I ?k ?_; (case X => assumption); (case T => assumption); (case B => assumption); (case F => k_asm); (case N => k_asm); (case I => assumption); (case k => rfl)); intro h' tk' tv' F' N' I'))
theorem le60 {l : List Int} {ys : List Value} (I : IntsAre ys (List.map octet2 (List.take 60 l))) : ys.length ≤ 60 := by
  rw [I.length, List.length_map, List.length_take]; omega
theorem octet2_in (x : Int) : 0 ≤ octet2 x ∧ octet2 x < 256 := by
  unfold octet2
  have h1 : 0 ≤ (x.fdiv 16).fmod 252 := Int.fmod_nonneg_of_pos _ (by decide)
  have h2 : (x.fdiv 16).fmod 252 < 252 := Int.fmod_lt_of_pos _ (by decide)
  repeat' split
  all_goals omega
theorem in_start (l : List Int) : KBa.In ([2, 0, 0] ++ List.map octet2 l) := fun n hn => by
  rcases List.mem_append.mp hn with hn | hn
  · simp only [List.mem_cons, List.not_mem_nil, or_false] at hn
    rcases hn with rfl | rfl | rfl <;> decide
  · obtain ⟨y, _, rfl⟩ := List.mem_map.mp hn
    exact octet2_in y
theorem start2 {w : World} {mg mb m0 : Str → Option Value} {base : Heap} {mean : ExcName → Option Value} {s : Shared} {L fa lE lW lO r : Nat} {cd : Value} {tw ta tb a1 a2 a3 : Tok} {ov : List Value} {os : List Int} {z : Int} {T' : List (Addr × Obj)} {Q : Flow → Shared → Prop} {px : Pos}
    (X : (hd2.heap_39 w.params).In base) (T : Top topProg loose2 mean mg mb base) (B : Below callerA base [] base) (hCd : CodeHd base 48 44)
    (F : Fr base L s.heap (m2 lE lW lO tw m0)) (N : News base L s.heap ((lE, W.listOf #[Value.int 0 ta] 0) :: (lW, W.listOf #[Value.int 0 tb] 0) :: (lO, W.listOf ov.toArray 0) :: T')) (h44 : (44, tabObj #[]) ∈ T')
    (hord : 44 < lO ∧ lO < lW ∧ lW < lE) (iO : IntsAre ov os) (hlo : os.length ≤ 63) (hoc : KBa.In os) (hr : IsRange s.heap r 0 z 1 a1 a2 a3) (hz : z = (os.length : Int))
    (hQ : ∀ h' tk' m' tab', Fr base L h' m' → News base L h' [(44, tabObj tab')] → Q (.ret (.bool true)) { s with heap := h', toks := tk' }) :
    wpAny (model PySem.Challenge.rw_dw0036_02.row.prog w) (callerA.deeper (env2 L fa cd)) (pyIter (.ref r)) (fun it s₂ => codeAny (model PySem.Challenge.rw_dw0036_02.row.prog w) (callerA.deeper (env2 L fa cd)) (.forLoop (.Name (Str.ofString "k") px) it bodyA [] (env2 L fa cd))
      (fun r s' => match r with | .ok f => (match f with | .next => wpAny (model PySem.Challenge.rw_dw0036_02.row.prog w) (callerA.deeper (env2 L fa cd)) (execs restA (env2 L fa cd)) Q (fun _ _ => False) s' | f => Q f s') | .error e => cameBackBy (model PySem.Challenge.rw_dw0036_02.row.prog w) (callerA.deeper (env2 L fa cd)) (env2 L fa cd) (fun _ _ => False) e s') s₂) (fun _ _ => False) s := by
  subst hz
  refine loopA (T := [(44, tabObj #[])]) (k3 := 0) (ta := ta) (tb := tb) X T B F (fun p hp => N p ?_) hord.2 ?_ iO (by omega) hr ?_
  · simp only [List.mem_cons, List.not_mem_nil, or_false] at hp ⊢
    rcases hp with h | h | h | h <;> simp [h, h44]
  · intro p hp y hy
    simp only [List.mem_cons, List.not_mem_nil, or_false] at hp hy
    rcases hp with rfl
    rcases hy with rfl | rfl | rfl <;> k_ne
  · intro u h1 tk1 en wk nen nwk k1 k2 F1 N1 iE iW hv
    exact afterA (s := { s with heap := h1, toks := tk1 }) X T B hCd F1 N1 hord iE iW iO hlo hoc hv hQ
theorem PySem.Challenge.cw_dw0036_02_holds : PySem.Challenge.rw_dw0036_02.Holds := by
  refine hd2 ?_
  w_strict k_go0
  refine wpAny_noRaise ?_
  k_fold
  k_steps
  rename NewPlain _ _ _ _ => gnP
  rename CarriedAll _ _ => gnC
  rename Fr _ _ _ _ => gnF
  rename News _ _ _ _ => gnN0
  obtain ⟨kk, N2, A2⟩ := gn_enter gnP gnF gnN0 (by assumption)
  have I2 := gn_ints gnP gnC (fun _ => rfl)
  clear gnP gnC gnN0
  simp only [GnNe, and_true] at A2
  have hys := le60 I2
  k_steps
  show wpAny _ _ _ _ _ _
  refine wpAny_For ?_
  k_steps
  show wpAny _ _ _ _ _ _
  rename Fr _ _ _ _ => F
  rename News _ _ _ _ => N
  refine start2 (by assumption) (by assumption) (by assumption) (by assumption) F N (by simp) (by omega) (by assumption) ?_ (in_start _) (by assumption) ?_ ?_
  · simp only [List.length_append, List.length_cons, List.length_nil, List.length_map, List.length_take]; omega
  · simp only [List.length_append, List.length_cons, List.length_nil]
  intro h' tk' m' tab' F' N'
  k_steps
end
