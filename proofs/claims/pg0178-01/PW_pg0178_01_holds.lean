import PyProof.Rows.All
import Wide.All
import OpenK.AllK
import Wide.FinOn
import Lean
import PySem.Challenge.RW_pg0178_01
open PySem PySem.W PyProof.Rows
set_option Elab.async false
set_option maxRecDepth 100000
set_option maxHeartbeats 8000000
namespace Mine
open_top hd for PySem.Challenge.rw_pg0178_01
end Mine
open PySem.Calls
namespace Mine

/-! ## WA -/
abbrev PR : Program := Challenge.rw_pg0178_01.row.prog

/-- every old object stays as it was -/
def Up (h h' : Heap) : Prop := ∀ b o, h.get? b = some o → h'.get? b = some o
theorem Up.refl (h : Heap) : Up h h := fun _ _ e => e
theorem Up.trans {a b c : Heap} (x : Up a b) (y : Up b c) : Up a c := fun p o e => y p o (x p o e)

/-- what the top has laid and the walk needs -/
structure Gd (w : World) (h : Heap) : Prop where
  k : (hd.heap_39 w.params).In h
  t : ∃ p loose mg mb bm ob, TopRead p loose mg mb h ∧ (∃ mc, h.Ns cStatics mc ∧ mc "sys.int_max_str_digits" = none) ∧ BMod h mainGlobals mg bm ob
theorem Gd.up {w : World} {h h' : Heap} (G : Gd w h) (u : Up h h') : Gd w h' :=
  ⟨G.k.keeps u, let ⟨p, l, mg, mb, bm, ob, T, ⟨mc, hn, hm⟩, M⟩ := G.t; ⟨p, l, mg, mb, bm, ob, T.keeps u, ⟨mc, hn.keeps u, hm⟩, M.keeps u⟩⟩

/-- room around: k frames more may open -/
structure Ao (A : Around) (k : Nat) : Prop where
  hh : A.handled = none
  d : A.depth + k ≤ 400
  u : A.units + 10 * k ≤ 400
  g : A.guards = some []
theorem Ao.room {A : Around} {k : Nat} (a : Ao A k) : A.depth < recursionLimit := by
  have := a.d; show A.depth < 1000; omega
theorem Ao.units {A : Around} {k : Nat} (a : Ao A k) : A.units < cLine := by
  have := a.u; show A.units < 9900; omega
theorem Ao.deeper {A : Around} {k : Nat} (a : Ao A (k + 1)) (env : Env) : Ao (A.deeper env) k :=
  ⟨a.hh, by have := a.d; show A.depth + 1 + k ≤ 400; omega, by have := a.u; show A.units + 3 + 10 * k ≤ 400; omega, a.g⟩

/-- the locals of a frame, as they were bound -/
def lk (l : List (Str × Value)) : Str → Option Value := fun y => l.lookup y

/-- the state at hand: all but the heap and the tokens stands as it stood -/
def St (s : Shared) (h : Heap) (tk : Nat) : Shared := { s with heap := h, toks := tk }
theorem St_heap (s : Shared) (h : Heap) (tk : Nat) : (St s h tk).heap = h := rfl

/-- the frame and what is new, each address once -/
structure Cx (h₀ : Heap) (L : Addr) (h : Heap) (m : Str → Option Value) (news : List (Addr × Obj)) : Prop where
  F : Fr h₀ L h m
  N : News h₀ L h news
  D : (news.map (·.1)).Nodup

section
variable {h₀ h h' : Heap} {L : Addr} {m m' : Str → Option Value} {news news' : List (Addr × Obj)} {D : Addr} {o o' : Obj}
theorem Cx.up (c : Cx h₀ L h m news) (u : Up h h') : Cx h₀ L h' m news := ⟨c.F.keeps u, c.N.grown u, c.D⟩
theorem Cx.add (c : Cx h₀ L h m news) (u : Up h h') (hn : h.get? D = none) (ho : h'.get? D = some o) : Cx h₀ L h' m ((D, o) :: news) := by
  obtain ⟨oL, _, _, hL, _⟩ := c.F.ns
  refine ⟨c.F.keeps u, fun p hp => ?_, ?_⟩
  · rcases List.mem_cons.mp hp with rfl | hp
    · refine ⟨ho, fun e => ?_, ?_⟩
      · have e' : D = L := e
        rw [e', hL] at hn; cases hn
      · cases q : h₀.get? D with
        | none => rfl
        | some o₀ => rw [c.F.keep _ _ q] at hn; cases hn
    · exact c.N.grown u p hp
  · show (D :: news.map (·.1)).Nodup
    refine List.nodup_cons.mpr ⟨fun hm => ?_, c.D⟩
    obtain ⟨p, hp, e⟩ := List.mem_map.mp hm
    rw [← e, (c.N p hp).1] at hn; cases hn
theorem Cx.push (c : Cx h₀ L h m news) (o : Obj) (hf : o.isFreed = false := by rfl) : Cx h₀ L (h.push o) m ((h.objs.size, o) :: news) := by
  refine c.add (fun b x e => Heap.get?_push_of_some _ e) ?_ (Heap.get?_push_size _ hf)
  cases q : h.get? h.objs.size with
  | none => rfl
  | some x => exact absurd (Heap.lt_size q) (Nat.lt_irrefl _)
theorem Cx.sub (c : Cx h₀ L h m news) (s : news'.Sublist news) : Cx h₀ L h m news' := ⟨c.F, fun p hp => c.N p (s.subset hp), c.D.sublist (s.map _)⟩
theorem Cx.perm (c : Cx h₀ L h m news) (s : news.Perm news') : Cx h₀ L h m news' := ⟨c.F, fun p hp => c.N p (s.mem_iff.mpr hp), (s.map _).nodup_iff.mp c.D⟩
theorem Cx.right {own : List (Addr × Obj)} (c : Cx h₀ L h m (own ++ news)) : Cx h₀ L h m news := c.sub (List.sublist_append_right _ _)
theorem Cx.left {own : List (Addr × Obj)} (c : Cx h₀ L h m (news ++ own)) : Cx h₀ L h m news := c.sub (List.sublist_append_left _ _)
theorem Cx.tail {p : Addr × Obj} (c : Cx h₀ L h m (p :: news)) : Cx h₀ L h m news := c.sub (List.sublist_cons_self _ _)
/-- one object is set anew -/
theorem Cx.set {pre post : List (Addr × Obj)} (c : Cx h₀ L h m (pre ++ (D, o) :: post)) (hs : Heap.SameBut D h h') (ho : h'.get? D = some o') : Cx h₀ L h' m (pre ++ (D, o') :: post) := by
  have P : ∀ p ∈ pre ++ (D, o) :: post, (p.1 = D → p ∈ [(D, o)]) := fun p hp e => by
    have nd : ((pre.map (·.1)) ++ D :: post.map (·.1)).Nodup := by simpa using c.D
    obtain ⟨n1, n2, n3⟩ := List.nodup_append.mp nd
    rcases List.mem_append.mp hp with q | q
    · exact absurd e (n3 p.1 (List.mem_map_of_mem q) D (.head _))
    · rcases List.mem_cons.mp q with rfl | q
      · exact .head _
      · exact absurd (e ▸ List.mem_map_of_mem q) (List.nodup_cons.mp n2).1
  have hD := c.N (D, o) (List.mem_append_right _ (.head _))
  refine ⟨⟨c.F.ns.sameBut hs (Ne.symm hD.2.1), fun b x e => (hs.2 b fun q => ?_).trans (c.F.keep b x e), c.F.above⟩, fun p hp => ?_, by simpa using c.D⟩
  · rw [q, hD.2.2] at e; cases e
  · have other : p ∈ pre ++ (D, o) :: post → p.1 ≠ D → h'.get? p.1 = some p.2 ∧ p.1 ≠ L ∧ h₀.get? p.1 = none := fun hp ne => ⟨(hs.2 _ ne).trans (c.N p hp).1, (c.N p hp).2⟩
    have nd : ((pre.map (·.1)) ++ D :: post.map (·.1)).Nodup := by simpa using c.D
    obtain ⟨n1, n2, n3⟩ := List.nodup_append.mp nd
    rcases List.mem_append.mp hp with q | q
    · exact other (List.mem_append_left _ q) (n3 p.1 (List.mem_map_of_mem q) D (.head _))
    · rcases List.mem_cons.mp q with rfl | q
      · exact ⟨ho, hD.2⟩
      · exact other (List.mem_append_right _ (.tail _ q)) fun e => (List.nodup_cons.mp n2).1 (e ▸ List.mem_map_of_mem q)
theorem Cx.store (c : Cx h₀ L h m news) (hn : h'.Ns L m') (hs : Heap.SameBut L h h') : Cx h₀ L h' m' news := ⟨c.F.set hn hs, c.N.set hs, c.D⟩
theorem Cx.isList {l : Addr} {vs : List Value} {n : Nat} (c : Cx h₀ L h m news) (hm : (l, listOf vs.toArray n) ∈ news) : h.IsList l vs.toArray := ⟨_, (c.N _ hm).1, rfl, n, rfl⟩
end

theorem get?_size (h : Heap) : h.get? h.objs.size = none := by
  cases q : h.get? h.objs.size with
  | none => rfl
  | some x => exact absurd (Heap.lt_size q) (Nat.lt_irrefl _)


/-! ### the logic without raises: a structure, so that nothing unfolds -/
structure Wp {α : Type} (w : World) (A : Around) (t : Sem α) (Q : α → Shared → Prop) (s : Shared) : Prop where
  h : wpAny (model PR w) A t Q (fun _ _ => False) s
structure Co (w : World) (A : Around) (c : Code) (R : Result → Shared → Prop) (s : Shared) : Prop where
  h : codeAny (model PR w) A c R s

section
variable {w : World} {A : Around} {α β : Type} {s : Shared}
theorem Wp.nest {t : Sem α} {P P' : α → Shared → Prop} {E : Value → Shared → Prop} (g : Wp w A t P s) (h : ∀ a s, P a s → P' a s) : wpAny (model PR w) A t P' E s := wpAny_mono g.h h fun _ _ z => z.elim
theorem Wp.any {t : Sem α} {P : α → Shared → Prop} {E : Value → Shared → Prop} (g : Wp w A t P s) : wpAny (model PR w) A t P E s := g.nest fun _ _ z => z
theorem Wp.mono {t : Sem α} {P P' : α → Shared → Prop} (g : Wp w A t P s) (h : ∀ a s, P a s → P' a s) : Wp w A t P' s := ⟨g.nest h⟩
/-- what follows is the logic's own -/
theorem Wp.dn {t : Sem α} {u : α → Sem β} {Q : β → Shared → Prop} {E : Value → Shared → Prop} (g : Wp w A t (fun a s₁ => Wp w A (u a) Q s₁) s) : wpAny (model PR w) A t (fun a s₁ => wpAny (model PR w) A (u a) Q E s₁) E s := g.nest fun _ _ z => z.any
theorem Wp.bind {t : Sem α} {u : α → Sem β} {Q : β → Shared → Prop} (g : Wp w A t (fun a s₁ => Wp w A (u a) Q s₁) s) : Wp w A (t >>= u) Q s := ⟨wpAny_bind g.dn⟩

/-- the call of a code -/
theorem call_ {f : Value} {vs : List Value} {Q : Value → Shared → Prop} (g : Co w A (.call f ⟨vs, []⟩) (fun r s' => match r with | .ok (.ret v) => Q v s' | _ => False) s) : Wp w A (call f vs []) Q s :=
  ⟨wpAny_call (codeAny_mono g.h fun r s' z => by
    cases r with
    | error e => exact z
    | ok f => cases f <;> exact z)⟩
end

theorem ownOf_nodup {h₀ h : Heap} : ∀ {fp : List Addr}, fp.Nodup → ((PyProof.Rows.ownOf h₀ fp h).map (·.1)).Nodup := by
  intro fp hn
  refine hn.sublist ?_
  clear hn
  induction fp with
  | nil => exact .slnil
  | cons b r ih =>
    unfold PyProof.Rows.ownOf at ih ⊢
    rw [List.filterMap_cons]
    split
    · exact ih.cons _
    · rename_i q e
      have : q.1 = b := by
        split at e
        · cases hq : h.get? b with
          | none => rw [hq] at e; cases e
          | some o => rw [hq] at e; cases e; rfl
        · cases e
      rw [List.map_cons, this]
      exact ih.cons_cons _

section
variable {w : World} {A : Around} {s : Shared} {h : Heap} {tk : Nat} {env : Env}

/-- the end of a turn -/
def TurnE (h₀ : Heap) (L : Addr) (Ok : Shared → Prop) (J : (Str → Option Value) → List (Addr × Obj) → Prop) (own : List (Addr × Obj)) (Qb : Shared → Prop) (Qr : Value → Shared → Prop) (f : Flow) (s₃ : Shared) : Prop := match f with
  | .brk => Qb s₃
  | .ret v => Qr v s₃
  | _ => ∃ s' h' tk' m' nx, Ok s' ∧ s₃ = St s' h' tk' ∧ Cx h₀ L h' m' (nx ++ own) ∧ J m' nx
theorem TurnE.intro {h₀ : Heap} {L : Addr} {Ok : Shared → Prop} {J : (Str → Option Value) → List (Addr × Obj) → Prop} {own nx : List (Addr × Obj)} {Qb : Shared → Prop} {Qr : Value → Shared → Prop} {m' : Str → Option Value} {h' : Heap} {tk' : Nat}
    (ok : Ok s) (c : Cx h₀ L h' m' (nx ++ own)) (j : J m' nx) : TurnE h₀ L Ok J own Qb Qr .next (St s h' tk') := ⟨s, h', tk', m', nx, ok, rfl, c, j⟩

/-- a for over a walked thing, on the frame and its news -/
theorem for_walk {h₀ : Heap} {target : Expr} {body orelse : List Stmt} {Q : Flow → Shared → Prop} {I : Addr} {fp wr : List Addr} {n : Nat} {P : Nat → Value → Prop} {Sx : Nat → Heap → Prop} {m : Str → Option Value} {news : List (Addr × Obj)}
    (Ok : Shared → Prop) (J : Nat → (Str → Option Value) → List (Addr × Obj) → Prop) (W : Walks PR w A I fp wr n P Sx) (hn : fp.Nodup) (hex : ∀ i h, Sx i h → ∀ b ∈ fp, ∃ o, h.get? b = some o)
    (hLf : env.locals ∉ fp) (hwr : ∀ b ∈ wr, h₀.get? b = none) (hoff : ∀ p ∈ news, p.1 ∉ fp)
    (hst : Sx 0 h) (ok : Ok s) (c : Cx h₀ env.locals h m news) (h0 : J 0 m news)
    (step : ∀ i v s m₁ nx h₁ tk₁ own, Ok s → i < n → P i v → J i m₁ nx → Cx h₀ env.locals h₁ m₁ (nx ++ own) →
      Wp w A (assign target env v) (fun _ s₂ => Wp w A (execs body env) (TurnE h₀ env.locals Ok (J (i + 1)) own (fun s₃ => Q .next s₃) (fun v s₃ => Q (.ret v) s₃)) s₂) (St s h₁ tk₁))
    (done : ∀ s h' tk' m' nx, Ok s → J n m' nx → Cx h₀ env.locals h' m' nx → Wp w A (execs orelse env) Q (St s h' tk'))
    (ht : ∀ v, letOwnedTupleGo target (.ref I) v = pure () := by intro _; rfl) :
    Co w A (.forLoop target (.ref I) body orelse env) (fun r s' => match r with | .ok f => Q f s' | .error _ => False) (St s h tk) := by
  have hLw : env.locals ∉ wr := fun h => hLf (W.sub _ h)
  have old : ∀ b o, h₀.get? b = some o → b ∉ wr := fun b o e hb => by rw [hwr b hb] at e; cases e
  refine ⟨codeAny_forLoop
    (fun k s' => ∃ s h' tk m' news' i, Ok s ∧ s' = St s h' tk ∧ Sx i h' ∧ Cx h₀ env.locals h' m' news' ∧ (∀ p ∈ news', p.1 ∉ fp) ∧ J i m' news' ∧ i ≤ n ∧ k = n + 1 - i) ?_ (n + 1)
    ⟨s, h, tk, m, news, 0, ok, rfl, hst, c, hoff, h0, Nat.zero_le _, rfl⟩ ht⟩
  rintro k s' ⟨s, h', tk, m', news', i, ok, rfl, hst', c', hnw', hJ, hi, rfl⟩
  have next : ∀ h₁ : Heap, (∀ b o, b ∉ wr → h'.get? b = some o → h₁.get? b = some o) → Cx h₀ env.locals h₁ m' news' := fun h₁ hk₁ =>
    ⟨⟨c'.F.ns.at' fun o e => hk₁ _ o hLw e, fun b o e => hk₁ b o (old b o e) (c'.F.keep b o e), c'.F.above⟩, fun p hp => ⟨hk₁ _ _ (fun hw => hnw' p hp (W.sub _ hw)) (c'.N p hp).1, (c'.N p hp).2⟩, c'.D⟩
  by_cases hlt : i < n
  · refine W.item i _ _ _ hlt hst' fun v h₁ tk₁ hP hst₁ hk₁ => ?_
    have c₁ := next h₁ hk₁
    have Nown : News h₀ env.locals h₁ (PyProof.Rows.ownOf h₀ fp h₁) := news_ownOf hLf
    have c₂ : Cx h₀ env.locals h₁ m' (news' ++ PyProof.Rows.ownOf h₀ fp h₁) := ⟨c₁.F, fun p hp => (List.mem_append.mp hp).elim (c₁.N p) (Nown p), by
      rw [List.map_append]
      refine List.nodup_append.mpr ⟨c₁.D, ownOf_nodup hn, fun a ha b hb e => ?_⟩
      obtain ⟨p, hp, rfl⟩ := List.mem_map.mp hb
      obtain ⟨q, hq, rfl⟩ := List.mem_map.mp ha
      exact hnw' q hq (e ▸ ownOf_sub p hp)⟩
    refine (step i v s m' news' h₁ tk₁ _ ok hlt hP hJ c₂).nest (fun _ s₂ h₂ => h₂.nest (fun f s₃ h₃ => ?_))
    have fin : (∃ s' h' tk' m' nx, Ok s' ∧ s₃ = St s' h' tk' ∧ Cx h₀ env.locals h' m' (nx ++ PyProof.Rows.ownOf h₀ fp h₁) ∧ J (i + 1) m' nx) → ∃ m, m < n + 1 - i ∧ ∃ s h' tk m' news' i, Ok s ∧ s₃ = St s h' tk ∧ Sx i h' ∧ Cx h₀ env.locals h' m' news' ∧ (∀ p ∈ news', p.1 ∉ fp) ∧ J i m' news' ∧ i ≤ n ∧ m = n + 1 - i := by
      rintro ⟨s', h₃', tk₃, m₂, nx, ok', rfl, c₃, hJ₃⟩
      have off : ∀ p ∈ nx, p.1 ∉ fp := fun p hp hb => by
        obtain ⟨o, ho⟩ := hex _ _ hst₁ _ hb
        have hm := mem_ownOf hb (c₃.N p (List.mem_append_left _ hp)).2.2 ho
        have nd := c₃.D
        rw [List.map_append] at nd
        exact (List.nodup_append.mp nd).2.2 p.1 (List.mem_map_of_mem hp) p.1 (List.mem_map.mpr ⟨_, hm, rfl⟩) rfl
      refine ⟨n + 1 - (i + 1), by omega, s', h₃', tk₃, m₂, nx, i + 1, ok', rfl, ?_, c₃.left, off, hJ₃, hlt, rfl⟩
      refine W.frame _ _ _ hst₁ fun b hb o e₂ => ?_
      cases hn : h₀.get? b with
      | some o₀ =>
        have : o₀ = o := by have := c₁.F.keep b o₀ hn; rw [e₂] at this; exact (Option.some.inj this).symm
        exact this ▸ c₃.F.keep b o₀ hn
      | none => exact (c₃.N _ (List.mem_append_right _ (mem_ownOf hb hn e₂))).1
    cases f with
    | ret v => exact h₃
    | brk => exact h₃
    | cont => exact fin h₃
    | next => exact fin h₃
  · have hin : i = n := by omega
    subst hin
    refine W.done _ _ _ hst' fun h₁ tk₁ hk₁ => ?_
    exact (done s h₁ tk₁ m' news' ok hJ (next h₁ hk₁)).nest fun _ _ x => x

theorem for_ {target iter : Expr} {body orelse : List Stmt} {pos : Pos} {Q : Flow → Shared → Prop} {s' : Shared}
    (g : Wp w A (eval iter env) (fun x s₁ => Wp w A (pyIter x) (fun it s₂ => Co w A (.forLoop target it body orelse env) (fun r s' => match r with | .ok f => Q f s' | .error _ => False) s₂) s₁) s')
    (hs : ∀ x, foldedSetIterable iter env x = pure x := by intro _; rfl) : Wp w A (exec (.For target iter body orelse pos) env) Q s' :=
  ⟨wpAny_For (g.nest fun _ _ z => z.nest fun _ _ z => codeAny_mono z.h fun r s' z => by cases r with | ok f => exact z | error e => exact z.elim) hs⟩

/-- .. over a list that stood before the call -/
theorem iter_list {h₀ : Heap} {l : Addr} {vs : List Value} {m : Str → Option Value} {news : List (Addr × Obj)} {target : Expr} {body orelse : List Stmt} {Q : Flow → Shared → Prop}
    (J : Nat → (Str → Option Value) → List (Addr × Obj) → Prop) (hh : A.handled = none) (hl : h₀.IsList l vs.toArray) (c : Cx h₀ env.locals h m news) (h0 : J 0 m news)
    (step : ∀ i v m₁ nx h₁ tk₁ own, vs[i]? = some v → J i m₁ nx → Cx h₀ env.locals h₁ m₁ (nx ++ own) →
      Wp w A (assign target env v) (fun _ s₂ => Wp w A (execs body env) (TurnE h₀ env.locals (s = ·) (J (i + 1)) own (fun s₃ => Q .next s₃) (fun v s₃ => Q (.ret v) s₃)) s₂) (St s h₁ tk₁))
    (done : ∀ h' tk' m' nx, J vs.length m' nx → Cx h₀ env.locals h' m' nx → Wp w A (execs orelse env) Q (St s h' tk'))
    (ht : ∀ I v, letOwnedTupleGo target (.ref I) v = pure () := by intro _ _; rfl) :
    Wp w A (pyIter (.ref l)) (fun it s₂ => Co w A (.forLoop target it body orelse env) (fun r s' => match r with | .ok f => Q f s' | .error _ => False) s₂) (St s h tk) := by
  obtain ⟨ol, hol, hol'⟩ := id hl
  have hlh := c.F.keep l ol hol
  have hlt : l < h₀.objs.size := Heap.lt_size hol
  refine ⟨wpAny_pyIter_list (s := St s h tk) ⟨ol, hlh, hol'⟩ ?_⟩
  have hne : l ≠ h.objs.size := Nat.ne_of_lt (Heap.lt_size hlh)
  have W := Walks.list (prog := PR) (w := w) hh h.objs.size l hne vs.toArray
  refine for_walk (s := s) (s = ·) J W (by simp [Ne.symm hne]) (fun i h st b hb => by
    obtain ⟨⟨o1, e1, _⟩, ⟨o2, e2, _⟩⟩ := st
    rcases List.mem_cons.mp hb with rfl | hb
    · exact ⟨o1, e1⟩
    · rw [List.mem_singleton.mp hb]; exact ⟨o2, e2⟩) (fun hm => ?_) (fun b hb => ?_) (fun p hp hm => ?_) ⟨⟨_, Heap.get?_push_size _ rfl, rfl, rfl⟩, ⟨ol, Heap.get?_push_of_some _ hlh, hol'⟩⟩ rfl (c.up fun b o e => Heap.get?_push_of_some _ e) h0
    (fun i v s' m₁ nx h₁ tk₁ own e _ hP => e ▸ step i v m₁ nx h₁ tk₁ own (by simpa using hP)) (fun s' h' tk' m' nx e hJ => e ▸ done h' tk' m' nx (by simpa using hJ)) (ht _)
  · rcases List.mem_cons.mp hm with e | hm
    · exact absurd c.F.ns.lt (e ▸ Nat.lt_irrefl _)
    · exact absurd (Nat.lt_of_lt_of_le hlt c.F.above) ((List.mem_singleton.mp hm) ▸ Nat.lt_irrefl _)
  · rw [List.mem_singleton.mp hb]
    cases q : h₀.get? h.objs.size with
    | none => rfl
    | some o => exact absurd (Heap.lt_size (c.F.keep _ _ q)) (Nat.lt_irrefl _)
  · rcases List.mem_cons.mp hm with e | hm
    · exact absurd (Heap.lt_size (c.N p hp).1) (e ▸ Nat.lt_irrefl _)
    · have := (c.N p hp).2.2; rw [List.mem_singleton.mp hm, hol] at this; cases this

/-- .. over a range -/
theorem iter_range {h₀ : Heap} {r : Addr} {a b : Int} {t u' v' : Tok} {n : Nat} {m : Str → Option Value} {news : List (Addr × Obj)} {target : Expr} {body orelse : List Stmt} {Q : Flow → Shared → Prop} (Ok : Shared → Prop)
    (J : Nat → (Str → Option Value) → List (Addr × Obj) → Prop) (hh : A.handled = none) (hr : IsRange h r a b 1 t u' v') (ha : -1000 ≤ a ∧ a ≤ 1000) (hb : -1000 ≤ b ∧ b ≤ 1000) (hn : (b - a).toNat = n) (ok : Ok s) (c : Cx h₀ env.locals h m news) (h0 : J 0 m news)
    (step : ∀ i t s m₁ nx h₁ tk₁ own, Ok s → i < n → J i m₁ nx → Cx h₀ env.locals h₁ m₁ (nx ++ own) →
      Wp w A (assign target env (.int (a + (i : Int)) t)) (fun _ s₂ => Wp w A (execs body env) (TurnE h₀ env.locals Ok (J (i + 1)) own (fun s₃ => Q .next s₃) (fun v s₃ => Q (.ret v) s₃)) s₂) (St s h₁ tk₁))
    (done : ∀ s h' tk' m' nx, Ok s → J n m' nx → Cx h₀ env.locals h' m' nx → Wp w A (execs orelse env) Q (St s h' tk'))
    (ht : ∀ I v, letOwnedTupleGo target (.ref I) v = pure () := by intro _ _; rfl) :
    Wp w A (pyIter (.ref r)) (fun it s₂ => Co w A (.forLoop target it body orelse env) (fun r s' => match r with | .ok f => Q f s' | .error _ => False) s₂) (St s h tk) := by
  have hz : Builtin.Range.rangeSize a b 1 = (n : Int) := by rw [rangeSize_nat]; omega
  refine ⟨wpAny_pyIter_range (s := St s h tk) hr (small_one (by omega) (by omega) (by omega) (by omega)) ?_⟩
  have W := (Walks.range (prog := PR) (w := w) hh h.objs.size a 1 n).bound
  refine for_walk (s := s) Ok J W (by simp) (fun i h st b hb => by rw [List.mem_singleton.mp hb]; exact ⟨_, st⟩) (fun hm => ?_) (fun b hb => ?_) (fun p hp hm => ?_) ?_ ok (c.up fun b o e => Heap.get?_push_of_some _ e) h0 ?_ done (ht _)
  · exact absurd c.F.ns.lt ((List.mem_singleton.mp hm) ▸ Nat.lt_irrefl _)
  · rw [List.mem_singleton.mp hb]
    cases q : h₀.get? h.objs.size with
    | none => rfl
    | some o => exact absurd (Heap.lt_size (c.F.keep _ _ q)) (Nat.lt_irrefl _)
  · exact absurd (Heap.lt_size (c.N p hp).1) ((List.mem_singleton.mp hm) ▸ Nat.lt_irrefl _)
  · show IsRangeIter _ _ _ _ _
    rw [hz]; simpa [St_heap] using Heap.get?_push_size _ rfl
  · rintro i v s m₁ nx h₁ tk₁ own ok hi ⟨_, t, rfl⟩ hJ c'
    have e : a + (i : Int) * 1 = a + (i : Int) := by omega
    rw [e]
    exact step i t s m₁ nx h₁ tk₁ own ok hi hJ c'
end

/-! ## WB -/
theorem cells_nodup {cm : Str → Option Value} : ∀ {cs : List (Str × Addr)} {cells : List (Addr × Obj)}, CellsAre cm cs cells → (cs.Pairwise fun x y => x.2 ≠ y.2) → (cells.map (·.1)).Nodup := by
  intro cs cells X hp
  have e : cells.map (·.1) = cs.map (·.2) := by
    clear hp
    induction X with
    | nil => rfl
    | cons _ _ ih => simp [ih]
  rw [e]
  exact List.pairwise_map.mpr hp


-- the frame of a def
section
variable {w : World} {A : Around} {s : Shared} {hp : Heap} {tk : Nat}
/-- a def is called: its frame -/
theorem enter {k : Nat} {R : Result → Shared → Prop} {name qual : Str} {params : Arguments} {body : List Stmt} {scope : Scope} {dV kV doc pm cdv ct oc : Value} {an od : Option Addr} {osl : Array (Option Value)} {f : Addr} {args : Args} (binds : List (Str × Value))
    (G : Gd w hp) (hA : Ao A (k + 1))
    (ho : (hd.heap_39 w.params).lookup f = some ⟨oc, od, .func (fnOf name qual params body scope dV kV doc pm an cdv ct), osl⟩) (hcd : codeIn (hd.heap_39 w.params) cdv qual = true)
    (hbind : BindsTo (St s hp tk) (fnOf name qual params body scope dV kV doc pm an cdv ct) args binds) (hloc : ∀ y ∈ binds, scope.names.lookup y.1 = some .local)
    (h : ∀ L h₁, Cx hp L h₁ (lk binds.reverse) [] → Ao (A.deeper (envOf qual scope L f cdv)) k →
      Wp w (A.deeper (envOf qual scope L f cdv)) (execs body (envOf qual scope L f cdv))
        (fun fl s' => R (.ok (.ret (match fl with | .ret v => v | _ => .none))) s') (St s h₁ (tk + binds.length)))
    (hcell : ∀ x ∈ scope.names, x.2 ≠ .cell) (hco : scope.isCoroutine = false := by rfl) (hgen : scope.isGenerator = false := by rfl) (hk : scope.kind = .function := by rfl) :
    Co w A (.call (.ref f) args) R (St s hp tk) := by
  obtain ⟨_, _, _, _, _, _, T, _, _⟩ := G.t
  refine ⟨codeAny_call_def (fd := fnOf name qual params body scope dV kV doc pm an cdv ct) (body := body) (binds := binds) hA.room (G.k _ _ ho) rfl T.nolimit (codeRec_of G.k hcd) rfl hbind hcell hloc (fun h₁ hns hk₁ => ?_) hco hgen hk⟩
  exact (h hp.objs.size h₁ ⟨⟨hns, hk₁, Nat.le_refl _⟩, News.nil, .nil⟩ (hA.deeper _)).any

theorem enterC {k : Nat} {R : Result → Shared → Prop} {name qual : Str} {params : Arguments} {body : List Stmt} {scope : Scope} {dV kV doc pm cdv ct oc : Value} {an od : Option Addr} {osl : Array (Option Value)} {f : Addr} {args : Args} (binds : List (Str × Value))
    (G : Gd w hp) (hA : Ao A (k + 1))
    (ho : (hd.heap_39 w.params).lookup f = some ⟨oc, od, .func (fnOf name qual params body scope dV kV doc pm an cdv ct), osl⟩) (hcd : codeIn (hd.heap_39 w.params) cdv qual = true)
    (hbind : BindsTo (St s hp tk) (fnOf name qual params body scope dV kV doc pm an cdv ct) args binds)
    (hkind : (binds.all fun y => scope.names.lookup y.1 == some .local || scope.names.lookup y.1 == some .cell) = true)
    (h : ∀ L h₁ tk₁ cells, Cx hp L h₁ (bindL (envOfC qual scope L f cdv).kindOf binds fun _ => none) cells → CellsAre (bindC (envOfC qual scope L f cdv).kindOf binds fun _ => none) (cellsFrom (L + 1) scope.names []) cells → Ao (A.deeper (envOfC qual scope L f cdv)) k →
      Wp w (A.deeper (envOfC qual scope L f cdv)) (execs body (envOfC qual scope L f cdv))
        (fun fl s' => R (.ok (.ret (match fl with | .ret v => v | _ => .none))) s') (St s h₁ tk₁))
    (hnd : ((cellsFrom 0 scope.names []).map (·.1)).Nodup) (hco : scope.isCoroutine = false := by rfl) (hgen : scope.isGenerator = false := by rfl) (hk : scope.kind = .function := by rfl) :
    Co w A (.call (.ref f) args) R (St s hp tk) := by
  obtain ⟨_, _, _, _, _, _, T, _, _⟩ := G.t
  refine ⟨codeAny_call_function (fd := fnOf name qual params body scope dV kV doc pm an cdv ct) (body := body) hA.room (G.k _ _ ho) rfl hco hgen rfl (codeRec_of G.k hcd) (hbind _ _ _ _ ?_)⟩
  refine wpAny_newFunctionEnv_cells hk (kindsX hkind _) fun env' he s' x => ?_
  subst he
  refine ⟨T.nolimit.keeps x.toInCall.keep, codeAny_func ?_⟩
  obtain ⟨h₁, tk₁, rfl, _⟩ := x.done
  have hk₁ := x.toInCall.keep
  obtain ⟨cells, NC, Y⟩ := Cl.news (h₀ := hp) (Nat.le_refl _) fun n c hm => ⟨x.cell n c (lookup_of_mem_nodup (cellsFrom_names scope.names 0 (hp.objs.size + 1) [] [] rfl ▸ hnd) hm), x.above n c hm⟩
  exact (h hp.objs.size h₁ tk₁ cells ⟨⟨x.toInCall.ns, hk₁, Nat.le_refl _⟩, NC, cells_nodup Y x.apart⟩ Y (hA.deeper _)).any
end

-- statements
section
variable {w : World} {A : Around} {s : Shared} {env : Env} {Q : Flow → Shared → Prop}
theorem xcons {st : Stmt} {rest : List Stmt} (g : Wp w A (exec st env) (fun f s' => match f with | .next => Wp w A (execs rest env) Q s' | f => Q f s') s) : Wp w A (execs (st :: rest) env) Q s :=
  ⟨wpAny_execs_cons (g.nest fun f s' z => by cases f <;> first | exact z.any | exact z)⟩
theorem xnil (g : Q .next s) : Wp w A (execs [] env) Q s := ⟨wpAny_execs_nil g⟩
theorem xret {e : Expr} {pos : Pos} (g : Wp w A (eval e env) (fun v => Q (.ret v)) s) : Wp w A (exec (.Return (some e) pos) env) Q s := ⟨wpAny_Return_some g.any⟩
theorem xbrk {pos : Pos} (g : Q .brk s) : Wp w A (exec (.Break pos) env) Q s := ⟨fun _ _ _ => g⟩
theorem xif {test : Expr} {body orelse : List Stmt} {pos : Pos} (g : Wp w A (isTrue test env (eval test env)) (fun b s₂ => if b then Wp w A (execs body env) Q s₂ else Wp w A (execs orelse env) Q s₂) s) : Wp w A (exec (.If test body orelse pos) env) Q s :=
  ⟨wpAny_If (g.nest fun b s' z => by cases b <;> exact z.any)⟩
/-- is the value a comprehension -/
def isComp : Expr → Bool
  | .ListComp .. | .SetComp .. | .DictComp .. => true
  | _ => false
theorem swaps_no {e : Expr} (h : isComp e = false) (t : Option Expr) (l : Nat) : swapsWith e t l env = pure false := by
  cases e <;> first | rfl | cases h
theorem xasg {x : Str} {px pos : Pos} {e : Expr} (g : Wp w A (eval e env) (fun v s₁ => Wp w A (storeName env x v) (fun _ => Q .next) s₁) s) (he : isComp e = false := by rfl) : Wp w A (exec (.Assign [.Name x px] e pos) env) Q s :=
  ⟨wpAny_Assign_Name g.dn (swaps_no he _ _)⟩
theorem xasgA {o : Expr} {attr : Str} {pp pos : Pos} {e : Expr} (g : Wp w A (eval e env) (fun v s₁ => Wp w A (eval o env) (fun ov s₂ => Wp w A (setAttr ov attr v) (fun _ => Q .next) s₂) s₁) s) (he : isComp e = false := by rfl) : Wp w A (exec (.Assign [.Attribute o attr pp] e pos) env) Q s :=
  ⟨plainObj_wpAny_Assign_Attribute (g.nest fun _ _ z => z.dn) (swaps_no he _ _)⟩
theorem xasgS {o i : Expr} {pp pos : Pos} {e : Expr} (g : Wp w A (eval e env) (fun v s₁ => Wp w A (eval o env) (fun ov s₂ => Wp w A (eval i env) (fun iv s₃ => Wp w A (setItem ov iv v) (fun _ => Q .next) s₃) s₂) s₁) s) (he : isComp e = false := by rfl) : Wp w A (exec (.Assign [.Subscript o i pp] e pos) env) Q s :=
  ⟨wpAny_Assign_Subscript (g.nest fun _ _ z => z.nest fun _ _ z => z.dn) (swaps_no he _ _)⟩
theorem xaug {x : Str} {px pos : Pos} {op : Operator} {e : Expr} (g : Wp w A (loadName env x) (fun old s₁ => Wp w A (eval e env) (fun v s₂ => Wp w A (inplaceOp op old v) (fun r s₃ => Wp w A (storeName env x r) (fun _ => Q .next) s₃) s₂) s₁) s) : Wp w A (exec (.AugAssign (.Name x px) op e pos) env) Q s :=
  ⟨wpAny_AugAssign_Name (g.nest fun _ _ z => z.nest fun _ _ z => z.dn)⟩
theorem xexpr {e : Expr} {pos : Pos} (g : Wp w A (eval e env) (fun v s' => match v with | .ref _ => False | _ => Q .next s') s) (hi : interactive env = false := by kernel_rfl) (he : isComp e = false := by rfl) : Wp w A (exec (.Expr e pos) env) Q s :=
  ⟨wpAny_Expr g.any hi (swaps_no he _ _)⟩
theorem xasgT {elts : List Expr} {k : Nat} {tp pos : Pos} {e : Expr} (g : Wp w A (eval e env) (fun v s₁ => Wp w A (assign (.Tuple elts k tp) env v) (fun _ => Q .next) s₁) s) (he : isComp e = false := by rfl) (hs : swappedStores [.Tuple elts k tp] e env = pure none := by kernel_rfl) :
    Wp w A (exec (.Assign [.Tuple elts k tp] e pos) env) Q s := ⟨Assign_Tuple g.dn (by cases e <;> first | rfl | cases he) hs⟩
theorem xasgW {elts : List Expr} {k : Nat} {tp pos : Pos} {e : Expr} (names : List Str) (g : Wp w A (eval e env) (fun v s₁ => Wp w A (unpackItems v names.length none) (fun items s₂ => Wp w A (assignInOrder (names.reverse.map fun n => bindName env n) items.reverse) (fun _ => Q .next) s₂) s₁) s) (he : isComp e = false := by rfl)
    (hs : swappedStores [.Tuple elts k tp] e env = pure (some names) := by kernel_rfl) : Wp w A (exec (.Assign [.Tuple elts k tp] e pos) env) Q s := ⟨Assign_Tuple_swapped (g.nest fun _ _ z => z.dn) (by cases e <;> first | rfl | cases he) hs⟩
theorem xname {x : Str} {px : Pos} {v : Value} {Q : Unit → Shared → Prop} (g : Wp w A (storeName env x v) Q s) : Wp w A (assign (.Name x px) env v) Q s := ⟨wpAny_assign_Name g.any⟩
end

-- expressions
section
variable {w : World} {A : Around} {s : Shared} {env : Env}
theorem eBin {l r : Expr} {op : Operator} {pos : Pos} {Q : Value → Shared → Prop} (g : Wp w A (eval l env) (fun a s₁ => Wp w A (eval r env) (fun b s₂ => Wp w A (binaryOp op a b) Q s₂) s₁) s) : Wp w A (eval (.BinOp l op r pos) env) Q s := ⟨wpAny_BinOp (g.nest fun _ _ z => z.dn)⟩
theorem eCmp {l r : Expr} {op : CmpOp} {pos : Pos} {Q : Value → Shared → Prop} (g : Wp w A (eval l env) (fun a s₁ => Wp w A (eval r env) (fun b s₂ => Wp w A (compareOp op a b) Q s₂) s₁) s) (hm : behindInMarks op r = false := by rfl) : Wp w A (eval (.Compare l [op] [r] pos) env) Q s := ⟨wpAny_Compare1 (g.nest fun _ _ z => z.dn) hm⟩
theorem tCmp {l r : Expr} {op : CmpOp} {pos : Pos} {whole : Sem Value} {Q : Bool → Shared → Prop} (g : Wp w A (eval l env) (fun a s₁ => Wp w A (eval r env) (fun b s₂ => Wp w A (compareOp op a b) (fun c s₃ => Wp w A (truthy c) Q s₃) s₂) s₁) s) (hm : behindInMarks op r = false := by rfl) : Wp w A (isTrue (.Compare l [op] [r] pos) env whole) Q s :=
  ⟨wpAny_isTrue_Compare1 (g.nest fun _ _ z => z.nest fun _ _ z => z.dn) hm⟩
theorem tPlain {e : Expr} {whole : Sem Value} {Q : Bool → Shared → Prop} (g : Wp w A whole (fun v s₁ => Wp w A (truthy v) Q s₁) s) (he : isTrue e env whole = (do let v ← whole; standAt e.pos; holding [v] (truthy v)) := by kernel_rfl) : Wp w A (isTrue e env whole) Q s := ⟨isTrue_plain g.dn he⟩
theorem tBool {b : Bool} {Q : Bool → Shared → Prop} (g : Q b s) : Wp w A (truthy (.bool b)) Q s := ⟨wpAny_truthy_bool g⟩
theorem tInt {a : Int} {t : Tok} {Q : Bool → Shared → Prop} (g : Q (a != 0) s) : Wp w A (truthy (.int a t)) Q s := ⟨PyProof.Rows.truthy_int g⟩
theorem eIf {test body orelse : Expr} {pos : Pos} {Q : Value → Shared → Prop} (g : Wp w A (isTrue test env (eval test env)) (fun c s₂ => if c then Wp w A (eval body env) Q s₂ else Wp w A (eval orelse env) Q s₂) s) : Wp w A (eval (.IfExp test body orelse pos) env) Q s :=
  ⟨IfExp_ (g.nest fun b s' z => by cases b <;> exact z.any)⟩
theorem eSub {value slice : Expr} {pos : Pos} {Q : Value → Shared → Prop} (g : Wp w A (eval value env) (fun o s₁ => Wp w A (eval slice env) (fun i s₂ => Wp w A (subscriptTail value slice o i) Q s₂) s₁) s) : Wp w A (eval (.Subscript value slice pos) env) Q s := ⟨Subscript_ (g.nest fun _ _ z => z.dn)⟩
theorem eAttr {x attr : Str} {xp pos : Pos} {Q : Value → Shared → Prop} (g : Wp w A (eval (.Name x xp) env) (fun o s₁ => Wp w A (getAttr o attr true) Q s₁) s) : Wp w A (eval (.Attribute (.Name x xp) attr pos) env) Q s := ⟨Attribute_Name_ g.dn rfl⟩
theorem eLt {a b : Int} {t u : Tok} {Q : Value → Shared → Prop} (g : Q (.bool (decide (a < b))) s) : Wp w A (compareOp .Lt (.int a t) (.int b u)) Q s := ⟨lt_int g⟩
theorem eGt {a b : Int} {t u : Tok} {Q : Value → Shared → Prop} (g : Q (.bool (decide (b < a))) s) : Wp w A (compareOp .Gt (.int a t) (.int b u)) Q s := ⟨gt_int g⟩
theorem eGe {a b : Int} {t u : Tok} {Q : Value → Shared → Prop} (g : Q (.bool (decide (b ≤ a))) s) : Wp w A (compareOp .GtE (.int a t) (.int b u)) Q s := ⟨ge_int g⟩
theorem eLe {a b : Int} {t u : Tok} {Q : Value → Shared → Prop} (g : Q (.bool (decide (a ≤ b))) s) : Wp w A (compareOp .LtE (.int a t) (.int b u)) Q s := ⟨le_int g⟩
theorem eEq {a b : Int} {t u : Tok} {Q : Value → Shared → Prop} (g : Q (.bool (a == b)) s) : Wp w A (compareOp .Eq (.int a t) (.int b u)) Q s := ⟨eq_int g⟩
theorem eNe {a b : Int} {t u : Tok} {Q : Value → Shared → Prop} (g : Q (.bool (a != b)) s) : Wp w A (compareOp .NotEq (.int a t) (.int b u)) Q s := ⟨ne_int g⟩
theorem eEqS {x y : Str} {t u : Tok} {Q : Value → Shared → Prop} (g : Q (.bool (x == y)) s) : Wp w A (compareOp .Eq (.str x t) (.str y u)) Q s := ⟨eq_str g⟩
end

-- steps on the state at hand
section
variable {w : World} {A : Around} {s : Shared} {h : Heap} {tk : Nat} {env : Env} {x : Str} {pos fp : Pos} {a b : Int} {t u : Tok} {Q : Value → Shared → Prop}
theorem cInt {i : Int} {k : Nat} (g : ∀ tk' t', Q (.int i t') (St s h tk')) : Wp w A (eval (.Constant (.int i) k pos) env) Q (St s h tk) := ⟨wpAny_Constant_int (g _ _)⟩
theorem cStr {i : Str} {k : Nat} (g : ∀ tk' t', Q (.str i t') (St s h tk')) : Wp w A (eval (.Constant (.str i) k pos) env) Q (St s h tk) := ⟨Constant_str (g _ _)⟩
theorem cBool {i : Bool} {k : Nat} (g : Q (.bool i) (St s h tk)) : Wp w A (eval (.Constant (.bool i) k pos) env) Q (St s h tk) := ⟨Constant_bool g⟩
theorem add_ (g : ∀ tk' t', Q (.int (a + b) t') (St s h tk')) : Wp w A (binaryOp .Add (.int a t) (.int b u)) Q (St s h tk) := ⟨add_int (g _ _)⟩
theorem sub_ (g : ∀ tk' t', Q (.int (a - b) t') (St s h tk')) : Wp w A (binaryOp .Sub (.int a t) (.int b u)) Q (St s h tk) := ⟨sub_int (g _ _)⟩
theorem mul_ (hm : a.natAbs < 2 ^ 60) (g : ∀ tk' t', Q (.int (a * b) t') (St s h tk')) : Wp w A (binaryOp .Mult (.int a t) (.int b u)) Q (St s h tk) := by
  refine ⟨PyProof.Rows.mul_int (g _ _) ?_⟩
  have : Builtin.Int.intBits a ≤ 64 := by
    unfold Builtin.Int.intBits
    by_cases e : a = 0
    · simp [e]
    · rw [if_neg (by simpa using e)]
      have := (Nat.log2_lt (n := a.natAbs) (k := 60) (by omega)).mpr hm
      omega
  exact IntMulOk.of_left this
theorem fdiv_ (hb : b ≠ 0) (hs : b.natAbs < 2 ^ 20) (g : ∀ tk' t', Q (.int (Int.fdiv a b) t') (St s h tk')) : Wp w A (binaryOp .FloorDiv (.int a t) (.int b u)) Q (St s h tk) := ⟨floordiv_int hb (g _ _) (.inl (PyProof.noPylong_small (by omega)))⟩
theorem fmod_ (hb : b ≠ 0) (g : ∀ tk' t', Q (.int (Int.fmod a b) t') (St s h tk')) : Wp w A (binaryOp .Mod (.int a t) (.int b u)) Q (St s h tk) := ⟨mod_int' hb (g _ _)⟩
theorem shl_ (h0 : 0 ≤ b) (h1 : b ≤ 1000) (ha : a.natAbs < 2 ^ 64) (g : ∀ tk' t', Q (.int (a * 2 ^ b.toNat) t') (St s h tk')) : Wp w A (binaryOp .LShift (.int a t) (.int b u)) Q (St s h tk) := ⟨lshift_int_small h0 (by omega) ha (g _ _)⟩
theorem band_ (g : ∀ tk' t', Q (.int (Builtin.bitAnd a b) t') (St s h tk')) : Wp w A (binaryOp .BitAnd (.int a t) (.int b u)) Q (St s h tk) := ⟨and_int (g _ _)⟩
theorem ixor_ (g : ∀ tk' t', Q (.int (Builtin.bitXor a b) t') (St s h tk')) : Wp w A (inplaceOp .BitXor (.int a t) (.int b u)) Q (St s h tk) := ⟨ixor_int (g _ _)⟩
theorem addS {x y : Str} (hl : x.length + y.length ≤ 10000) (g : ∀ tk' t', Q (.str (x ++ y) t') (St s h tk')) : Wp w A (binaryOp .Add (.str x t) (.str y u)) Q (St s h tk) :=
  ⟨add_str (fun t' k => g k t') (by rw [sizeLine_eq]; omega)⟩
theorem mulS {x : Str} {n : Int} (hm : MulOk x n) (g : ∀ tk' t', Q (.str (Txt.mul x n) t') (St s h tk')) : Wp w A (binaryOp .Mult (.str x t) (.int n u)) Q (St s h tk) :=
  ⟨SB.mul hm fun t' k => g k t'⟩

theorem nmL {m : Str → Option Value} {v : Value} {s : Shared} (hn : s.heap.Ns env.locals m) (hv : m x = some v) (g : Q v s)
    (hk : env.scope.kind = .function := by rfl) (hx : env.kindOf x = some .local := by kernel_rfl) (hd : (x == ("__debug__" : Str)) = false := by kernel_rfl) :
    Wp w A (eval (.Name x pos) env) Q s := ⟨wpAny_Name (wpAny_loadName_local hk hx hn hv g) hd⟩
theorem ldL {m : Str → Option Value} {v : Value} {s : Shared} (hn : s.heap.Ns env.locals m) (hv : m x = some v) (g : Q v s)
    (hk : env.scope.kind = .function := by rfl) (hx : env.kindOf x = some .local := by kernel_rfl) : Wp w A (loadName env x) Q s := ⟨wpAny_loadName_local hk hx hn hv g⟩
theorem nmC {c : Addr} {v : Value} {s : Shared} (hc : env.cells.lookup x = some c) (hv : s.heap.IsCell c (some v)) (g : Q v s)
    (hk : env.scope.kind = .function := by rfl) (hx : env.kindOf x = some .cell := by kernel_rfl) (hd : (x == ("__debug__" : Str)) = false := by kernel_rfl) :
    Wp w A (eval (.Name x pos) env) Q s := ⟨wpAny_Name (wpAny_loadName_cell hk hx hc hv g) hd⟩
theorem nmG {v : Value} {s : Shared} (G : Gd w s.heap) (e : nsIn (hd.heap_39 w.params) mainGlobals x = some (some v)) (g : Q v s)
    (hg : env.globals = mainGlobals := by rfl)
    (hk : env.scope.kind = .function := by rfl) (hx : env.kindOf x = some .globalImplicit := by kernel_rfl) (hdb : (x == ("__debug__" : Str)) = false := by kernel_rfl) :
    Wp w A (eval (.Name x pos) env) Q s := by
  obtain ⟨_, _, mg, _, _, _, T, _, _⟩ := G.t
  exact ⟨Name_function_global hk hx (loadGlobal_global (hg ▸ T.g) (mg_of G.k T.g e) g) hdb⟩
theorem nmB {v : Value} {s : Shared} (G : Gd w s.heap) (e : nsIn (hd.heap_39 w.params) mainGlobals x = some none) (hv : bootBuiltins x = some v) (hn : x ≠ "__name__") (g : Q v s)
    (hg : env.globals = mainGlobals := by rfl) (hb : env.builtins = builtinsNs := by rfl)
    (hk : env.scope.kind = .function := by rfl) (hx : env.kindOf x = some .globalImplicit := by kernel_rfl) (hdb : (x == ("__debug__" : Str)) = false := by kernel_rfl) :
    Wp w A (eval (.Name x pos) env) Q s := by
  obtain ⟨_, _, mg, mb, _, _, T, _, _⟩ := G.t
  exact ⟨Name_function_global hk hx (loadGlobal_builtin (hg ▸ T.g) (mg_none_of G.k T.g e) (hb ▸ T.b) ((T.builtins x hn).trans hv) g) hdb⟩
theorem stL {h₀ : Heap} {m : Str → Option Value} {news : List (Addr × Obj)} {v : Value} {Q : Unit → Shared → Prop} (c : Cx h₀ env.locals h m news)
    (g : ∀ h' tk', Cx h₀ env.locals h' (fun y => if y = x then some v else m y) news → Q () (St s h' tk'))
    (hx : env.kindOf x = some .local := by kernel_rfl) (hk : (env.scope.kind == .class || (env.scope.kind == .module && env.locals != env.globals)) = false := by rfl) :
    Wp w A (storeName env x v) Q (St s h tk) :=
  ⟨wpAny_storeName_local hx c.F.ns (fun h' hn hs => g h' _ (c.store hn hs)) hk⟩
theorem range1_ (g : ∀ h' tk' r t' u' v', IsRange h' r 0 a 1 t' u' v' → Up h h' → Q (.ref r) (St s h' tk')) : Wp w A (call (.type "range") [.int a t]) Q (St s h tk) :=
  ⟨call_range_1 (g _ _ _ _ _ _ (IsRange.new ..) fun _ _ e => Heap.get?_push_of_some _ e)⟩
theorem range2_ (g : ∀ h' tk' r t' u' v', IsRange h' r a b 1 t' u' v' → Up h h' → Q (.ref r) (St s h' tk')) : Wp w A (call (.type "range") [.int a t, .int b u]) Q (St s h tk) :=
  ⟨call_range_2 (g _ _ _ _ _ _ (IsRange.new ..) fun _ _ e => Heap.get?_push_of_some _ e)⟩
theorem len_ {l : Addr} {vs : List Value} (hl : h.IsList l vs.toArray) (hz : vs.length ≤ 1000) (g : ∀ tk' t', Q (.int vs.length t') (St s h tk')) : Wp w A (call (.builtin "len") [.ref l]) Q (St s h tk) :=
  ⟨len_list (s := St s h tk) hl (by simp; omega) (by rw [List.size_toArray]; exact g _ _)⟩
end

theorem lk1 {x : Str} {v : Value} : lk [(x, v)].reverse x = some v := by simp [lk]
theorem lk2 {x y : Str} {v u : Value} : lk [(x, v), (y, u)].reverse y = some u := by simp [lk]
theorem lk3 {x y : Str} {v u : Value} (h : (x == y) = false) : lk [(x, v), (y, u)].reverse x = some v := by simp [lk, List.lookup, h]
/-- a local's name is read -/
theorem nmX {w : World} {A : Around} {s : Shared} {tk : Nat} {h₀ h : Heap} {env : Env} {x : Str} {pos : Pos} {m : Str → Option Value} {news : List (Addr × Obj)} {v : Value} {Q : Value → Shared → Prop} (c : Cx h₀ env.locals h m news) (hv : m x = some v) (g : Q v (St s h tk))
    (hk : env.scope.kind = .function := by rfl) (hx : env.kindOf x = some .local := by kernel_rfl) (hd : (x == ("__debug__" : Str)) = false := by kernel_rfl) :
    Wp w A (eval (.Name x pos) env) Q (St s h tk) := nmL c.F.ns hv g hk hx hd
-- calls
theorem b_len : bootBuiltins "len" = some (.builtin "len") := by decide +kernel
theorem b_sum : bootBuiltins "sum" = some (.builtin "sum") := by decide +kernel
theorem b_max : bootBuiltins "max" = some (.builtin "max") := by decide +kernel
theorem b_hex : bootBuiltins "hex" = some (.builtin "hex") := by decide +kernel
theorem b_range : bootBuiltins "range" = some (.type "range") := by decide +kernel
theorem b_str : bootBuiltins "str" = some (.type "str") := by decide +kernel
theorem b_tuple : bootBuiltins "tuple" = some (.type "tuple") := by decide +kernel
section
variable {w : World} {A : Around} {s : Shared} {h : Heap} {tk : Nat} {env : Env} {pos fp : Pos} {Q : Value → Shared → Prop} {s' : Shared}
theorem starEach_ns {e : Expr} {rest : List Expr} (h : isStarred e = false) : starEach (e :: rest) env = (false, eval e env) :: starEach rest env := by
  cases e <;> first | rfl | cases h
theorem starEach_none : starEach [] env = [] := rfl
theorem eval_callName (f : Str) (args : List Expr) : eval (.Call (.Name f fp) args [] pos) env = (do callWith pos (← eval (.Name f fp) env) [] (backTo pos (starEach args env)) []) := rfl
theorem backTo_1 {t : Sem Value} {r : List (Bool × Sem Value)} : backTo pos ((false, t) :: r) = (false, t) :: backTo pos r := rfl
theorem backTo_0 : backTo pos [] = [] := rfl
theorem callN {f : Str} {args : List Expr} (g : Wp w A (eval (.Name f fp) env) (fun v s₁ => Wp w A (callWith pos v [] (backTo pos (starEach args env)) []) Q s₁) s') : Wp w A (eval (.Call (.Name f fp) args [] pos) env) Q s' := by
  rw [eval_callName]
  exact g.bind
theorem args1 {f : Value} {first : List Value} {e : Expr} (P : Heap → Prop) (he : isStarred e = false)
    (hk : ∀ h, P h → ∃ k, (k = Keeper.frame ∨ k = Keeper.machine ∨ k = Keeper.boundFrame) ∧ Looks (model PR w) h (keeperOf f) k)
    (g : Wp w A (eval e env) (fun v s₁ => P s₁.heap ∧ Wp w A (call f (first ++ [v]) []) Q s₁) s') :
    Wp w A (callWith pos f first (backTo pos (starEach [e] env)) []) Q s' := by
  rw [starEach_ns he, starEach_none, backTo_1, backTo_0]
  exact ⟨callWith_of rfl hk (evalArgs_plain (spliced_cons (g.nest fun _ _ z => spliced_nil ⟨z.1, z.2.any⟩)))⟩
theorem args2 {f : Value} {first : List Value} {e e' : Expr} (P : Heap → Prop) (he : isStarred e = false) (he' : isStarred e' = false)
    (hk : ∀ h, P h → ∃ k, (k = Keeper.frame ∨ k = Keeper.machine ∨ k = Keeper.boundFrame) ∧ Looks (model PR w) h (keeperOf f) k)
    (g : Wp w A (eval e env) (fun v s₁ => Wp w A (eval e' env) (fun v' s₂ => P s₂.heap ∧ Wp w A (call f (first ++ [v, v']) []) Q s₂) s₁) s') :
    Wp w A (callWith pos f first (backTo pos (starEach [e, e'] env)) []) Q s' := by
  rw [starEach_ns he, starEach_ns he', starEach_none, backTo_1, backTo_1, backTo_0]
  exact ⟨callWith_of rfl hk (evalArgs_plain (spliced_cons (g.nest fun _ _ z => spliced_cons (z.nest fun _ _ z => spliced_nil ⟨z.1, z.2.any⟩))))⟩
theorem args0 {f : Value} {first : List Value} (P : Heap → Prop)
    (hk : ∀ h, P h → ∃ k, (k = Keeper.frame ∨ k = Keeper.machine ∨ k = Keeper.boundFrame) ∧ Looks (model PR w) h (keeperOf f) k)
    (hp : P s'.heap) (g : Wp w A (call f (first ++ []) []) Q s') : Wp w A (callWith pos f first (backTo pos (starEach [] env)) []) Q s' :=
  ⟨callWith_of rfl hk (evalArgs_nil3 ⟨hp, g.any⟩)⟩
theorem keeps_builtin (id : String) (h : Heap) : ∃ k, (k = Keeper.frame ∨ k = Keeper.machine ∨ k = Keeper.boundFrame) ∧ Looks (model PR w) h (keeperOf (.builtin id)) k := ⟨.machine, .inr (.inl rfl), Looks.of_pure rfl⟩
theorem keeps_type (id : String) (h : Heap) : ∃ k, (k = Keeper.frame ∨ k = Keeper.machine ∨ k = Keeper.boundFrame) ∧ Looks (model PR w) h (keeperOf (.type id)) k := ⟨.machine, .inr (.inl rfl), Looks.of_pure rfl⟩
theorem callB {f : Str} {id : String} {e : Expr} (G : Gd w h) (e0 : nsIn (hd.heap_39 w.params) mainGlobals f = some none) (hv : bootBuiltins f = some (.builtin id))
    (g : Wp w A (eval e env) (fun v s₁ => Wp w A (call (.builtin id) [v]) Q s₁) (St s h tk)) (hn : f ≠ "__name__" := by decide +kernel)
    (hg : env.globals = mainGlobals := by rfl) (hb : env.builtins = builtinsNs := by rfl)
    (hk : env.scope.kind = .function := by rfl) (hx : env.kindOf f = some .globalImplicit := by kernel_rfl) (hdb : (f == ("__debug__" : Str)) = false := by kernel_rfl) (he : isStarred e = false := by rfl) :
    Wp w A (eval (.Call (.Name f fp) [e] [] pos) env) Q (St s h tk) :=
  callN (nmB G e0 hv hn (args1 (fun _ => True) he (fun h _ => keeps_builtin id h) (g.mono fun _ _ z => ⟨trivial, z⟩)) hg hb hk hx hdb)
theorem callB2 {f : Str} {id : String} {e e' : Expr} (G : Gd w h) (e0 : nsIn (hd.heap_39 w.params) mainGlobals f = some none) (hv : bootBuiltins f = some (.builtin id))
    (g : Wp w A (eval e env) (fun v s₁ => Wp w A (eval e' env) (fun v' s₂ => Wp w A (call (.builtin id) [v, v']) Q s₂) s₁) (St s h tk)) (hn : f ≠ "__name__" := by decide +kernel)
    (hg : env.globals = mainGlobals := by rfl) (hb : env.builtins = builtinsNs := by rfl)
    (hk : env.scope.kind = .function := by rfl) (hx : env.kindOf f = some .globalImplicit := by kernel_rfl) (hdb : (f == ("__debug__" : Str)) = false := by kernel_rfl) (he : isStarred e = false := by rfl) (he' : isStarred e' = false := by rfl) :
    Wp w A (eval (.Call (.Name f fp) [e, e'] [] pos) env) Q (St s h tk) :=
  callN (nmB G e0 hv hn (args2 (fun _ => True) he he' (fun h _ => keeps_builtin id h) (g.mono fun _ _ z => z.mono fun _ _ z => ⟨trivial, z⟩)) hg hb hk hx hdb)
theorem callT {f : Str} {id : String} {e : Expr} (G : Gd w h) (e0 : nsIn (hd.heap_39 w.params) mainGlobals f = some none) (hv : bootBuiltins f = some (.type id))
    (g : Wp w A (eval e env) (fun v s₁ => Wp w A (call (.type id) [v]) Q s₁) (St s h tk)) (hn : f ≠ "__name__" := by decide +kernel)
    (hg : env.globals = mainGlobals := by rfl) (hb : env.builtins = builtinsNs := by rfl)
    (hk : env.scope.kind = .function := by rfl) (hx : env.kindOf f = some .globalImplicit := by kernel_rfl) (hdb : (f == ("__debug__" : Str)) = false := by kernel_rfl) (he : isStarred e = false := by rfl) :
    Wp w A (eval (.Call (.Name f fp) [e] [] pos) env) Q (St s h tk) :=
  callN (nmB G e0 hv hn (args1 (fun _ => True) he (fun h _ => keeps_type id h) (g.mono fun _ _ z => ⟨trivial, z⟩)) hg hb hk hx hdb)
theorem callT2 {f : Str} {id : String} {e e' : Expr} (G : Gd w h) (e0 : nsIn (hd.heap_39 w.params) mainGlobals f = some none) (hv : bootBuiltins f = some (.type id))
    (g : Wp w A (eval e env) (fun v s₁ => Wp w A (eval e' env) (fun v' s₂ => Wp w A (call (.type id) [v, v']) Q s₂) s₁) (St s h tk)) (hn : f ≠ "__name__" := by decide +kernel)
    (hg : env.globals = mainGlobals := by rfl) (hb : env.builtins = builtinsNs := by rfl)
    (hk : env.scope.kind = .function := by rfl) (hx : env.kindOf f = some .globalImplicit := by kernel_rfl) (hdb : (f == ("__debug__" : Str)) = false := by kernel_rfl) (he : isStarred e = false := by rfl) (he' : isStarred e' = false := by rfl) :
    Wp w A (eval (.Call (.Name f fp) [e, e'] [] pos) env) Q (St s h tk) :=
  callN (nmB G e0 hv hn (args2 (fun _ => True) he he' (fun h _ => keeps_type id h) (g.mono fun _ _ z => z.mono fun _ _ z => ⟨trivial, z⟩)) hg hb hk hx hdb)
/-- f(e): f the text's own -/
theorem callD {f : Str} {a : Addr} {e : Expr} (G : Gd w h) (e0 : nsIn (hd.heap_39 w.params) mainGlobals f = some (some (.ref a))) (ek : keepIn (hd.heap_39 w.params) (.ref a) = true)
    (g : Wp w A (eval e env) (fun v s₁ => (hd.heap_39 w.params).In s₁.heap ∧ Co w A (.call (.ref a) ⟨[v], []⟩) (fun r s' => match r with | .ok (.ret v) => Q v s' | _ => False) s₁) (St s h tk))
    (hg : env.globals = mainGlobals := by rfl)
    (hk : env.scope.kind = .function := by rfl) (hx : env.kindOf f = some .globalImplicit := by kernel_rfl) (hdb : (f == ("__debug__" : Str)) = false := by kernel_rfl) (he : isStarred e = false := by rfl) :
    Wp w A (eval (.Call (.Name f fp) [e] [] pos) env) Q (St s h tk) :=
  callN (nmG G e0 (args1 (Frag.In (hd.heap_39 w.params)) he (keeps_K ek) (g.mono fun _ _ z => ⟨z.1, call_ z.2⟩)) hg hk hx hdb)
theorem callD2 {f : Str} {a : Addr} {e e' : Expr} (G : Gd w h) (e0 : nsIn (hd.heap_39 w.params) mainGlobals f = some (some (.ref a))) (ek : keepIn (hd.heap_39 w.params) (.ref a) = true)
    (g : Wp w A (eval e env) (fun v s₁ => Wp w A (eval e' env) (fun v' s₂ => (hd.heap_39 w.params).In s₂.heap ∧ Co w A (.call (.ref a) ⟨[v, v'], []⟩) (fun r s' => match r with | .ok (.ret v) => Q v s' | _ => False) s₂) s₁) (St s h tk))
    (hg : env.globals = mainGlobals := by rfl)
    (hk : env.scope.kind = .function := by rfl) (hx : env.kindOf f = some .globalImplicit := by kernel_rfl) (hdb : (f == ("__debug__" : Str)) = false := by kernel_rfl) (he : isStarred e = false := by rfl) (he' : isStarred e' = false := by rfl) :
    Wp w A (eval (.Call (.Name f fp) [e, e'] [] pos) env) Q (St s h tk) :=
  callN (nmG G e0 (args2 (Frag.In (hd.heap_39 w.params)) he he' (keeps_K ek) (g.mono fun _ _ z => z.mono fun _ _ z => ⟨z.1, call_ z.2⟩)) hg hk hx hdb)

/-- a method is called: o a name, a literal, a call -/
def plainBase : Expr → Bool
  | .Name .. | .Constant .. => true
  | .Call (.Name ..) (_ :: _) _ _ => true
  | _ => false
theorem base_plain {o : Expr} {attr : Str} {whole : Sem Value} (h : plainBase o = true) : attributeBase o attr env whole = whole := by
  unfold plainBase at h
  split at h <;> first | rfl | cases h
theorem meth_ {o : Expr} {name : Str} {ap : Pos} {args : List Expr} (ho : plainBase o = true) (ha : (backTo pos (starEach args env)).all (!·.1) = true) (hn : args.length < 30) (hp : (ap.endLine == pos.line) = true)
    (g : Wp w A (eval o env) (fun ov s₁ => Wp w A (getMethod ov name (do return (← importBound o env).getD true)) (fun fx s₂ => Wp w A (callWith pos fx.1 fx.2 (backTo pos (starEach args env)) []) Q s₂) s₁) s') :
    Wp w A (eval (.Call (.Attribute o name ap) args [] pos) env) Q s' := by
  refine ⟨?_⟩
  rw [arm_eval_Call, base_plain ho]
  refine wpAny_bind (g.nest (fun ov s₁ h₁ => wpAny_bind (wpAny_standAt ?_)))
  have hf : methodCallForm (args.length + ([] : List Keyword).length) (backTo pos (starEach args env)) (backToKw pos (keywordEach [] env)) = true := by
    unfold methodCallForm
    rw [ha]
    simp [keywordEach, backToKw, hn]
  unfold methodCall
  rw [hf]
  refine wpAny_bind (wpAny_holding (h₁.nest (fun fx s₂ h₂ => ?_)))
  refine wpAny_bind ?_
  unfold methodCallPos
  rw [hp]
  exact wpAny_pure h₂.any
theorem meth1 {o e : Expr} {name : Str} {ap : Pos}
    (g : Wp w A (eval o env) (fun ov s₁ => Wp w A (getMethod ov name (do return (← importBound o env).getD true)) (fun fx s₂ => Wp w A (callWith pos fx.1 fx.2 (backTo pos (starEach [e] env)) []) Q s₂) s₁) s')
    (ho : plainBase o = true := by rfl) (he : isStarred e = false := by rfl) (hp : (ap.endLine == pos.line) = true := by rfl) :
    Wp w A (eval (.Call (.Attribute o name ap) [e] [] pos) env) Q s' :=
  meth_ ho (by rw [starEach_ns he]; rfl) (by simp) hp g
theorem meth0 {o : Expr} {name : Str} {ap : Pos}
    (g : Wp w A (eval o env) (fun ov s₁ => Wp w A (getMethod ov name (do return (← importBound o env).getD true)) (fun fx s₂ => Wp w A (callWith pos fx.1 fx.2 (backTo pos (starEach [] env)) []) Q s₂) s₁) s')
    (ho : plainBase o = true := by rfl) (hp : (ap.endLine == pos.line) = true := by rfl) :
    Wp w A (eval (.Call (.Attribute o name ap) [] [] pos) env) Q s' :=
  meth_ ho rfl (by simp) hp g
theorem meth2 {o e e' : Expr} {name : Str} {ap : Pos}
    (g : Wp w A (eval o env) (fun ov s₁ => Wp w A (getMethod ov name (do return (← importBound o env).getD true)) (fun fx s₂ => Wp w A (callWith pos fx.1 fx.2 (backTo pos (starEach [e, e'] env)) []) Q s₂) s₁) s')
    (ho : plainBase o = true := by rfl) (he : isStarred e = false := by rfl) (he' : isStarred e' = false := by rfl) (hp : (ap.endLine == pos.line) = true := by rfl) :
    Wp w A (eval (.Call (.Attribute o name ap) [e, e'] [] pos) env) Q s' :=
  meth_ ho (by rw [starEach_ns he, starEach_ns he']; rfl) (by simp) hp g
theorem bi1 {id : String} {first : List Value} {e : Expr} (g : Wp w A (eval e env) (fun v s₁ => Wp w A (call (.builtin id) (first ++ [v]) []) Q s₁) s') (he : isStarred e = false := by rfl) :
    Wp w A (callWith pos (.builtin id) first (backTo pos (starEach [e] env)) []) Q s' :=
  args1 (fun _ => True) he (fun h _ => keeps_builtin id h) (g.mono fun _ _ z => ⟨trivial, z⟩)
theorem bi2 {id : String} {first : List Value} {e e' : Expr} (g : Wp w A (eval e env) (fun v s₁ => Wp w A (eval e' env) (fun v' s₂ => Wp w A (call (.builtin id) (first ++ [v, v']) []) Q s₂) s₁) s') (he : isStarred e = false := by rfl) (he' : isStarred e' = false := by rfl) :
    Wp w A (callWith pos (.builtin id) first (backTo pos (starEach [e, e'] env)) []) Q s' :=
  args2 (fun _ => True) he he' (fun h _ => keeps_builtin id h) (g.mono fun _ _ z => z.mono fun _ _ z => ⟨trivial, z⟩)
theorem gJoin {x : Str} {t : Tok} {pl : Sem Bool} {Q : Value × List Value → Shared → Prop} (g : Q (.builtin "str.join", [.str x t]) s') : Wp w A (getMethod (.str x t) "join" pl) Q s' := ⟨GM.join g⟩
theorem gSplit {x : Str} {t : Tok} {pl : Sem Bool} {Q : Value × List Value → Shared → Prop} (g : Q (.builtin "str.split", [.str x t]) s') : Wp w A (getMethod (.str x t) "split" pl) Q s' := ⟨GM.split g⟩
end

theorem fillB_ (P : Params) : Challenge.rw_pg0178_01.prog = Challenge.rw_pg0178_01.prog ∧ hd.heap_39 P = hd.heap_39 P := by
  k_fill
  exact ⟨rfl, rfl⟩
section
variable {P : Params}
theorem n_len : nsIn (hd.heap_39 P) mainGlobals "len" = some none := by k_is
theorem n_sum : nsIn (hd.heap_39 P) mainGlobals "sum" = some none := by k_is
theorem n_max : nsIn (hd.heap_39 P) mainGlobals "max" = some none := by k_is
theorem n_hex : nsIn (hd.heap_39 P) mainGlobals "hex" = some none := by k_is
theorem n_range : nsIn (hd.heap_39 P) mainGlobals "range" = some none := by k_is
theorem n_str : nsIn (hd.heap_39 P) mainGlobals "str" = some none := by k_is
theorem n_tuple : nsIn (hd.heap_39 P) mainGlobals "tuple" = some none := by k_is
end

/-! ### comprehensions -/
abbrev tupO (items : Array Value) (n : Nat) : Obj := { cls := .type "tuple", data := .seq items n }
/-- every tuple stays -/
def Tk (h h' : Heap) : Prop := ∀ b items n, h.get? b = some (tupO items n) → h'.get? b = some (tupO items n)
theorem Up.tk {h h' : Heap} (u : Up h h') : Tk h h' := fun b _ _ e => u b _ e
theorem Tk.trans {a b c : Heap} (x : Tk a b) (y : Tk b c) : Tk a c := fun p i n e => y p i n (x p i n e)

theorem Paired.mono {α β : Type} {F G : α → β → Prop} (h : ∀ a b, F a b → G a b) : ∀ {l₁ : List α} {l₂ : List β}, Paired F l₁ l₂ → Paired G l₁ l₂
  | _, _, .nil => .nil
  | _, _, .cons x r => .cons (h _ _ x) (Paired.mono h r)

/-- a clause's tests -/
def tests_ (ifs : List Expr) (env : Env) : Sem Bool := forIn ifs true fun c r => if r = true then do let ok ← isTrue c env (eval c env); pure (ForInStep.yield ok) else pure (ForInStep.yield r)
theorem tests0 {w : World} {A : Around} {s : Shared} {env : Env} {Q : Bool → Shared → Prop} (g : Q true s) : Wp w A (tests_ [] env) Q s := ⟨wpAny_tests_nil g⟩
theorem tests1 {w : World} {A : Around} {s : Shared} {env : Env} {c : Expr} {Q : Bool → Shared → Prop} (g : Wp w A (isTrue c env (eval c env)) Q s) : Wp w A (tests_ [c] env) Q s := ⟨wpAny_tests_one g.any⟩
/-- what a comprehension's tests and element do, from the heap at hand -/
structure Quiet (w : World) (A : Around) (env : Env) (scope : Scope) (cl : List (Str × Addr)) (x : Str) (ifs : List Expr) (elt : Expr) (I : Addr) (h : Heap) (P : Nat → Value → Prop) (p : Value → Bool) (F : Heap → Value → Value → Prop) : Prop where
  tests : ∀ C i v s' h₂ tk₂ m₂, P i v → h₂.Ns C m₂ → m₂ x = some v → (∀ b o, b ≠ I → h.get? b = some o → h₂.get? b = some o) →
    Wp w A (tests_ ifs (compEnvC scope cl C env)) (fun ok s₃ => ok = p v ∧ ∃ h₃ tk₃, s₃ = St s' h₃ tk₃ ∧ Up h₂ h₃) (St s' h₂ tk₂)
  elt : ∀ C i v s' h₂ tk₂ m₂, P i v → p v = true → h₂.Ns C m₂ → m₂ x = some v → (∀ b o, b ≠ I → h.get? b = some o → h₂.get? b = some o) →
    Wp w A (eval elt (compEnvC scope cl C env)) (fun y s₃ => ∃ h₃ tk₃, s₃ = St s' h₃ tk₃ ∧ Up h₂ h₃ ∧ F h₃ v y) (St s' h₂ tk₂)

theorem tk_sameBut {h h' : Heap} {b : Addr} (hs : Heap.SameBut b h h') (hb : ∀ i n, h.get? b ≠ some (tupO i n)) : Tk h h' := fun a i n e =>
  (hs.2 a fun q => hb i n (q ▸ e)).trans e
theorem ns_no_tup {h : Heap} {C : Addr} {m : Str → Option Value} (hn : h.Ns C m) : ∀ i n, h.get? C ≠ some (tupO i n) := fun i n e => by
  obtain ⟨o, es, ep, ho, hd, _⟩ := hn
  rw [ho] at e; cases e; cases hd

section
variable {w : World} {A : Around} {R : Result → Shared → Prop} {s : Shared} {env : Env} {E : Value → Shared → Prop}
theorem compLoop_ {elt iter : Expr} {x : Str} {px : Pos} {ifs : List Expr} {scope : Scope} {cl : List (Str × Addr)} {pos : Pos} {I C D : Addr} {fp : List Addr} {n : Nat} {P : Nat → Value → Prop} {Sx : Nat → Heap → Prop} {hb h : Heap} {tk : Nat} {m : Str → Option Value}
    (W : Walks PR w A I fp [I] n P Sx) (hI : ∀ i h, Sx i h → ∃ o, h.get? I = some o ∧ o.cls ≠ .type "tuple") (p : Value → Bool) (F : Heap → Value → Value → Prop) (hF : ∀ h h' v y, F h v y → Tk h h' → F h' v y)
    (hx : (compEnvC scope cl C env).kindOf x = some .local) (hk : scope.kind = .function)
    (hDC : D ≠ C) (hDf : D ∉ fp) (hCf : C ∉ fp) (hDb : hb.get? D = none) (hCb : hb.get? C = none)
    (hst : Sx 0 h) (hacc : h.PlainList D #[]) (hn : h.Ns C m) (hkeep : ∀ b o, b ≠ I → hb.get? b = some o → h.get? b = some o)
    (q : Quiet w A env scope cl x ifs elt I hb P p F)
    (hR : ∀ h' tk m' ys (vs : List Value), h'.Ns C m' → h'.PlainList D ys → vs.length = n → (∀ j v, vs[j]? = some v → P j v) → Paired (F h') (vs.filter p) ys.toList →
      (∀ b o, b ≠ I → hb.get? b = some o → h'.get? b = some o) → R (.ok .next) (St s h' tk))
    (hsz : n ≤ sizeLine := by size_fits) :
    codeAny (model PR w) A (.compLoop (.ListComp elt [⟨.Name x px, iter, ifs, 0⟩] scope pos) 0 (.ref I) (.ref D) (compEnvC scope cl C env)) R (St s h tk) := by
  have hp : ((compEnvC scope cl C env).scope.kind == .class || ((compEnvC scope cl C env).scope.kind == .module && (compEnvC scope cl C env).locals != (compEnvC scope cl C env).globals)) = false := by
    simp [compEnvC, relabel, hk]
  have hIf : I ∈ fp := W.sub _ (.head _)
  have hCI : C ≠ I := fun e => hCf (e ▸ hIf)
  have hDI : D ≠ I := fun e => hDf (e ▸ hIf)
  refine codeAny_compLoop_tests
    (fun k s' => ∃ h' tk m' ys, ∃ vs : List Value, s' = St s h' tk ∧ Sx vs.length h' ∧ h'.PlainList D ys ∧ h'.Ns C m' ∧ (∀ j v, vs[j]? = some v → P j v) ∧
      Paired (F h') (vs.filter p) ys.toList ∧ vs.length ≤ n ∧ k = n + 1 - vs.length ∧ (∀ b o, b ≠ I → hb.get? b = some o → h'.get? b = some o)) ?_ (n + 1)
    ⟨h, tk, m, #[], [], rfl, hst, hacc, hn, by simp, by simpa using Paired.nil, Nat.zero_le _, rfl, hkeep⟩
  rintro k s' ⟨H, tk', m', ys, vs, rfl, hst', hacc', hn', hP, hF', hi, rfl, hkp⟩
  have nb : ∀ b o, hb.get? b = some o → b ≠ C ∧ b ≠ D := fun b o e => ⟨fun q => (by rw [q, hCb] at e; cases e), fun q => (by rw [q, hDb] at e; cases e)⟩
  by_cases hlt : vs.length < n
  · refine W.item vs.length _ _ _ hlt hst' fun v h₁ tk₁ hPv hst₁ hk₁ => ?_
    have tk₁' : Tk H h₁ := fun b i c e => hk₁ b _ (fun hb' => by
      obtain ⟨o, ho, hoc⟩ := hI _ _ hst'
      rw [List.mem_singleton.mp hb', ho] at e
      rw [Option.some.inj e] at hoc
      exact hoc rfl) e
    have kI : ∀ b o, b ≠ I → H.get? b = some o → h₁.get? b = some o := fun b o hbI e => hk₁ b o (fun z => hbI (List.mem_singleton.mp z)) e
    refine wpAny_assign_Name (wpAny_storeName_local hx (hn'.at' fun o e => kI _ o hCI e) (fun h₂ hn₂ hs₂ => ?_) hp)
    have tk₂' : Tk h₁ h₂ := tk_sameBut hs₂ (ns_no_tup (hn'.at' fun o e => kI _ o hCI e))
    have up₂ : ∀ b o, b ≠ C → b ≠ I → H.get? b = some o → h₂.get? b = some o := fun b o hbC hbI e => hs₂.extBut b o hbC (kI b o hbI e)
    have hst₂ : Sx (vs.length + 1) h₂ := W.frame _ _ _ hst₁ fun b hb o e => hs₂.extBut b o (fun h => hCf ((show b = C from h) ▸ hb)) e
    refine (q.tests C vs.length v s h₂ (tk₁ + 1) _ hPv hn₂ (by simp) fun b o hbI e => up₂ b o (nb b o e).1 hbI (hkp b o hbI e)).nest (fun ok s₃ h₃ => ?_)
    obtain ⟨rfl, h₃, tk₃, rfl, hk₃⟩ := h₃
    have hst₃ : Sx (vs.length + 1) h₃ := W.frame _ _ _ hst₂ fun b _ o e => hk₃ b o e
    have hacc₃ : h₃.PlainList D ys := hacc'.at fun o e => hk₃ _ o (up₂ D o hDC hDI e)
    have hn₃ := hn₂.keeps hk₃
    have hP' : ∀ j u, (vs ++ [v])[j]? = some u → P j u := fun j u hj => by
      rcases Nat.lt_trichotomy j vs.length with h | h | h
      · exact hP j u (by rwa [List.getElem?_append_left h] at hj)
      · subst h; simp at hj; subst hj; exact hPv
      · have hnone : (vs ++ [v])[j]? = none := List.getElem?_eq_none (by rw [List.length_append, List.length_singleton]; omega)
        rw [hnone] at hj; cases hj
    have hF₃ : Paired (F h₃) (vs.filter p) ys.toList := Paired.mono (fun a b z => hF _ _ _ _ z ((tk₁'.trans tk₂').trans (Up.tk hk₃))) hF'
    cases hpv : p v with
    | false =>
      simp only [Bool.false_eq_true, if_false]
      refine ⟨n + 1 - (vs.length + 1), by omega, h₃, tk₃, _, ys, vs ++ [v], rfl, by simpa using hst₃, hacc₃, hn₃, hP', ?_, (by rw [List.length_append, List.length_singleton]; exact hlt), (by rw [List.length_append, List.length_singleton]), fun b o hbI e => hk₃ b o (up₂ b o (nb b o e).1 hbI (hkp b o hbI e))⟩
      rw [List.filter_append]; simpa [hpv] using hF₃
    | true =>
      simp only [if_true]
      refine (q.elt C vs.length v s h₃ tk₃ _ hPv hpv hn₃ (by simp) fun b o hbI e => hk₃ b o (up₂ b o (nb b o e).1 hbI (hkp b o hbI e))).nest (fun y s₄ h₄ => ?_)
      obtain ⟨h₄, tk₄, rfl, hk₄, hFy⟩ := h₄
      have hys : ys.size ≤ sizeLine := by
        have e1 := hF'.length
        have e2 : (vs.filter p).length ≤ vs.length := List.length_filter_le _ _
        have e4 : ys.toList.length = ys.size := by simp
        omega
      have hacc₄ : h₄.PlainList D ys := hacc₃.at fun o e => hk₄ _ o e
      refine wpAny_list_append_plain (hsz := hys) hacc₄ fun h₅ hl₅ hs₅ => ?_
      have tk₅ : Tk h₄ h₅ := tk_sameBut hs₅ fun i c e => by
        obtain ⟨c', e'⟩ := hacc₄
        rw [e'] at e
        exact absurd (show Value.type "list" = Value.type "tuple" from congrArg Obj.cls (Option.some.inj e)) (by decide)
      refine ⟨n + 1 - (vs.length + 1), by omega, h₅, tk₄, _, ys.push y, vs ++ [v], rfl, ?_, hl₅, (hn₃.keeps hk₄).sameBut hs₅ (Ne.symm hDC), hP', ?_, (by rw [List.length_append, List.length_singleton]; exact hlt), (by rw [List.length_append, List.length_singleton]),
        fun b o hbI e => hs₅.extBut b o (nb b o e).2 (hk₄ b o (hk₃ b o (up₂ b o (nb b o e).1 hbI (hkp b o hbI e))))⟩
      · have := W.frame _ _ h₅ hst₃ fun b hb o e => hs₅.extBut b o (fun h => hDf (h ▸ hb)) (hk₄ b o e)
        simpa using this
      · rw [List.filter_append]
        have := Paired.snoc (Paired.mono (fun a b z => hF _ _ _ _ z ((Up.tk hk₄).trans tk₅)) hF₃) (hF _ _ _ _ hFy tk₅)
        simpa [hpv] using this
  · have hin : vs.length = n := by omega
    refine W.done _ _ _ (hin ▸ hst') fun h₁ tk₁ hk₁ => ?_
    have kI : ∀ b o, b ≠ I → H.get? b = some o → h₁.get? b = some o := fun b o hbI e => hk₁ b o (fun z => hbI (List.mem_singleton.mp z)) e
    have tk₁' : Tk H h₁ := fun b i c e => hk₁ b _ (fun hb' => by
      obtain ⟨o, ho, hoc⟩ := hI _ _ hst'
      rw [List.mem_singleton.mp hb', ho] at e
      rw [Option.some.inj e] at hoc
      exact hoc rfl) e
    exact hR h₁ tk₁ m' ys vs (hn'.at' fun o e => kI _ o hCI e) (hacc'.at fun o e => kI _ o hDI e) hin hP (Paired.mono (fun a b z => hF _ _ _ _ z tk₁') hF') fun b o hbI e => kI b o hbI (hkp b o hbI e)

/-- a comprehension stands before its iterator -/
def CompAt (w : World) (A : Around) (env : Env) (scope : Scope) (cl : List (Str × Addr)) (x : Str) (ifs : List Expr) (elt : Expr) (p : Value → Bool) (F : Heap → Value → Value → Prop) (Q : Value → Shared → Prop) (it : Value) (s₂ : Shared) : Prop :=
  ∃ s hb tk I fp n P Sx, s₂ = St s hb tk ∧ it = .ref I ∧ Walks PR w A I fp [I] n P Sx ∧ (∀ i h, Sx i h → ∃ o, h.get? I = some o ∧ o.cls ≠ .type "tuple") ∧ n ≤ sizeLine ∧ Sx 0 hb ∧ (∀ b ∈ fp, b < hb.objs.size) ∧
    Quiet w A env scope cl x ifs elt I hb P p F ∧
    ∀ D h' tk' ys nn (vs : List Value), hb.get? D = none → h'.get? D = some (listOf ys nn) → vs.length = n → (∀ j v, vs[j]? = some v → P j v) → Paired (F h') (vs.filter p) ys.toList →
      (∀ b o, b ≠ I → hb.get? b = some o → h'.get? b = some o) → Q (.ref D) (St s h' tk')

theorem compBlock_ {elt iter : Expr} {x : Str} {px : Pos} {ifs : List Expr} {scope : Scope} {cl : List (Str × Addr)} {pos : Pos} {it : Value} {s₂ : Shared} {RR : Value → Addr → Result → Shared → Prop} {Q : Value → Shared → Prop} (p : Value → Bool) (F : Heap → Value → Value → Prop) (hF : ∀ h h' v y, F h v y → Tk h h' → F h' v y)
    (hcell : ∀ y ∈ scope.names, y.2 ≠ .cell) (hkind : scope.kind = .function) (hx : scope.names.lookup x = some .local)
    (h : CompAt w A env scope cl x ifs elt p F Q it s₂)
    (hRR : ∀ D C h' tk m' s, h'.Ns C m' → (∀ h'', Heap.SameBut C h' h'' → Q (.ref D) (St s h'' tk)) → RR (.ref D) C (.ok .next) (St s h' tk)) :
    wpAny (model PR w) A (newList []) (fun acc s₃ => wpAny (model PR w) A (newFunctionEnv scope env.globals cl [] env.qual none .none (some env)) (fun cenv s₄ =>
      codeAny (model PR w) A (.compStart (.ListComp elt [⟨.Name x px, iter, ifs, 0⟩] scope pos) 0 it acc { cenv with scope := relabel scope env }) (RR acc cenv.locals) s₄) E s₃) E s₂ := by
  obtain ⟨s, hb, tk, I, fp, n, P, Sx, rfl, rfl, W, hI, hsz, hst, hfp, q, hQ⟩ := h
  refine wpAny_newObj_type (s := St s hb tk) (wpAny_newFunctionEnv hcell (by intro y hy; simp at hy) (fun h₁ hns₁ hsb₁ => ?_) hkind)
  dsimp only at hns₁ hsb₁ ⊢
  simp only [St_heap] at hns₁ hsb₁ ⊢
  generalize hH2 : hb.push { cls := .type "list", dict := none, data := .seq ([] : List Value).toArray } = H2 at hns₁ hsb₁ ⊢
  have hC : H2.objs.size = hb.objs.size + 1 := by rw [← hH2, Heap.size_push]
  have hDC : hb.objs.size ≠ H2.objs.size := by rw [hC]; exact Nat.ne_of_lt (Nat.lt_succ_self _)
  have below : ∀ b, b < hb.objs.size → b ≠ H2.objs.size ∧ b ≠ hb.objs.size := fun b hb => ⟨by rw [hC]; exact Nat.ne_of_lt (Nat.lt_succ_of_lt hb), Nat.ne_of_lt hb⟩
  have hDf : hb.objs.size ∉ fp := fun hm => Nat.lt_irrefl _ (hfp _ hm)
  have hCf : H2.objs.size ∉ fp := fun hm => by have := hfp _ hm; rw [hC] at this; exact Nat.lt_irrefl _ (Nat.lt_of_succ_lt this)
  have old : ∀ b o, hb.get? b = some o → h₁.get? b = some o := fun b o e => hsb₁.extBut b o (below b (Heap.lt_size e)).1 (Heap.get?_push_of_some _ (hH2 ▸ Heap.get?_push_of_some _ e))
  have hacc : h₁.PlainList hb.objs.size #[] := ⟨_, hsb₁.extBut _ _ hDC (Heap.get?_push_of_some _ (hH2 ▸ Heap.get?_push_size _ rfl))⟩
  have hst₁ : Sx 0 h₁ := W.frame _ _ _ hst fun b _ o e => old b o e
  have fresh : ∀ a, hb.objs.size ≤ a → hb.get? a = none := fun a ha => by
    cases e : hb.get? a with
    | none => rfl
    | some o' => exact absurd (Heap.lt_size e) (Nat.not_lt.mpr ha)
  have loop : codeAny (model PR w) A (.compLoop (.ListComp elt [⟨.Name x px, iter, ifs, 0⟩] scope pos) 0 (.ref I) (.ref hb.objs.size) (compEnvC scope cl H2.objs.size env)) (RR (.ref hb.objs.size) H2.objs.size) (St s h₁ (tk + 0)) := by
    refine compLoop_ (hsz := hsz) (hb := hb) W hI p F hF (lookup_relabel_local hx) hkind hDC hDf hCf (get?_size hb) (fresh _ (by rw [hC]; exact Nat.le_succ _)) hst₁ hacc hns₁ (fun b o _ e => old b o e) q fun h' tk' m' ys vs hn' hpl hlen hP hFp hk => ?_
    refine hRR _ _ h' tk' m' s hn' fun h'' hs'' => ?_
    obtain ⟨nn, hnn⟩ := hpl
    exact hQ _ h'' tk' ys nn vs (get?_size hb) (hs''.extBut _ _ hDC hnn) hlen hP (Paired.mono (fun a b z => hF _ _ _ _ z (tk_sameBut hs'' (ns_no_tup hn'))) hFp) fun b o hbI e => hs''.extBut b o (below b (Heap.lt_size e)).1 (hk b o hbI e)
  exact codeAny_compStart_list loop (W.self 0 _ _ _ hst₁ loop)

theorem comp_ {elt iter : Expr} {x : Str} {px : Pos} {ifs : List Expr} {scope : Scope} {cl : List (Str × Addr)} {pos : Pos} {Q : Value → Shared → Prop} (p : Value → Bool) (F : Heap → Value → Value → Prop) (hF : ∀ h h' v y, F h v y → Tk h h' → F h' v y)
    (hclos : closureFor scope env = pure cl) (hcell : ∀ y ∈ scope.names, y.2 ≠ .cell) (hkind : scope.kind = .function)
    (hnames : ∀ y ∈ scope.names, y.2 = .local → scope.names.lookup y.1 = some .local) (hx : scope.names.lookup x = some .local)
    (g : Wp w A (eval iter env) (fun xv s₁ => Wp w A (pyIter xv) (CompAt w A env scope cl x ifs elt p F Q) s₁) s)
    (hs : ∀ x, foldedSetIterable iter env x = pure x := by intro _; rfl) :
    Wp w A (eval (.ListComp elt [⟨.Name x px, iter, ifs, 0⟩] scope pos) env) Q s := by
  refine ⟨?_⟩
  rw [eval_ListComp]
  refine wpAny_comprehension_free (use := none) rfl hs hclos hkind hnames (g.nest fun xv s₁ h₁ => h₁.nest fun it s₂ h₂ => ?_)
  refine compBlock_ (RR := fun acc C => compPost (model PR w) A (fun _ _ => False) none Q acc C) p F hF hcell hkind hx h₂ ?_
  intro D C h' tk m' s hn hq
  exact ⟨m', hn, hq⟩

/-- .. the value of an assignment to a local -/
theorem compTo_ {elt iter : Expr} {x y : Str} {px py : Pos} {ifs : List Expr} {scope : Scope} {cl : List (Str × Addr)} {pos spos : Pos} {Q : Flow → Shared → Prop} (p : Value → Bool) (F : Heap → Value → Value → Prop) (hF : ∀ h h' v y, F h v y → Tk h h' → F h' v y)
    (hsw : swapsWith (.ListComp elt [⟨.Name x px, iter, ifs, 0⟩] scope pos) (some (.Name y py)) spos.line env = pure true)
    (hclos : closureFor scope env = pure cl) (hcell : ∀ z ∈ scope.names, z.2 ≠ .cell) (hkind : scope.kind = .function)
    (hnames : ∀ z ∈ scope.names, z.2 = .local → scope.names.lookup z.1 = some .local) (hx : scope.names.lookup x = some .local)
    (g : Wp w A (eval iter env) (fun xv s₁ => Wp w A (pyIter xv) (CompAt w A env scope cl x ifs elt p F (fun v s' => ∀ C, (∃ m, s'.heap.Ns C m) → Wp w A (storeName env y v) (fun _ s'' => ∃ m, s''.heap.Ns C m ∧ ∀ h', Heap.SameBut C s''.heap h' → Q .next { s'' with heap := h' }) s')) s₁) s)
    (hs : ∀ x, foldedSetIterable iter env x = pure x := by intro _; rfl) :
    Wp w A (exec (.Assign [.Name y py] (.ListComp elt [⟨.Name x px, iter, ifs, 0⟩] scope pos) spos) env) Q s := by
  refine ⟨?_⟩
  rw [exec_Assign_Name_used _ _ _ _ hsw]
  refine wpAny_bind (wpAny_standAt (wpAny_bind ?_))
  show wpAny _ A (do let _ ← comprehension (.ListComp elt [⟨.Name x px, iter, ifs, 0⟩] scope pos) scope env _ (newList []) false (eval iter env) (some (assign (.Name y py) env))) _ _ s
  refine wpAny_bind (wpAny_mono (wpAny_comprehension_free (use := some (assign (.Name y py) env)) (Q := fun _ s' => Q .next s') rfl hs hclos hkind hnames
    (g.nest fun xv s₁ h₁ => h₁.nest fun it s₂ h₂ => ?_)) (fun _ s' hq => wpAny_pure (wpAny_pure hq)) fun _ _ e => e)
  refine compBlock_ (RR := fun acc C => compPost (model PR w) A (fun _ _ => False) (some (assign (.Name y py) env)) (fun _ s' => Q .next s') acc C) p F hF hcell hkind hx h₂ ?_
  intro D C h' tk m' s hn hq
  refine wpAny_assign_Name ?_
  exact (hq h' (Heap.SameBut.refl ..) C ⟨m', hn⟩).any
end

def IntV (n : Int) (v : Value) : Prop := ∃ t, v = .int n t
def StrV (x : Str) (v : Value) : Prop := ∃ t, v = .str x t

theorem ints_paired {vs : List Value} {ns : List Int} (h : IntsAre vs ns) : Paired IntV ns vs := by
  induction h with
  | nil => exact .nil
  | cons n t _ ih => exact .cons ⟨t, rfl⟩ ih
theorem paired_ints {vs : List Value} : ∀ {ns : List Int}, Paired IntV ns vs → IntsAre vs ns := by
  intro ns h
  induction h with
  | nil => exact .nil
  | cons h _ ih => obtain ⟨t, rfl⟩ := h; exact .cons _ t ih
theorem Paired.get {α β : Type} {F : α → β → Prop} : ∀ {l₁ : List α} {l₂ : List β}, Paired F l₁ l₂ → ∀ {i : Nat} {b : β}, l₂[i]? = some b → ∃ a, l₁[i]? = some a ∧ F a b
  | _, _, .nil, i, b, h => by simp at h
  | _, _, .cons (a := a) (b := b') hf r, 0, b, h => by simp at h; subst h; exact ⟨a, rfl, hf⟩
  | _, _, .cons hf r, i + 1, b, h => by
    simp only [List.getElem?_cons_succ] at h ⊢
    exact Paired.get r h
theorem Paired.mem {α β : Type} {F : α → β → Prop} : ∀ {l₁ : List α} {l₂ : List β}, Paired F l₁ l₂ → ∀ {b : β}, b ∈ l₂ → ∃ a ∈ l₁, F a b
  | _, _, .cons (a := a) hf r, b, h => by
    rcases List.mem_cons.mp h with rfl | h
    · exact ⟨a, .head _, hf⟩
    · obtain ⟨a', ha, hf'⟩ := Paired.mem r h; exact ⟨a', .tail _ ha, hf'⟩
/-- the source is read by R, the tests answer by pI, the element by gI -/
theorem paired_map {α β : Type} {R : α → Value → Prop} {R' : β → Value → Prop} {G : Value → Value → Prop} {p : Value → Bool} (pI : α → Bool) (gI : α → β) (hp : ∀ a v, R a v → p v = pI a) :
    ∀ {as : List α} {vs ys : List Value}, Paired R as vs → (∀ a v y, a ∈ as → R a v → G v y → R' (gI a) y) → Paired G (vs.filter p) ys → Paired R' ((as.filter pI).map gI) ys := by
  intro as vs ys h
  induction h generalizing ys with
  | nil => intro _ g; cases g; exact .nil
  | cons hr r ih =>
    rename_i a v as' vs'
    intro hG g
    rw [List.filter_cons] at g ⊢
    rw [← hp _ _ hr]
    cases hpv : p v with
    | false =>
      rw [hpv] at g
      simp only [Bool.false_eq_true, if_false] at g ⊢
      exact ih (fun a' v' y' ha => hG a' v' y' (.tail _ ha)) g
    | true =>
      rw [hpv] at g
      simp only [if_true] at g ⊢
      cases g with
      | cons g1 g2 => exact .cons (hG _ _ _ (.head _) hr g1) (ih (fun a' v' y' ha => hG a' v' y' (.tail _ ha)) g2)

section
variable {w : World} {A : Around} {s : Shared} {h : Heap} {tk : Nat} {env : Env} {a b : Int} {t u : Tok}
theorem compAt_list {scope : Scope} {cl : List (Str × Addr)} {x : Str} {ifs : List Expr} {elt : Expr} {p : Value → Bool} {F : Heap → Value → Value → Prop} {Q : Value → Shared → Prop} {l : Addr} {vs : List Value} (hh : A.handled = none) (hl : h.IsList l vs.toArray) (hsz : vs.length ≤ sizeLine)
    (tests : ∀ C v s' h₂ tk₂ m₂, v ∈ vs → h₂.Ns C m₂ → m₂ x = some v → Up h h₂ →
      Wp w A (tests_ ifs (compEnvC scope cl C env)) (fun ok s₃ => ok = p v ∧ ∃ h₃ tk₃, s₃ = St s' h₃ tk₃ ∧ Up h₂ h₃) (St s' h₂ tk₂))
    (elt' : ∀ C v s' h₂ tk₂ m₂, v ∈ vs → p v = true → h₂.Ns C m₂ → m₂ x = some v → Up h h₂ →
      Wp w A (eval elt (compEnvC scope cl C env)) (fun y s₃ => ∃ h₃ tk₃, s₃ = St s' h₃ tk₃ ∧ Up h₂ h₃ ∧ F h₃ v y) (St s' h₂ tk₂))
    (k : ∀ D h' tk' ys nn, h.get? D = none → h'.get? D = some (listOf ys nn) → Paired (F h') (vs.filter p) ys.toList → Up h h' → Q (.ref D) (St s h' tk')) :
    Wp w A (pyIter (.ref l)) (CompAt w A env scope cl x ifs elt p F Q) (St s h tk) := by
  obtain ⟨ol, hol, hol'⟩ := id hl
  refine ⟨wpAny_pyIter_list (s := St s h tk) hl ?_⟩
  have hne : l ≠ h.objs.size := Nat.ne_of_lt (Heap.lt_size hol)
  have W := Walks.list (prog := PR) (w := w) hh h.objs.size l hne vs.toArray
  have up : ∀ {h₂ : Heap}, (∀ b o, b ≠ h.objs.size → (h.push { cls := .type "list_iterator", data := .fields #[.ref l, .int 0 0] }).get? b = some o → h₂.get? b = some o) → Up h h₂ :=
    fun hk b o e => hk b o (Nat.ne_of_lt (Heap.lt_size e)) (Heap.get?_push_of_some _ e)
  refine ⟨s, _, tk, h.objs.size, _, _, _, _, rfl, rfl, W, fun i h' st => ?_, by simpa using hsz, ⟨⟨_, Heap.get?_push_size _ rfl, rfl, rfl⟩, ⟨ol, Heap.get?_push_of_some _ hol, hol'⟩⟩, fun b hb => ?_,
    ⟨fun C i v s' h₂ tk₂ m₂ hP hn hm hk => tests C v s' h₂ tk₂ m₂ (List.mem_of_getElem? (by simpa using hP)) hn hm (up hk), fun C i v s' h₂ tk₂ m₂ hP hpv hn hm hk => elt' C v s' h₂ tk₂ m₂ (List.mem_of_getElem? (by simpa using hP)) hpv hn hm (up hk)⟩, fun D h' tk' ys nn vs' hD ho hlen hP hF hk => ?_⟩
  · obtain ⟨⟨o, ho, hc, _⟩, _⟩ := st
    exact ⟨o, ho, by rw [hc]; decide⟩
  · rw [Heap.size_push]
    rcases List.mem_cons.mp hb with rfl | hb
    · exact Nat.lt_succ_self _
    · rw [List.mem_singleton.mp hb]; exact Nat.lt_succ_of_lt (Heap.lt_size hol)
  · have e : vs' = vs := by
      refine List.ext_getElem? fun j => ?_
      cases q : vs'[j]? with
      | some v => have := hP j v q; simp at this; exact this.symm
      | none =>
        have h1 := List.getElem?_eq_none_iff.mp q
        exact (List.getElem?_eq_none_iff.mpr (by simp at hlen; omega)).symm
    subst e
    refine k D h' tk' ys nn ?_ ho hF (up hk)
    cases q : h.get? D with
    | none => rfl
    | some o => exact absurd ((Heap.get?_push_of_some _ q).symm.trans hD) (by simp)

/-- the ints of a range -/
def rng (a : Int) (n : Nat) : List Int := (List.range n).map fun i : Nat => a + (i : Int)
theorem rng_get {a : Int} {n i : Nat} (h : i < n) : (rng a n)[i]? = some (a + (i : Int)) := by simp [rng, h]
theorem rng_length (a : Int) (n : Nat) : (rng a n).length = n := by simp [rng]
theorem mem_rng {a k : Int} {n : Nat} (h : k ∈ rng a n) : a ≤ k ∧ k < a + n := by
  obtain ⟨i, hi, rfl⟩ := List.mem_map.mp h
  have := List.mem_range.mp hi
  omega

theorem compAt_range {scope : Scope} {cl : List (Str × Addr)} {x : Str} {ifs : List Expr} {elt : Expr} {p : Value → Bool} {F : Heap → Value → Value → Prop} {Q : Value → Shared → Prop} {r : Addr} {u' v' : Tok} {n : Nat} (hh : A.handled = none) (hr : IsRange h r a b 1 t u' v') (ha : -1000 ≤ a) (hb : b ≤ 1000) (hab : b = a + (n : Int))
    (tests : ∀ C k tz s' h₂ tk₂ m₂, k ∈ rng a n → h₂.Ns C m₂ → m₂ x = some (.int k tz) → Up h h₂ →
      Wp w A (tests_ ifs (compEnvC scope cl C env)) (fun ok s₃ => ok = p (.int k tz) ∧ ∃ h₃ tk₃, s₃ = St s' h₃ tk₃ ∧ Up h₂ h₃) (St s' h₂ tk₂))
    (elt' : ∀ C k tz s' h₂ tk₂ m₂, k ∈ rng a n → p (.int k tz) = true → h₂.Ns C m₂ → m₂ x = some (.int k tz) → Up h h₂ →
      Wp w A (eval elt (compEnvC scope cl C env)) (fun y s₃ => ∃ h₃ tk₃, s₃ = St s' h₃ tk₃ ∧ Up h₂ h₃ ∧ F h₃ (.int k tz) y) (St s' h₂ tk₂))
    (k : ∀ D h' tk' ys nn vs, h.get? D = none → h'.get? D = some (listOf ys nn) → Paired IntV (rng a n) vs → Paired (F h') (vs.filter p) ys.toList → Up h h' → Q (.ref D) (St s h' tk')) :
    Wp w A (pyIter (.ref r)) (CompAt w A env scope cl x ifs elt p F Q) (St s h tk) := by
  have hn : Builtin.Range.rangeSize a b 1 = (n : Int) := by rw [rangeSize_nat]; omega
  refine ⟨wpAny_pyIter_range (s := St s h tk) hr (small_one (by omega) (by omega) (by omega) (by omega)) ?_⟩
  have W := Walks.range (prog := PR) (w := w) hh h.objs.size a 1 n
  have W' : Walks PR w A h.objs.size [h.objs.size] [h.objs.size] n (fun i v => i < n ∧ ∃ t, v = .int (a + i * 1) t) (fun i h' => IsRangeIter h' h.objs.size (a + (i : Nat) * 1) ((n : Int) - (i : Nat)) 1) := W.bound
  have up : ∀ {h₂ : Heap}, (∀ b' o, b' ≠ h.objs.size → (h.push { cls := .type "range_iterator", data := .fields #[rawInt a, rawInt (Builtin.Range.rangeSize a b 1), rawInt 1] }).get? b' = some o → h₂.get? b' = some o) → Up h h₂ :=
    fun hk b o e => hk b o (Nat.ne_of_lt (Heap.lt_size e)) (Heap.get?_push_of_some _ e)
  have hm : ∀ {i : Nat}, i < n → a + (i : Int) * 1 ∈ rng a n := fun {i} hi => List.mem_of_getElem? (i := i) (by rw [rng_get hi]; simp)
  refine ⟨s, _, tk, h.objs.size, _, _, _, _, rfl, rfl, W', fun i h' st => ⟨_, st, (by decide : (Value.type "range_iterator" ≠ Value.type "tuple"))⟩, ?_, ?_, fun b' hb' => ?_,
    ⟨?_, ?_⟩, fun D h' tk' ys nn vs' hD ho hlen hP hF hk => ?_⟩
  · rw [sizeLine_eq]; omega
  · show IsRangeIter _ _ _ _ _
    rw [hn]; simpa [St_heap] using Heap.get?_push_size _ rfl
  · rw [List.mem_singleton.mp hb', Heap.size_push]; exact Nat.lt_succ_self _
  · rintro C i v s' h₂ tk₂ m₂ ⟨hi, tz, rfl⟩ hn hm' hk
    exact tests C _ tz s' h₂ tk₂ m₂ (hm hi) hn hm' (up hk)
  · rintro C i v s' h₂ tk₂ m₂ ⟨hi, tz, rfl⟩ hpv hn hm' hk
    exact elt' C _ tz s' h₂ tk₂ m₂ (hm hi) hpv hn hm' (up hk)
  · refine k D h' tk' ys nn vs' ?_ ho ?_ hF (up hk)
    · cases q : h.get? D with
      | none => rfl
      | some o => exact absurd ((Heap.get?_push_of_some _ q).symm.trans hD) (by simp)
    · have gen : ∀ (m : Nat) (c : Int) (ws : List Value), ws.length = m → (∀ (j : Nat) (v : Value), ws[j]? = some v → ∃ t, v = .int (c + (j : Int)) t) → Paired IntV (rng c m) ws := by
        intro m
        induction m with
        | zero => intro c ws hl _; rw [List.length_eq_zero_iff.mp hl]; exact .nil
        | succ m ih =>
          intro c ws hl hw
          cases ws with
          | nil => cases hl
          | cons v ws =>
            have e : rng c (m + 1) = c :: rng (c + 1) m := by
              unfold rng
              rw [List.range_succ_eq_map, List.map_cons, List.map_map]
              simp only [Int.natCast_zero, Int.add_zero, List.cons.injEq, true_and]
              refine List.map_congr_left fun i _ => ?_
              simp only [Function.comp]; omega
            rw [e]
            refine .cons ?_ (ih _ ws (by simpa using hl) fun j v hv => ?_)
            · obtain ⟨t, ht⟩ := hw 0 v rfl; exact ⟨t, by simpa using ht⟩
            · obtain ⟨t, ht⟩ := hw (j + 1) v hv; exact ⟨t, by rw [ht]; congr 1; omega⟩
      refine gen n a vs' hlen fun j v hv => ?_
      obtain ⟨_, t, ht⟩ := hP j v hv
      exact ⟨t, by rw [ht]; congr 1; omega⟩
end

/-! ## WC -/
theorem str_len_append (a b : Str) : (a ++ b).length = a.length + b.length := by
  show (a.cps ++ b.cps).size = _
  simp [Str.length]
theorem paired_strs {vs : List Value} : ∀ {xs : List Str}, Paired StrV xs vs → StrsAre vs xs := by
  intro ns h
  induction h with
  | nil => exact .nil
  | cons h _ ih => obtain ⟨t, rfl⟩ := h; exact .cons _ t ih
theorem strs_paired {vs : List Value} {xs : List Str} (h : StrsAre vs xs) : Paired StrV xs vs := by
  induction h with
  | nil => exact .nil
  | cons n t _ ih => exact .cons ⟨t, rfl⟩ ih
theorem Heap.IsList.up {h h' : Heap} {l : Addr} {its : Array Value} (x : h.IsList l its) (u : Up h h') : h'.IsList l its := let ⟨o, a, b⟩ := x; ⟨o, u _ _ a, b⟩
theorem isList_of {h : Heap} {D : Addr} {ys : Array Value} {n : Nat} (e : h.get? D = some (listOf ys n)) : h.IsList D ys.toList.toArray := ⟨_, e, rfl, n, rfl⟩

section
variable {h₀ h h' : Heap} {L : Addr} {m : Str → Option Value} {news : List (Addr × Obj)} {o : Obj}
theorem Cx.pushed (c : Cx h₀ L h m news) (F' : Fr h₀ L h' m) (N' : News h₀ L h' ((h.objs.size, o) :: news)) : Cx h₀ L h' m ((h.objs.size, o) :: news) :=
  ⟨F', N', List.nodup_cons.mpr ⟨fun hm => by
    obtain ⟨p, hp, e⟩ := List.mem_map.mp hm
    exact absurd (Heap.lt_size (c.N p hp).1) (e ▸ Nat.lt_irrefl _), c.D⟩⟩
end

section
variable {w : World} {A : Around} {s : Shared} {h : Heap} {tk : Nat} {env : Env} {pos : Pos} {Q : Value → Shared → Prop} {t u : Tok}
theorem mkList_ {vs : List Value} (hz : vs.length ≤ 1000) (g : ∀ D h', h.get? D = none → h'.get? D = some (listOf vs.toArray 0) → Up h h' → Q (.ref D) (St s h' tk)) : Wp w A (newList vs) Q (St s h tk) :=
  ⟨wpAny_newObj_type (s := St s h tk) (g _ _ (get?_size h) (Heap.get?_push_size _ rfl) fun _ _ e => Heap.get?_push_of_some _ e) (by show vs.toArray.size ≤ sizeLine; rw [List.size_toArray, sizeLine_eq]; omega)⟩
theorem mkTup_ {vs : List Value} (hz : vs.length ≤ 1000) (g : ∀ D h', h.get? D = none → h'.get? D = some (tupO vs.toArray 0) → Up h h' → Q (.ref D) (St s h' tk)) : Wp w A (newTuple vs) Q (St s h tk) :=
  ⟨wpAny_newObj_type (s := St s h tk) (g _ _ (get?_size h) (Heap.get?_push_size _ rfl) fun _ _ e => Heap.get?_push_of_some _ e) (by show vs.toArray.size ≤ sizeLine; rw [List.size_toArray, sizeLine_eq]; omega)⟩
/-- the items of a display -/
def items_ (elts : List Expr) (env : Env) (pos : Pos) : Sem (List Value) := spliced (backTo pos (starEach elts env))
theorem items0 {Q : List Value → Shared → Prop} {s : Shared} (g : Q [] s) : Wp w A (items_ [] env pos) Q s := ⟨spliced_nil g⟩
theorem items1 {e : Expr} {rest : List Expr} {Q : List Value → Shared → Prop} {s : Shared} (g : Wp w A (eval e env) (fun v s₁ => Wp w A (items_ rest env pos) (fun vs s₂ => Q (v :: vs) s₂) s₁) s) (he : isStarred e = false := by rfl) : Wp w A (items_ (e :: rest) env pos) Q s := by
  refine ⟨?_⟩
  unfold items_
  rw [starEach_ns he, backTo_1]
  exact spliced_cons (g.nest fun _ _ z => z.any)
theorem eList {elts : List Expr} {s : Shared} (g : Wp w A (items_ elts env pos) (fun vs s₁ => Wp w A (newList vs) Q s₁) s) : Wp w A (eval (.List elts pos) env) Q s := ⟨List_ g.dn⟩
theorem eTup {elts : List Expr} {k : Nat} {s : Shared} (g : Wp w A (items_ elts env pos) (fun vs s₁ => Wp w A (newTuple vs) Q s₁) s) : Wp w A (eval (.Tuple elts k pos) env) Q s := ⟨Tuple_ g.dn⟩
/-- a display of texts -/
theorem strItems {Q : List Value → Shared → Prop} : ∀ (xs : List (Str × Nat × Pos)) {tk : Nat}, (∀ vs tk', Paired StrV (xs.map (·.1)) vs → Q vs (St s h tk')) → Wp w A (items_ (xs.map fun x => .Constant (.str x.1) x.2.1 x.2.2) env pos) Q (St s h tk)
  | [], _, g => items0 (g _ _ .nil)
  | x :: r, _, g => items1 (cStr fun _ t' => strItems r fun vs tk' hp => g _ _ (.cons ⟨t', rfl⟩ hp))

theorem addL_ {h₀ : Heap} {L : Addr} {m : Str → Option Value} {news : List (Addr × Obj)} {l b : Addr} {vs ws : List Value} (c : Cx h₀ L h m news) (hl : h.IsList l vs.toArray) (hb : h.IsList b ws.toArray) (hz : vs.length + ws.length ≤ 1000)
    (g : ∀ D h', Cx h₀ L h' m ((D, listOf (vs ++ ws).toArray 0) :: news) → Q (.ref D) (St s h' tk)) : Wp w A (binaryOp .Add (.ref l) (.ref b)) Q (St s h tk) :=
  ⟨add_lists (s := St s h tk) (hsz := by rw [sizeLine_eq]; omega) c.F c.N hl hb fun h' F' N' => g _ h' (c.pushed F' N')⟩
theorem itemL_ {value slice : Expr} {l : Addr} {vs : List Value} {k : Int} {x : Value} {s : Shared} (hl : s.heap.IsList l vs.toArray) (h0 : 0 ≤ k) (h1 : k ≤ 1000) (hx : vs[k.toNat]? = some x) (g : Q x s)
    (hs : subscripted slice false (.ref l) (.int k t) = operate [.ref l, .int k t] (getItem (.ref l) (.int k t)) := by with_unfolding_all rfl) (hg : ∀ r, letTemporaryGo value (.ref l) r = pure () := by intro _; with_unfolding_all rfl) :
    Wp w A (subscriptTail value slice (.ref l) (.int k t)) Q s := ⟨subscriptTail_builtin hl.typeIs list_getitem_lookup (getItem_listL hl h0 (by omega) hx g) hs hg⟩
theorem itemS_ {value slice : Expr} {x : Str} {i : Int} (hr : fitsSsize i = true) (hin : (Txt.charAt x i).isSome = true) (g : ∀ tk' t', Q (.str (Txt.item x i) t') (St s h tk'))
    (hs : subscripted slice false (.str x u) (.int i t) = operate [.str x u, .int i t] (getItem (.str x u) (.int i t)) := by with_unfolding_all rfl) (hg : ∀ r, letTemporaryGo value (.str x u) r = pure () := by intro _; with_unfolding_all rfl) :
    Wp w A (subscriptTail value slice (.str x u) (.int i t)) Q (St s h tk) := ⟨subscriptTail_builtin (typeIs_str (St s h tk) x u) F.slot_str_getitem.lookup (SB.getItem hr hin (g _ _)) hs hg⟩
theorem stC {x : Str} {h₀ : Heap} {m : Str → Option Value} {C : Addr} {o : Obj} {v₀ : Option Value} {v : Value} {pre post : List (Addr × Obj)} {Q : Unit → Shared → Prop} (c : Cx h₀ env.locals h m (pre ++ (C, o) :: post))
    (hc : env.cells.lookup x = some C) (hd : o.data = .cell v₀) (g : ∀ h' o', Cx h₀ env.locals h' m (pre ++ (C, o') :: post) → o'.data = .cell (some v) → Q () (St s h' tk))
    (hk : env.scope.kind = .function := by rfl) (hl : env.kindOf x = some .cell := by kernel_rfl) : Wp w A (storeName env x v) Q (St s h tk) :=
  ⟨wpAny_storeName_cell (s := St s h tk) hk hl hc ⟨o, (c.N (C, o) (List.mem_append_right _ (.head _))).1, hd⟩ fun h' hv hs => by
    obtain ⟨o', ho', hd'⟩ := hv
    exact g h' o' (c.set hs ho') hd'⟩
theorem gApp {l : Addr} {its : Array Value} {n : Nat} {pl : Sem Bool} {s : Shared} {Q : Value × List Value → Shared → Prop} (hl : s.heap.get? l = some (listOf its n)) (g : Q (.builtin "list.append", [.ref l]) s) : Wp w A (getMethod (.ref l) "append" pl) Q s :=
  ⟨getMethod_list_of PySem.F.slot_list_append PySem.F.type_list_append (l := l) (items := its) ⟨_, hl, rfl, n, rfl⟩ ⟨_, hl, rfl⟩ g⟩
theorem app_ {h₀ : Heap} {L : Addr} {m : Str → Option Value} {D : Addr} {its : Array Value} {n : Nat} {v : Value} {post : List (Addr × Obj)} (c : Cx h₀ L h m ((D, listOf its n) :: post)) (hz : its.size ≤ 1000)
    (g : ∀ h' n', Cx h₀ L h' m ((D, listOf (its.push v) n') :: post) → Q .none (St s h' tk)) : Wp w A (call (.builtin "list.append") [.ref D, v]) Q (St s h tk) :=
  ⟨wpAny_list_append_plain (s := St s h tk) (hsz := by rw [sizeLine_eq]; omega) ⟨n, (c.N _ (.head _)).1⟩ fun h' hl hs => by
    obtain ⟨n', hn'⟩ := hl
    exact g h' n' (Cx.set (pre := []) c hs hn')⟩
theorem hex_ {i : Int} (hz : (baseText "0x" 16 i).length ≤ 1000) (g : ∀ tk' t', Q (.str (baseText "0x" 16 i) t') (St s h tk')) : Wp w A (call (.builtin "hex") [.int i t]) Q (St s h tk) := ⟨P.hex_of_int (s := St s h tk) (g _ _) (by rw [sizeLine_eq]; omega)⟩
theorem tNot {x : Expr} {whole : Sem Value} {Q : Bool → Shared → Prop} {s : Shared} (g : Wp w A (isTrue x env (eval x env)) (fun b s₁ => Q (!b) s₁) s) : Wp w A (isTrue (.UnaryOp .Not x pos) env whole) Q s := ⟨wpAny_isTrue_Not g.any⟩
theorem join_ {x : Str} {D : Addr} {ys : List Value} {xs : List Str} (hl : h.IsList D ys.toArray) (hi : Paired StrV xs ys) (hw : (xs.map (·.length)).sum + xs.length ≤ 10000) (hs : x.length ≤ 16)
    (g : ∀ tk' t', Q (.str (Txt.join x xs) t') (St s h tk')) : Wp w A (call (.builtin "str.join") [.str x t, .ref D]) Q (St s h tk) :=
  ⟨join_listW hl (paired_strs hi) hs (by omega) fun t' k => g k t'⟩
end

/-! ## Pl1 -/
def lowA : List Str := ["OPTIMIZED", "NEWLOCALS", "VARARGS", "VARKEYWORDS", "NESTED", "GENERATOR", "NOFREE", "COROUTINE"]
def lowB : List Str := ["ITERABLE_COROUTINE", "ASYNC_GENERATOR"]
def hexDig (k : Int) : Str := Txt.item "1248" (Int.fmod k 4)
def nameI (k : Int) : Str := if k < 10 then (lowA ++ lowB).getD k.toNat "" else ("0x" ++ hexDig k) ++ Txt.mul "0" (Int.fdiv k 4)
def nameOf (k : Nat) : Str := nameI (k : Int)
/-- the names of the bits of r, the lowest is i's -/
def bn : Nat → Nat → Nat → List Str
  | 0, _, _ => []
  | n + 1, i, r => if r % 2 = 1 then nameOf i :: bn n (i + 1) (r / 2) else bn n (i + 1) (r / 2)
def flagNames (N : Nat) : List Str := if N = 0 then ["0x0"] else bn 32 0 N
def flagD : List (Int × PyData) := [(1, .str "OPTIMIZED"), (2, .str "NEWLOCALS"), (4, .str "VARARGS"), (8, .str "VARKEYWORDS"), (16, .str "NESTED"), (32, .str "GENERATOR"), (64, .str "NOFREE"), (128, .str "COROUTINE"), (256, .str "ITERABLE_COROUTINE"), (512, .str "ASYNC_GENERATOR")]
def isStrD (d : PyData) (x : Str) : Bool := match d with | .str y => y == x | _ => false
theorem isStrD_eq {d : PyData} {x : Str} (h : isStrD d x = true) : d = .str x := by
  cases d <;> first | (cases h; done) | (simp [isStrD] at h; rw [h])
theorem name_tab : ∀ i : Nat, i < 32 → (isStrD (((KTD.datumAt ((2 ^ i : Nat) : Int) flagD)).getD (.str (baseText "0x" 16 ((2 ^ i : Nat) : Int)))) (nameOf i) && decide ((nameOf i).length ≤ 18) && decide ((baseText "0x" 16 ((2 ^ i : Nat) : Int)).length ≤ 18)) = true := by
  decide +kernel
theorem hex_zero : baseText "0x" 16 0 = "0x0" := by decide +kernel

theorem band_nat (a b : Nat) : Builtin.bitAnd (a : Int) (b : Int) = ((a &&& b : Nat) : Int) := by
  unfold Builtin.bitAnd
  simp
theorem land_pow (r i : Nat) : (r * 2 ^ i) &&& 2 ^ i = (r % 2) * 2 ^ i := by
  have h : (r * 2 ^ i) &&& (1 * 2 ^ i) = (r &&& 1) * 2 ^ i := by
    rw [← Nat.shiftLeft_eq, ← Nat.shiftLeft_eq, ← Nat.shiftLeft_eq, Nat.shiftLeft_and_distrib]
  rw [Nat.one_mul] at h
  rw [h, Nat.and_one_is_mod]
theorem band_pow (r i : Nat) : Builtin.bitAnd ((r * 2 ^ i : Nat) : Int) ((2 ^ i : Nat) : Int) = (((r % 2) * 2 ^ i : Nat) : Int) := by
  rw [band_nat, land_pow]
theorem bxor_pow {r i : Nat} (h : r % 2 = 1) : Builtin.bitXor ((r * 2 ^ i : Nat) : Int) ((2 ^ i : Nat) : Int) = (((r / 2) * 2 ^ (i + 1) : Nat) : Int) := by
  rw [bitXor_and, band_pow, h, Nat.one_mul]
  have e : r * 2 ^ i = (r / 2) * 2 ^ (i + 1) + 2 ^ i := by
    have : r = 2 * (r / 2) + 1 := by omega
    calc r * 2 ^ i = (2 * (r / 2) + 1) * 2 ^ i := by rw [← this]
      _ = (r / 2) * 2 ^ (i + 1) + 2 ^ i := by rw [Nat.pow_succ, Nat.add_mul, Nat.one_mul, Nat.mul_comm 2 (r / 2), Nat.mul_assoc, Nat.mul_comm 2 (2 ^ i)]
  rw [e]
  push_cast
  omega
theorem half_pow {r i : Nat} (h : r % 2 = 0) : r * 2 ^ i = (r / 2) * 2 ^ (i + 1) := by
  have : r = 2 * (r / 2) := by omega
  calc r * 2 ^ i = (2 * (r / 2)) * 2 ^ i := by rw [← this]
    _ = (r / 2) * 2 ^ (i + 1) := by rw [Nat.pow_succ, Nat.mul_comm 2 (r / 2), Nat.mul_assoc, Nat.mul_comm 2 (2 ^ i)]
theorem pow_ne {r i : Nat} (h : r ≠ 0) : (((r * 2 ^ i : Nat) : Int) != 0) = true := by
  have : r * 2 ^ i ≠ 0 := Nat.mul_ne_zero h (Nat.pos_iff_ne_zero.mp (Nat.pow_pos (n := i) (show 0 < 2 by decide)))
  exact bne_iff_ne.mpr (by exact_mod_cast this)
theorem bn_zero : ∀ (n i : Nat), bn n i 0 = []
  | 0, _ => rfl
  | n + 1, i => by unfold bn; simpa using bn_zero n (i + 1)

/-! ## Col -/
local macro_rules | `(tactic| walk_at "lk") => `(tactic| first | (with_reducible exact if_pos rfl) | (with_reducible assumption) | (refine (if_neg (by decide +kernel)).trans ?_; walk_at "lk") | exact lk1 | exact lk2 | exact lk3 (by decide +kernel))
local macro_rules | `(tactic| walk_at "enter") => `(tactic| (all_goals (try (first | k_is | exact rfl | exact BindsTo.of_eq rfl | exact locs rfl | decide +kernel))))
local macro_rules | `(tactic| walk_at "nolk") => `(tactic| (repeat (refine (if_neg (by decide +kernel)).trans ?_); exact rfl))
local macro_rules | `(tactic| walk_at "comp") => `(tactic| ((case qclos => with_unfolding_all rfl); (case qcell => decide); (case qkind => exact rfl); (case qnames => decide); (case qx => exact rfl)))
theorem fill5_ (P : Params) : Challenge.rw_pg0178_01.prog = Challenge.rw_pg0178_01.prog ∧ hd.heap_39 P = hd.heap_39 P := by
  k_fill
  exact ⟨rfl, rfl⟩

def colStep (size c r : Int) : Int := Int.fdiv (c + r) size * size + size
def colL (runs : List Int) (size : Int) : Int := runs.foldl (colStep size) 0

theorem colStep_bd {size c r : Int} (h1 : 1 ≤ size) (h6 : size ≤ 6) (hc : 0 ≤ c) (hr : 0 ≤ r) (hr6 : r ≤ 6) : 0 ≤ colStep size c r ∧ colStep size c r ≤ c + 12 := by
  unfold colStep
  have hs : 0 < size := by omega
  have e : Int.fdiv (c + r) size = (c + r) / size := Int.fdiv_eq_ediv_of_nonneg _ (by omega)
  rw [e]
  have a := Int.ediv_mul_le (c + r) (b := size) (by omega)
  have b : 0 ≤ (c + r) / size * size := Int.mul_nonneg (Int.ediv_nonneg (by omega) (by omega)) (by omega)
  omega

theorem fold_bd {size : Int} (h1 : 1 ≤ size) (h6 : size ≤ 6) : ∀ {l : List Int}, (∀ r ∈ l, 0 ≤ r ∧ r ≤ 6) → 0 ≤ l.foldl (colStep size) 0 ∧ l.foldl (colStep size) 0 ≤ 12 * l.length := by
  intro l
  suffices ∀ c : Int, 0 ≤ c → (∀ r ∈ l, 0 ≤ r ∧ r ≤ 6) → 0 ≤ l.foldl (colStep size) c ∧ l.foldl (colStep size) c ≤ c + 12 * l.length by
    intro hl; have := this 0 (by omega) hl; omega
  induction l with
  | nil => intro c hc _; simp; omega
  | cons n r ih =>
    intro c hc hl
    have hn := hl n (.head _)
    have := colStep_bd (c := c) h1 h6 hc hn.1 hn.2
    have := ih (colStep size c n) this.1 fun r hr => hl r (.tail _ hr)
    simp only [List.foldl_cons, List.length_cons]
    omega

section
variable {w : World} {A : Around} {s : Shared} {hp : Heap} {tk : Nat}
theorem column_spec {k : Nat} {l : Addr} {vs : List Value} {ns : List Int} {size : Int} {t : Tok} {R : Result → Shared → Prop} (G : Gd w hp) (hA : Ao A (k + 1))
    (hl : hp.IsList l vs.toArray) (hi : IntsAre vs ns) (hn : ∀ r ∈ ns, 0 ≤ r ∧ r ≤ 6) (hlen : ns.length ≤ 6) (h1 : 1 ≤ size) (h6 : size ≤ 6)
    (g : ∀ h' tk' t', Up hp h' → R (.ok (.ret (.int (colL ns size) t'))) (St s h' tk')) :
    Co w A (.call (.ref 119) ⟨[.ref l, .int size t], []⟩) R (St s hp tk) := by
  refine' enter [("runs", .ref l), ("size", .int size t)] G hA ?ho ?hcd ?hb ?hl ?_ ?hcell ?hco ?hgen ?hk
  walk_at "enter"
  intro L h₁ c a
  refine xcons (xasg (cInt fun _ _ => stL c fun h₂ tk₂ c₂ => ?_))
  refine xcons (for_ (nmX c₂ (by walk_at "lk") ?_))
  refine iter_list (fun i m nx => nx = [] ∧ (∃ t, m "column" = some (.int ((ns.take i).foldl (colStep size) 0) t)) ∧ m "size" = some (.int size t)) a.hh hl c₂ ⟨rfl, ⟨_, if_pos rfl⟩, by walk_at "lk"⟩ ?_ ?_
  · rintro i v m₁ nx h₃ tk₃ own hv ⟨rfl, ⟨tc, hc⟩, hz⟩ c₃
    obtain ⟨n, hin⟩ : ∃ n, ns[i]? = some n := by
      have := (List.getElem?_eq_some_iff.mp hv).1
      exact ⟨ns[i]'(hi.length ▸ this), by simp⟩
    obtain ⟨tn, hx⟩ := hi.get i n hin
    obtain rfl : v = .int n tn := by rw [hx] at hv; exact (Option.some.inj hv).symm
    have hb : 0 ≤ (ns.take i).foldl (colStep size) 0 ∧ (ns.take i).foldl (colStep size) 0 ≤ 12 * (ns.take i).length := fold_bd h1 h6 fun r hr => hn r (List.mem_of_mem_take hr)
    have hnn := hn n (List.mem_of_getElem? hin)
    have hlt : (ns.take i).length ≤ 6 := Nat.le_trans (List.length_take_le' ..) hlen
    refine xname (stL c₃ fun h₄ tk₄ c₄ => ?_)
    refine xcons <| xasg <| eBin <| eBin <| eBin <| eBin <| nmX c₄ (by walk_at "lk") <| nmX c₄ (by walk_at "lk") <| add_ fun _ _ => nmX c₄ (by walk_at "lk") <| fdiv_ (by omega) (by omega) fun _ _ => nmX c₄ (by walk_at "lk") <| mul_ ?_ fun _ _ => nmX c₄ (by walk_at "lk") <| add_ fun _ _ => stL c₄ fun h₅ tk₅ c₅ => xnil ?_
    · have := colStep_bd (c := (ns.take i).foldl (colStep size) 0) h1 h6 hb.1 hnn.1 hnn.2
      have e : Int.fdiv ((ns.take i).foldl (colStep size) 0 + n) size = ((ns.take i).foldl (colStep size) 0 + n) / size := Int.fdiv_eq_ediv_of_nonneg _ (by omega)
      rw [e]
      have a := Int.ediv_le_self (a := (ns.take i).foldl (colStep size) 0 + n) size (by omega)
      have b : 0 ≤ ((ns.take i).foldl (colStep size) 0 + n) / size := Int.ediv_nonneg (by omega) (by omega)
      omega
    have e : (ns.take (i + 1)).foldl (colStep size) 0 = Int.fdiv ((ns.take i).foldl (colStep size) 0 + n) size * size + size := by
      rw [List.take_add_one, hin]; simp [colStep]
    exact TurnE.intro (nx := []) rfl c₅ ⟨rfl, ⟨_, by rw [e]; walk_at "lk"⟩, by walk_at "lk"⟩
  · rintro h' tk' m' nx ⟨rfl, ⟨tc, hc⟩, hz⟩ c'
    refine xnil (xcons (xret (nmX c' hc ?_)))
    have e : ns.take vs.length = ns := List.take_of_length_le (Nat.le_of_eq hi.length.symm)
    rw [e]
    exact g _ _ _ c'.F.keep
end

/-! ## Mul -/
theorem fill3_ (P : Params) : Challenge.rw_pg0178_01.prog = Challenge.rw_pg0178_01.prog ∧ hd.heap_39 P = hd.heap_39 P := by
  k_fill
  exact ⟨rfl, rfl⟩

def multF (ns : List Int) (size : Int) : List Int := ns.filter fun n => Int.fmod n size == 0
def multL (ns : List Int) (size : Int) : Int := ((multF ns size).length : Int)

section
variable {w : World} {A : Around} {s : Shared} {hp : Heap} {tk : Nat}
theorem multiples_spec {k : Nat} {l : Addr} {vs : List Value} {ns : List Int} {size : Int} {t : Tok} {R : Result → Shared → Prop} (G : Gd w hp) (hA : Ao A (k + 1))
    (hl : hp.IsList l vs.toArray) (hi : IntsAre vs ns) (hlen : ns.length ≤ 6) (h1 : size ≠ 0)
    (g : ∀ h' tk' t', Up hp h' → R (.ok (.ret (.int (multL ns size) t'))) (St s h' tk')) :
    Co w A (.call (.ref 124) ⟨[.ref l, .int size t], []⟩) R (St s hp tk) := by
  refine' enterC [("numbers", .ref l), ("size", .int size t)] G hA ?ho ?hcd ?hb ?hl ?_ ?hnd ?hco ?hgen ?hk
  walk_at "enter"
  intro L h₁ tk₁ cells c X a
  obtain ⟨o, rfl, ho⟩ := CellsAre.one X
  have hlv : vs.length ≤ 6 := by rw [hi.length]; exact hlen
  refine xcons <| xret <| callB (G.up c.F.keep) n_len b_len ?_
  refine' comp_ (cl := [("size", L + 1)]) (fun v => match v with | .int n _ => Int.fmod n size == 0 | _ => false) (fun _ v y => y = v) (fun _ _ _ _ e _ => e) ?qclos ?qcell ?qkind ?qnames ?qx ?_
  case qclos => with_unfolding_all rfl
  case qcell => decide
  case qkind => exact rfl
  case qnames => decide
  case qx => exact rfl
  have hl₁ : h₁.IsList l vs.toArray := Heap.IsList.up hl c.F.keep
  have hc : h₁.IsCell (L + 1) (some (.int size t)) := ⟨o, c.N.get (.head _), ho.trans (by with_unfolding_all rfl)⟩
  refine nmX c (by with_unfolding_all rfl) (compAt_list (vs := vs) a.hh hl₁ (by rw [sizeLine_eq]; omega) ?_ ?_ ?_)
  · intro C v s' h₂ tk₂ m₂ hv hn hm u
    obtain ⟨n, hn', tn, rfl⟩ := Paired.mem (ints_paired hi) hv
    exact tests1 <| tCmp <| eBin <| nmL (s := St s' h₂ tk₂) (env := compEnvC _ _ C _) hn hm <| nmC (c := L + 1) (by with_unfolding_all rfl) (hc.keeps u) <| fmod_ h1 fun _ _ => cInt fun _ _ => eEq <| tBool ⟨rfl, _, _, rfl, Up.refl _⟩
  · intro C v s' h₂ tk₂ m₂ hv _ hn hm u
    exact nmL (s := St s' h₂ tk₂) (env := compEnvC _ _ C _) hn hm ⟨_, _, rfl, Up.refl _, rfl⟩
  · intro D h' tk' ys nn hD ho' hP u
    have hys := paired_map (R := IntV) (R' := IntV) (fun n => Int.fmod n size == 0) id (by rintro n v ⟨t, rfl⟩; rfl) (ints_paired hi) (by rintro n v y _ ⟨t, rfl⟩ rfl; exact ⟨t, rfl⟩) hP
    rw [List.map_id] at hys
    have hlen' : ys.toList.length ≤ 6 := by rw [← hys.length]; exact Nat.le_trans (List.length_filter_le _ _) hlen
    refine len_ (vs := ys.toList) ⟨_, ho', rfl, nn, rfl⟩ (by omega) fun tk'' t'' => ?_
    rw [← hys.length]
    exact g _ _ _ (Up.trans c.F.keep u)
end

/-! ## Lead -/
theorem fill4_ (P : Params) : Challenge.rw_pg0178_01.prog = Challenge.rw_pg0178_01.prog ∧ hd.heap_39 P = hd.heap_39 P := by
  k_fill
  exact ⟨rfl, rfl⟩

def leadOf (n : Int) : Str := Txt.mul " " n ++ "\t"
def leadS (ns : List Int) : Str := Txt.join "" (ns.map leadOf)

theorem six_cases {P : Int → Prop} (h : ∀ i : Nat, i < 7 → P (i : Int)) {n : Int} (h0 : 0 ≤ n) (h6 : n ≤ 6) : P n := by
  have := h n.toNat (by omega)
  rwa [Int.toNat_of_nonneg h0] at this
theorem mulOk_space {n : Int} (h0 : 0 ≤ n) (h6 : n ≤ 6) : MulOk " " n := by
  refine six_cases (P := fun n => MulOk " " n) (fun i hi => ?_) h0 h6
  have : ∀ i : Nat, i < 7 → MulOk " " (i : Int) := by
    unfold MulOk
    decide +kernel
  exact this i hi
theorem leadOf_len {n : Int} (h0 : 0 ≤ n) (h6 : n ≤ 6) : (Txt.mul " " n).length ≤ 6 := by
  refine six_cases (P := fun n => (Txt.mul " " n).length ≤ 6) (fun i hi => ?_) h0 h6
  have : ∀ i : Nat, i < 7 → (Txt.mul " " (i : Int)).length ≤ 6 := by decide +kernel
  exact this i hi

section
variable {w : World} {A : Around} {s : Shared} {h : Heap} {tk : Nat} {t u : Tok}
theorem lead_spec {k : Nat} {l : Addr} {vs : List Value} {ns : List Int} {R : Result → Shared → Prop} (G : Gd w h) (hA : Ao A (k + 1))
    (hl : h.IsList l vs.toArray) (hi : IntsAre vs ns) (hn : ∀ r ∈ ns, 0 ≤ r ∧ r ≤ 6) (hlen : ns.length ≤ 6)
    (g : ∀ h' tk' t', Up h h' → R (.ok (.ret (.str (leadS ns) t'))) (St s h' tk')) :
    Co w A (.call (.ref 112) ⟨[.ref l], []⟩) R (St s h tk) := by
  have hlv : vs.length ≤ 6 := by rw [hi.length]; exact hlen
  refine' enter [("runs", .ref l)] G hA ?ho ?hcd ?hb ?hl ?_ ?hcell ?hco ?hgen ?hk
  walk_at "enter"
  intro L h₁ c a
  refine xcons <| xret <| meth1 <| cStr fun _ _ => gJoin <| bi1 ?_
  refine' comp_ (cl := []) (fun _ => true) (fun _ v y => ∀ n t, v = .int n t → StrV (leadOf n) y) (fun _ _ _ _ e _ => e) ?qclos ?qcell ?qkind ?qnames ?qx ?_
  case qclos => with_unfolding_all rfl
  case qcell => decide
  case qkind => exact rfl
  case qnames => decide
  case qx => exact rfl
  have hl₁ : h₁.IsList l vs.toArray := Heap.IsList.up hl c.F.keep
  refine nmX c (by walk_at "lk") <| compAt_list (vs := vs) a.hh hl₁ (by rw [sizeLine_eq]; omega) ?_ ?_ ?_
  · intro C v s' h₂ tk₂ m₂ hv hn hm u
    exact tests0 ⟨rfl, _, _, rfl, Up.refl _⟩
  · intro C v s' h₂ tk₂ m₂ hv _ hnn hm u
    obtain ⟨n, hn', tn, rfl⟩ := Paired.mem (ints_paired hi) hv
    have hb := hn n hn'
    refine eBin <| eBin <| cStr fun _ _ => nmL (env := compEnvC _ _ C _) hnn hm <| mulS (mulOk_space hb.1 hb.2) fun _ _ => cStr fun _ _ => addS ?_ fun _ _ => ⟨_, _, rfl, Up.refl _, ?_⟩
    · have := leadOf_len hb.1 hb.2
      have e : ("\t" : Str).length = 1 := by decide +kernel
      omega
    · rintro n t e; cases e; exact ⟨_, rfl⟩
  · intro D h' tk' ys nn hD ho' hP u
    have hys := paired_map (R := IntV) (R' := StrV) (fun _ => true) leadOf (by rintro n v ⟨t, rfl⟩; rfl) (ints_paired hi) (by rintro n v y _ ⟨t, rfl⟩ e; exact e _ _ rfl) hP
    rw [List.filter_eq_self.mpr (fun _ _ => rfl)] at hys
    refine join_ (ys := ys.toList) ⟨_, ho', rfl, nn, rfl⟩ hys ?_ (by decide +kernel) fun tk'' t'' => ?_
    · have hs : ∀ {l : List Int}, (∀ r ∈ l, 0 ≤ r ∧ r ≤ 6) → ((l.map leadOf).map (·.length)).sum ≤ 7 * l.length := by
        intro l
        induction l with
        | nil => intro _; simp
        | cons a r ih =>
          intro hl
          have ha := hl a (.head _)
          have := ih fun r hr => hl r (.tail _ hr)
          have h1 := leadOf_len ha.1 ha.2
          have h2 : (leadOf a).length = (Txt.mul " " a).length + ("\t" : Str).length := str_len_append _ _
          have e : ("\t" : Str).length = 1 := by decide +kernel
          simp only [List.map_cons, List.sum_cons, List.length_cons]
          omega
      have := hs hn
      rw [List.length_map]
      omega
    · exact g _ _ _ (Up.trans c.F.keep u)
end

/-! ## Names -/
theorem fill7_ (P : Params) : Challenge.rw_pg0178_01.prog = Challenge.rw_pg0178_01.prog ∧ hd.heap_39 P = hd.heap_39 P := by
  k_fill
  exact ⟨rfl, rfl⟩

theorem nameHi : ∀ k : Nat, k < 32 → (10 ≤ k → (Txt.charAt "1248" (Int.fmod (k : Int) 4)).isSome = true ∧ fitsSsize (Int.fmod (k : Int) 4) = true ∧ ("0x" ++ hexDig (k : Int) : Str).length ≤ 20 ∧ (Txt.mul "0" (Int.fdiv (k : Int) 4)).length ≤ 20 ∧ (hexDig (k : Int)).length ≤ 20) := by
  decide +kernel
theorem nameMul : ∀ k : Nat, k < 32 → MulOk "0" (Int.fdiv (k : Int) 4) := by
  unfold MulOk
  decide +kernel
theorem upto32 {P : Int → Prop} (h : ∀ i : Nat, i < 32 → P (i : Int)) {n : Int} (h0 : 0 ≤ n) (h6 : n < 32) : P n := by
  have := h n.toNat (by omega)
  rwa [Int.toNat_of_nonneg h0] at this
section
variable {w : World} {A : Around} {s : Shared} {h : Heap} {tk : Nat} {t u : Tok}
theorem names_spec {k : Nat} {b : Int} {R : Result → Shared → Prop} (G : Gd w h) (hA : Ao A (k + 1)) (hb0 : 0 ≤ b) (hb1 : b ≤ 26)
    (g : ∀ h' tk' D ys nn, h.get? D = none → h'.get? D = some (listOf ys nn) → Paired StrV ((rng b 6).map nameI) ys.toList → Up h h' → R (.ok (.ret (.ref D))) (St s h' tk')) :
    Co w A (.call (.ref 107) ⟨[.int b t], []⟩) R (St s h tk) := by
  refine' enterC [("base", .int b t)] G hA ?ho ?hcd ?hb ?hl ?_ ?hnd ?hco ?hgen ?hk
  walk_at "enter"
  intro L h₁ tk₁ cells c X a
  obtain ⟨o, rfl, ho⟩ := CellsAre.one X
  have strs8 : ∀ {xs : List Str} {vs : List Value}, Paired StrV xs vs → vs.length = xs.length := fun h => h.length.symm
  refine xcons <| xasg <| eList <| strItems (lowA.zip [(_, _), (_, _), (_, _), (_, _), (_, _), (_, _), (_, _), (_, _)]) fun vs tk₂ hv => ?_
  have hvl : vs.length = 8 := strs8 hv
  refine mkList_ (by omega) fun D₁ h₂ hD ho₁ u₂ => ?_
  have c₂ := c.add u₂ hD ho₁
  refine stC (pre := [(D₁, _)]) (post := []) c₂ (by with_unfolding_all rfl) ho fun h₃ o₃ c₃ hd₃ => ?_
  refine xcons <| xasg <| eBin <| nmC (c := L + 1) (by with_unfolding_all rfl) ⟨o₃, c₃.N.get (.tail _ (.head _)), hd₃⟩ <| eList <| strItems (lowB.zip [(_, _), (_, _)]) fun ws tk₄ hw => ?_
  have hwl : ws.length = 2 := strs8 hw
  refine mkList_ (by omega) fun D₂ h₄ hD₂ ho₂ u₄ => ?_
  have c₄ := c₃.add u₄ hD₂ ho₂
  refine addL_ (vs := vs) (ws := ws) c₄ (c₄.isList (.tail _ (.head _))) (c₄.isList (.head _)) (by omega) fun D₃ h₅ c₅ => ?_
  refine stC (pre := [(D₃, _), (D₂, _), (D₁, _)]) (post := []) c₅ (by with_unfolding_all rfl) hd₃ fun h₆ o₆ c₆ hd₆ => ?_
  have hc : h₆.IsCell (L + 1) (some (.ref D₃)) := ⟨o₆, c₆.N.get (.tail _ (.tail _ (.tail _ (.head _)))), hd₆⟩
  have hlow : h₆.IsList D₃ (vs ++ ws).toArray := c₆.isList (.head _)
  have hpair : Paired StrV (lowA ++ lowB) (vs ++ ws) := by
    have app : ∀ {xs ys : List Str} {vs ws : List Value}, Paired StrV xs vs → Paired StrV ys ws → Paired StrV (xs ++ ys) (vs ++ ws) := by
      intro xs ys vs ws h1 h2
      induction h1 with
      | nil => exact h2
      | cons a b ih => exact .cons a ih
    exact app hv hw
  refine xcons <| xret ?_
  refine' comp_ (cl := [("low", L + 1)]) (fun _ => true) (fun _ v y => ∀ n t, v = .int n t → StrV (nameI n) y) (fun _ _ _ _ e _ => e) ?qclos ?qcell ?qkind ?qnames ?qx ?_
  case qclos => with_unfolding_all rfl
  case qcell => decide
  case qkind => exact rfl
  case qnames => decide
  case qx => exact rfl
  refine callT2 (G.up c₆.F.keep) n_range b_range <| nmX c₆ (by with_unfolding_all rfl) <| eBin <| nmX c₆ (by with_unfolding_all rfl) <| cInt fun _ _ => add_ fun _ _ => range2_ fun h₇ tk₇ rr t' u' v' hr u₇ => ?_
  refine compAt_range (n := 6) a.hh hr (by omega) (by omega) rfl ?_ ?_ ?_
  · intro C k tz s' h₂ tk₂ m₂ hk hn hm u
    exact tests0 ⟨rfl, _, _, rfl, Up.refl _⟩
  · intro C k tz s' h₈ tk₈ m₈ hk _ hn hm u
    have hkb := mem_rng hk
    refine eIf <| tCmp <| nmL (s := St s' h₈ tk₈) (env := compEnvC _ _ C _) hn hm <| cInt fun _ _ => eLt <| tBool ?_
    by_cases hlt : k < 10
    · simp only [decide_eq_true hlt, if_true]
      obtain ⟨x, hx⟩ : ∃ x, (vs ++ ws)[k.toNat]? = some x := ⟨(vs ++ ws)[k.toNat]'(by simp; omega), by simp⟩
      obtain ⟨nm, hnm, tx, rfl⟩ := Paired.get hpair hx
      refine eSub <| nmC (c := L + 1) (by with_unfolding_all rfl) ((hc.keeps u₇).keeps u) <| nmL (env := compEnvC _ _ C _) hn hm <| itemL_ (vs := vs ++ ws) (Heap.IsList.up hlow (Up.trans u₇ u)) (by omega) (by omega) hx ?_
      refine ⟨_, _, rfl, Up.refl _, ?_⟩
      rintro n t e; cases e
      refine ⟨tx, ?_⟩
      unfold nameI
      rw [if_pos hlt, List.getD_eq_getElem?_getD, hnm]; rfl
    · simp only [decide_eq_false hlt, Bool.false_eq_true, if_false]
      have hi := upto32 (P := fun k => 10 ≤ k → (Txt.charAt "1248" (Int.fmod k 4)).isSome = true ∧ fitsSsize (Int.fmod k 4) = true ∧ ("0x" ++ hexDig k : Str).length ≤ 20 ∧ (Txt.mul "0" (Int.fdiv k 4)).length ≤ 20 ∧ (hexDig k).length ≤ 20) (fun i hi e => nameHi i hi (by omega)) (n := k) (by omega) (by omega) (by omega)
      have hm' := upto32 (P := fun k => MulOk "0" (Int.fdiv k 4)) nameMul (n := k) (by omega) (by omega)
      obtain ⟨i1, i2, i3, i4, i5⟩ := hi
      have e2 : ("0x" : Str).length = 2 := by decide +kernel
      refine eBin <| eBin <| cStr fun _ _ => eSub <| cStr fun _ _ => eBin <| nmL (env := compEnvC _ _ C _) hn hm <| cInt fun _ _ => fmod_ (by omega) fun _ _ => itemS_ i2 i1 fun _ _ => addS ?_ fun _ _ =>
        eBin <| cStr fun _ _ => eBin <| nmL (env := compEnvC _ _ C _) hn hm <| cInt fun _ _ => fdiv_ (by omega) (by omega) fun _ _ => mulS hm' fun _ _ => addS ?_ fun _ tz' => ⟨_, _, rfl, Up.refl _, ?_⟩
      · rw [e2]; exact Nat.le_trans (Nat.add_le_add_left i5 2) (by omega)
      · exact Nat.le_trans (Nat.add_le_add i3 i4) (by omega)
      · rintro n t e; cases e
        refine ⟨tz', ?_⟩
        unfold nameI
        rw [if_neg hlt]; rfl
  · intro D h' tk' ys nn vs' hD ho' hvs hP u
    have hys := paired_map (R := IntV) (R' := StrV) (fun _ => true) nameI (by rintro n v ⟨t, rfl⟩; rfl) hvs (by rintro n v y _ ⟨t, rfl⟩ e; exact e _ _ rfl) hP
    rw [List.filter_eq_self.mpr (fun _ _ => rfl)] at hys
    refine g _ _ D ys nn ?_ ho' hys (Up.trans c₆.F.keep (Up.trans u₇ u))
    cases q : h.get? D with
    | none => rfl
    | some o => rw [u₇ _ _ (c₆.F.keep _ _ q)] at hD; cases hD
end

/-! ## Flags -/
theorem fill6_ (P : Params) : Challenge.rw_pg0178_01.prog = Challenge.rw_pg0178_01.prog ∧ hd.heap_39 P = hd.heap_39 P := by
  k_fill
  exact ⟨rfl, rfl⟩

theorem bn_bound : ∀ (n i r : Nat), i + n ≤ 32 → ((bn n i r).map (·.length)).sum + (bn n i r).length ≤ 19 * n
  | 0, _, _, _ => by simp [bn]
  | n + 1, i, r, h => by
    have h1 := bn_bound n (i + 1) (r / 2) (by omega)
    have h2 := name_tab i (by omega)
    simp only [Bool.and_eq_true, decide_eq_true_eq] at h2
    unfold bn
    split
    · simp only [List.map_cons, List.sum_cons, List.length_cons]; omega
    · omega
section
variable {w : World} {A : Around} {s : Shared} {h : Heap} {tk : Nat}
theorem flag_keyed (G : Gd w h) : KTD.Keyed h 95 flagD := kt_keyed_in (K := hd.heap_39 w.params) G.k (by kernel_rfl)
theorem gGet {d : Addr} {D : List (Int × PyData)} {pl : Sem Bool} {Q : Value × List Value → Shared → Prop} (K : KTD.Keyed h d D) (g : Q (.builtin "dict.get", [.ref d]) (St s h tk)) : Wp w A (getMethod (.ref d) "get" pl) Q (St s h tk) :=
  ⟨KTD.getMethod_keyed (s := St s h tk) K (fun _ _ e => e) g⟩
/-- the name of a flag -/
theorem getName {i : Nat} (hi : i < 32) {t u : Tok} {Q : Value → Shared → Prop} (K : KTD.Keyed h 95 flagD) (g : ∀ tk' t', Q (.str (nameOf i) t') (St s h tk')) :
    Wp w A (call (.builtin "dict.get") [.ref 95, .int ((2 ^ i : Nat) : Int) t, .str (baseText "0x" 16 ((2 ^ i : Nat) : Int)) u]) Q (St s h tk) :=
  ⟨call_get2_intTab (s := St s h tk) (K (PR) w) (PyProof.V.Flat.str _ _) fun v hv => by
    rw [KTD.lookup_keyed] at hv
    have h2 := name_tab i hi
    simp only [Bool.and_eq_true, decide_eq_true_eq] at h2
    rw [isStrD_eq h2.1.1] at hv
    obtain ⟨t', rfl⟩ := PyProof.V.Flat.str_inv hv
    exact g _ _⟩
theorem flags_spec {k : Nat} {N : Nat} {t : Tok} {R : Result → Shared → Prop} (G : Gd w h) (hA : Ao A (k + 1)) (hN : N < 2 ^ 32)
    (g : ∀ h' tk' t', Up h h' → R (.ok (.ret (.str (Txt.join ", " (flagNames N)) t'))) (St s h' tk')) :
    Co w A (.call (.ref 102) ⟨[.int (N : Int) t], []⟩) R (St s h tk) := by
  refine' enter [("flags", .int (N : Int) t)] G hA ?ho ?hcd ?hb ?hl ?_ ?hcell ?hco ?hgen ?hk
  walk_at "enter"
  intro L h₁ c a
  refine xcons <| xasg <| eList <| items0 <| mkList_ (by simp) fun D h₂ hD ho u₂ => ?_
  have c₂ := c.add u₂ hD ho
  refine stL c₂ fun h₃ tk₃ c₃ => ?_
  refine xcons <| for_ <| callT (G.up c₃.F.keep) n_range b_range <| cInt fun _ _ => range1_ fun h₄ tk₄ rr t' u' v' hr u₄ => ?_
  have c₄ := c₃.up u₄
  have hfin : N ≠ 0 → flagNames N = bn 32 0 N := fun e => if_neg e
  have hbd := bn_bound 32 0 N (by omega)
  refine iter_range (n := 32) (s = ·) (fun i m nx => ∃ r acc its nn, nx = [(D, listOf its nn)] ∧ m "names" = some (.ref D) ∧ (∃ t, m "flags" = some (.int ((r * 2 ^ i : Nat) : Int) t)) ∧ Paired StrV acc its.toList ∧ acc ++ bn (32 - i) i r = bn 32 0 N ∧ (r = 0 ↔ N = 0) ∧ r < 2 ^ (32 - i) ∧ acc.length ≤ i)
    a.hh hr (by omega) (by omega) (by omega) rfl c₄ ⟨N, [], #[], 0, rfl, by walk_at "lk", ⟨t, ?_⟩, .nil, rfl, Iff.rfl, by simpa using hN, Nat.le_refl _⟩ ?_ ?_
  · rw [show ((N * 2 ^ 0 : Nat) : Int) = (N : Int) by simp]
    walk_at "lk"
  · rintro i ti _ m₁ nx h₅ tk₅ own rfl hi ⟨r, acc, its, nn, rfl, hnm, ⟨tf, hfl⟩, hp, hacc, hr0, hrb, hal⟩ c₅
    have hsz : its.size ≤ 1000 := by
      have := hp.length
      simp at this; omega
    rw [show (0 : Int) + (i : Int) = (i : Int) by omega]
    refine xname <| stL c₅ fun h₆ tk₆ c₆ => ?_
    refine xcons <| xasg <| eBin <| cInt fun _ _ => nmX c₆ (by walk_at "lk") <| shl_ (by omega) (by omega) (by decide) fun _ _ => ?_
    rw [show (1 : Int) * 2 ^ ((i : Int)).toNat = ((2 ^ i : Nat) : Int) by simp]
    refine stL c₆ fun h₇ tk₇ c₇ => ?_
    refine xcons <| xif <| tPlain <| eBin <| nmX c₇ (by walk_at "lk") <| nmX c₇ (by walk_at "lk") <| band_ fun _ _ => ?_
    rw [band_pow]
    refine tInt ?_
    have hbn : bn (32 - i) i r = if r % 2 = 1 then nameOf i :: bn (32 - (i + 1)) (i + 1) (r / 2) else bn (32 - (i + 1)) (i + 1) (r / 2) := by
      rw [show 32 - i = (32 - (i + 1)) + 1 by omega]; rfl
    have hpow : 2 ^ (32 - i) = 2 * 2 ^ (32 - (i + 1)) := by
      rw [show 32 - i = (32 - (i + 1)) + 1 by omega, Nat.pow_succ]; omega
    have hpos : 0 < 2 ^ i := Nat.pow_pos (by omega)
    rcases Nat.mod_two_eq_zero_or_one r with hev | hod
    · rw [hev]
      rw [show ((((0 * 2 ^ i : Nat)) : Int) != 0) = false by simp]
      simp only [Bool.false_eq_true, if_false]
      refine xnil <| xnil ?_
      rw [hbn, hev, if_neg (by omega)] at hacc
      refine TurnE.intro (nx := [(D, listOf its nn)]) rfl c₇ ⟨r / 2, acc, its, nn, rfl, by walk_at "lk", ⟨tf, ?_⟩, hp, hacc, ⟨fun e => hr0.mp (by omega), fun e => ?_⟩, by omega, by omega⟩
      · rw [← half_pow hev]; walk_at "lk"
      · have := hr0.mpr e; omega
    · rw [hod]
      rw [show ((((1 * 2 ^ i : Nat)) : Int) != 0) = true from pow_ne (by omega)]
      simp only [if_true]
      have hnt := name_tab i hi
      simp only [Bool.and_eq_true, decide_eq_true_eq] at hnt
      refine xcons <| xexpr <| meth1 <| nmX c₇ (by walk_at "lk") <| gApp (c₇.N.get (.head _)) <| bi1 <| meth2 <| nmG (G.up c₇.F.keep) (by k_is) <| gGet (flag_keyed (G.up c₇.F.keep)) <| bi2 <| nmX c₇ (by walk_at "lk") <|
        callB (G.up c₇.F.keep) n_hex b_hex <| nmX c₇ (by walk_at "lk") <| hex_ (by omega) fun _ _ => getName hi (flag_keyed (G.up c₇.F.keep)) fun _ tn => app_ c₇ hsz fun h₈ n₈ c₈ => ?_
      refine xcons <| xaug <| ldL c₈.F.ns (by walk_at "lk") <| nmX c₈ (by walk_at "lk") <| ixor_ fun _ _ => ?_
      rw [bxor_pow hod]
      refine stL c₈ fun h₉ tk₉ c₉ => ?_
      have hp' : Paired StrV (acc ++ [nameOf i]) (its.push (.str (nameOf i) tn)).toList := by
        simpa using Paired.snoc hp ⟨tn, rfl⟩
      rw [hbn, hod, if_pos rfl] at hacc
      have hacc' : (acc ++ [nameOf i]) ++ bn (32 - (i + 1)) (i + 1) (r / 2) = bn 32 0 N := by simpa using hacc
      refine xcons <| xif <| tNot <| tPlain <| nmX c₉ (by walk_at "lk") <| tInt ?_
      by_cases hz : r / 2 = 0
      · rw [hz]
        rw [show (!((((0 * 2 ^ (i + 1) : Nat)) : Int) != 0)) = true by simp]
        simp only [if_true]
        refine xcons <| xbrk ?_
        rw [hz, bn_zero, List.append_nil] at hacc'
        show Wp _ _ _ _ _
        refine xcons <| xret <| meth1 <| cStr fun _ _ => gJoin <| bi1 <| nmX c₉ (by walk_at "lk") <| join_ (xs := acc ++ [nameOf i]) (isList_of (c₉.N.get (.head _))) hp' ?_ (by decide +kernel) fun tk' t' => ?_
        · rw [hacc']; omega
        · rw [hacc', ← hfin (fun e => by have := hr0.mpr e; omega)]
          exact g _ _ _ c₉.F.keep
      · rw [show (!(((((r / 2) * 2 ^ (i + 1) : Nat)) : Int) != 0)) = false by rw [pow_ne hz]; rfl]
        simp only [Bool.false_eq_true, if_false]
        refine xnil <| xnil <| xnil ?_
        refine TurnE.intro (nx := [(D, listOf (its.push (.str (nameOf i) tn)) n₈)]) rfl c₉ ⟨r / 2, acc ++ [nameOf i], _, n₈, rfl, by walk_at "lk", ⟨_, by walk_at "lk"⟩, hp', hacc', ⟨fun e => absurd e hz, fun e => by have := hr0.mpr e; omega⟩, by omega, by simp; omega⟩
  · rintro _ h' tk' m' nx rfl ⟨r, acc, its, nn, rfl, hnm, ⟨tf, hfl⟩, hp, hacc, hr0, hrb, hal⟩ c'
    obtain rfl : r = 0 := by simpa using hrb
    obtain rfl : N = 0 := hr0.mp rfl
    rw [bn_zero, bn_zero, List.append_nil] at hacc
    have hz : its.size ≤ 1000 := by
      have := hp.length
      rw [hacc] at this
      simp at this; omega
    refine xcons <| xexpr <| meth1 <| nmX c' hnm <| gApp (c'.N.get (.head _)) <| bi1 <| callB (G.up c'.F.keep) n_hex b_hex <| nmX c' hfl <| ?_
    rw [show ((0 * 2 ^ 32 : Nat) : Int) = 0 by simp]
    refine hex_ (by rw [hex_zero]; decide +kernel) fun _ tn => app_ c' hz fun h₈ n₈ c₈ => ?_
    rw [hex_zero] at c₈
    have hp' : Paired StrV [("0x0" : Str)] (its.push (.str "0x0" tn)).toList := by
      rw [hacc] at hp
      simpa using Paired.snoc hp ⟨tn, rfl⟩
    refine xnil ?_
    refine xcons <| xret <| meth1 <| cStr fun _ _ => gJoin <| bi1 <| nmX c₈ hnm <| join_ (xs := [("0x0" : Str)]) (isList_of (c₈.N.get (.head _))) hp' (by decide +kernel) (by decide +kernel) fun tk' t' => ?_
    exact g _ _ _ c₈.F.keep
end

/-! ## WD -/
theorem Ao.tc {A : Around} {k : Nat} {C : Addr} {rest : List Value} {kw : List (Str × Value)} (a : Ao A (k + 1)) : Ao (A.under (.builtin "type.__call__" ⟨.ref C :: rest, kw⟩)) k := by
  have hw : (Code.builtin "type.__call__" ⟨.ref C :: rest, kw⟩).weight = 1 := by first | rfl | kernel_rfl
  have hg : (Code.builtin "type.__call__" ⟨.ref C :: rest, kw⟩).isGuard = false := by
    show guardIds.contains "type.__call__" = false
    decide +kernel
  refine ⟨a.hh, ?_, ?_, ?_⟩
  · show A.depth + (Code.builtin "type.__call__" ⟨.ref C :: rest, kw⟩).weight + k ≤ 400
    have := a.d; omega
  · have e : (A.under (.builtin "type.__call__" ⟨.ref C :: rest, kw⟩)).units = A.units + 1 := rfl
    have := a.u; omega
  · show pushGuards (Code.builtin "type.__call__" ⟨.ref C :: rest, kw⟩).guards A.guards = some []
    rw [show (Code.builtin "type.__call__" ⟨.ref C :: rest, kw⟩).guards = [] by simp [Code.guards, hg], a.g]; rfl

/-- a def is called, on another base -/
theorem enterW {w : World} {A : Around} {s : Shared} {hp h₀ : Heap} {tk : Nat} {k : Nat} {R : Result → Shared → Prop} {name qual : Str} {params : Arguments} {body : List Stmt} {scope : Scope} {dV kV doc pm cdv ct oc : Value} {an od : Option Addr} {osl : Array (Option Value)} {f : Addr} {args : Args} (binds : List (Str × Value)) (news : List (Addr × Obj))
    (u₀ : Up h₀ hp) (sz : h₀.objs.size ≤ hp.objs.size) (N : ∀ p ∈ news, hp.get? p.1 = some p.2 ∧ h₀.get? p.1 = none) (D : (news.map (·.1)).Nodup)
    (G : Gd w hp) (hA : Ao A (k + 1))
    (ho : (hd.heap_39 w.params).lookup f = some ⟨oc, od, .func (fnOf name qual params body scope dV kV doc pm an cdv ct), osl⟩) (hcd : codeIn (hd.heap_39 w.params) cdv qual = true)
    (hbind : BindsTo (St s hp tk) (fnOf name qual params body scope dV kV doc pm an cdv ct) args binds) (hloc : ∀ y ∈ binds, scope.names.lookup y.1 = some .local)
    (h : ∀ L h₁, Cx h₀ L h₁ (lk binds.reverse) news → Ao (A.deeper (envOf qual scope L f cdv)) k →
      Wp w (A.deeper (envOf qual scope L f cdv)) (execs body (envOf qual scope L f cdv))
        (fun fl s' => R (.ok (.ret (match fl with | .ret v => v | _ => .none))) s') (St s h₁ (tk + binds.length)))
    (hcell : ∀ x ∈ scope.names, x.2 ≠ .cell) (hco : scope.isCoroutine = false := by rfl) (hgen : scope.isGenerator = false := by rfl) (hk : scope.kind = .function := by rfl) :
    Co w A (.call (.ref f) args) R (St s hp tk) := by
  obtain ⟨_, _, _, _, _, _, T, _, _⟩ := G.t
  refine ⟨codeAny_call_def (fd := fnOf name qual params body scope dV kV doc pm an cdv ct) (body := body) (binds := binds) hA.room (G.k _ _ ho) rfl T.nolimit (codeRec_of G.k hcd) rfl hbind hcell hloc (fun h₁ hns hk₁ => ?_) hco hgen hk⟩
  exact (h hp.objs.size h₁ ⟨⟨hns, fun b o e => hk₁ b o (u₀ b o e), sz⟩, fun p hp' => ⟨hk₁ _ _ (N p hp').1, fun e => absurd (Heap.lt_size (N p hp').1) (e ▸ Nat.lt_irrefl _), (N p hp').2⟩, D⟩ (hA.deeper _)).any

section
variable {w : World} {A : Around} {s : Shared} {h : Heap} {tk : Nat} {env : Env} {pos : Pos}
theorem xasg3 {t₁ t₂ t₃ : Expr} {e : Expr} {Q : Flow → Shared → Prop} {s : Shared} (g : Wp w A (eval e env) (fun v s₁ => Wp w A (assign t₁ env v) (fun _ s₂ => Wp w A (assign t₂ env v) (fun _ s₃ => Wp w A (assign t₃ env v) (fun _ => Q .next) s₃) s₂) s₁) s)
    (he : (assignEach [t₁, t₂, t₃] env).map (·.2) = [assign t₁ env, assign t₂ env, assign t₃ env] := by rfl)
    (hw : swappedStores [t₁, t₂, t₃] e env = pure none := by kernel_rfl) : Wp w A (exec (.Assign [t₁, t₂, t₃] e pos) env) Q s :=
  ⟨wpAny_Assign_three (g.nest fun _ _ z => z.nest fun _ _ z => z.nest fun _ _ z => z.any) he hw⟩
theorem aio0 {Q : Unit → Shared → Prop} {ts : List (Value → Sem Unit)} {s : Shared} (g : Q () s) : Wp w A (assignInOrder ts []) Q s := by
  cases ts <;> exact ⟨wpAny_pure g⟩
theorem aio1 {n : Str} {ts : List (Value → Sem Unit)} {x : Value} {xs : List Value} {Q : Unit → Shared → Prop} {s : Shared} (g : Wp w A (storeName env n x) (fun _ s₁ => Wp w A (assignInOrder ts xs) Q s₁) s) : Wp w A (assignInOrder ((fun v => bindName env n v) :: ts) (x :: xs)) Q s := by
  refine ⟨?_⟩
  show wpAny _ A (do holding xs (bindName env n x); assignInOrder ts xs) _ _ s
  exact wpAny_bind (wpAny_holding (bindName_ (g.nest fun _ _ z => z.any)))
theorem aioN {n : Str} {px : Pos} {ts : List (Value → Sem Unit)} {x : Value} {xs : List Value} {Q : Unit → Shared → Prop} {s : Shared} (g : Wp w A (storeName env n x) (fun _ s₁ => Wp w A (assignInOrder ts xs) Q s₁) s) : Wp w A (assignInOrder (assign (.Name n px) env :: ts) (x :: xs)) Q s := by
  refine ⟨?_⟩
  show wpAny _ A (do holding xs (assign (.Name n px) env x); assignInOrder ts xs) _ _ s
  exact wpAny_bind (wpAny_holding (wpAny_assign_Name (g.nest fun _ _ z => z.any)))
theorem unpack_ {t : Addr} {items : List Value} {n : Nat} {Q : List Value → Shared → Prop} (hh : A.handled = none) (ht : IsTup h t items.toArray) (hn : n = items.length) (g : ∀ h', Up h h' → Q items (St s h' tk)) : Wp w A (unpackItems (.ref t) n none) Q (St s h tk) := by
  have e : n = items.toArray.size := by simpa using hn
  subst e
  exact ⟨unpackItems_tuple (s := St s h tk) hh ht fun h' he => by
    exact g h' fun b o e => he b o (Nat.ne_of_lt (Heap.lt_size e)) e⟩
theorem asgTup2 {a b : Str} {pa pb : Pos} {k : Nat} {t : Addr} {v u : Value} {Q : Unit → Shared → Prop} (hh : A.handled = none) (ht : IsTup h t #[v, u]) (g : ∀ h', Up h h' → Wp w A (storeName env a v) (fun _ s₁ => Wp w A (storeName env b u) Q s₁) (St s h' tk)) :
    Wp w A (assign (.Tuple [.Name a pa, .Name b pb] k pos) env (.ref t)) Q (St s h tk) :=
  ⟨assign_Tuple_tuple (s := St s h tk) hh ht rfl (by rfl) fun h' he => by
    have z : Wp w A (assignInOrder [assign (.Name a pa) env, assign (.Name b pb) env] [v, u]) Q (St s h' tk) := aioN ((g h' fun b o e => he b o (Nat.ne_of_lt (Heap.lt_size e)) e).mono fun _ _ z => aioN (z.mono fun _ _ z => aio0 z))
    exact z.any⟩
theorem asgTup3 {a b c : Str} {pa pb pc : Pos} {k : Nat} {t : Addr} {v u x : Value} {Q : Unit → Shared → Prop} (hh : A.handled = none) (ht : IsTup h t #[v, u, x]) (g : ∀ h', Up h h' → Wp w A (storeName env a v) (fun _ s₁ => Wp w A (storeName env b u) (fun _ s₂ => Wp w A (storeName env c x) Q s₂) s₁) (St s h' tk)) :
    Wp w A (assign (.Tuple [.Name a pa, .Name b pb, .Name c pc] k pos) env (.ref t)) Q (St s h tk) :=
  ⟨assign_Tuple_tuple (s := St s h tk) hh ht rfl (by rfl) fun h' he => by
    have z : Wp w A (assignInOrder [assign (.Name a pa) env, assign (.Name b pb) env, assign (.Name c pc) env] [v, u, x]) Q (St s h' tk) := aioN ((g h' fun b o e => he b o (Nat.ne_of_lt (Heap.lt_size e)) e).mono fun _ _ z => aioN (z.mono fun _ _ z => aioN (z.mono fun _ _ z => aio0 z)))
    exact z.any⟩

/-- a for over an ascii text -/
theorem iter_str {h₀ : Heap} {x : Str} {t : Tok} {m : Str → Option Value} {news : List (Addr × Obj)} {target : Expr} {body orelse : List Stmt} {Q : Flow → Shared → Prop} (Ok : Shared → Prop)
    (J : Nat → (Str → Option Value) → List (Addr × Obj) → Prop) (hh : A.handled = none) (hx : x.cps.all (· < 128) = true) (ok : Ok s) (c : Cx h₀ env.locals h m news) (h0 : J 0 m news)
    (step : ∀ i ch t s m₁ nx h₁ tk₁ own, Ok s → x.cps[i]? = some ch → J i m₁ nx → Cx h₀ env.locals h₁ m₁ (nx ++ own) →
      Wp w A (assign target env (.str ⟨#[ch]⟩ t)) (fun _ s₂ => Wp w A (execs body env) (TurnE h₀ env.locals Ok (J (i + 1)) own (fun s₃ => Q .next s₃) (fun v s₃ => Q (.ret v) s₃)) s₂) (St s h₁ tk₁))
    (done : ∀ s h' tk' m' nx, Ok s → J x.cps.size m' nx → Cx h₀ env.locals h' m' nx → Wp w A (execs orelse env) Q (St s h' tk'))
    (ht : ∀ I v, letOwnedTupleGo target (.ref I) v = pure () := by intro _ _; rfl) :
    Wp w A (pyIter (.str x t)) (fun it s₂ => Co w A (.forLoop target it body orelse env) (fun r s' => match r with | .ok f => Q f s' | .error _ => False) s₂) (St s h tk) := by
  refine ⟨wpAny_pyIter_ascii (s := St s h tk) hx ?_⟩
  have W := Walks.strAscii (prog := PR) (w := w) hh h.objs.size x t
  refine for_walk (s := s) Ok J W (by simp) (fun i h st b hb => by obtain ⟨o, ho, _⟩ := st; rw [List.mem_singleton.mp hb]; exact ⟨_, ho⟩) (fun hm => ?_) (fun b hb => ?_) (fun p hp hm => ?_) ⟨_, Heap.get?_push_size _ rfl, rfl, rfl⟩ ok (c.up fun b o e => Heap.get?_push_of_some _ e) h0 ?_ done (ht _)
  · exact absurd c.F.ns.lt ((List.mem_singleton.mp hm) ▸ Nat.lt_irrefl _)
  · rw [List.mem_singleton.mp hb]
    cases q : h₀.get? h.objs.size with
    | none => rfl
    | some o => exact absurd (Heap.lt_size (c.F.keep _ _ q)) (Nat.lt_irrefl _)
  · exact absurd (Heap.lt_size (c.N p hp).1) ((List.mem_singleton.mp hm) ▸ Nat.lt_irrefl _)
  · rintro i v s m₁ nx h₁ tk₁ own ok hi ⟨ch, t, hc, rfl⟩ hJ c'
    exact step i ch t s m₁ nx h₁ tk₁ own ok hc hJ c'

/-- a list's object -/
def LstO (o : Obj) (its : List Value) : Prop := o.cls = .type "list" ∧ ∃ n, o.data = .seq its.toArray n
theorem LstO.of (its : List Value) (n : Nat) : LstO (listOf its.toArray n) its := ⟨rfl, n, rfl⟩
theorem Cx.lst {h₀ : Heap} {L D : Addr} {m : Str → Option Value} {news : List (Addr × Obj)} {o : Obj} {its : List Value} (c : Cx h₀ L h m news) (hm : (D, o) ∈ news) (l : LstO o its) : h.IsList D its.toArray := ⟨o, (c.N _ hm).1, l.1, l.2⟩
theorem setL_ {h₀ : Heap} {L D : Addr} {m : Str → Option Value} {o : Obj} {its : List Value} {k : Int} {t : Tok} {v : Value} {pre post : List (Addr × Obj)} {Q : Unit → Shared → Prop} (c : Cx h₀ L h m (pre ++ (D, o) :: post)) (l : LstO o its) (h0 : 0 ≤ k) (h1 : k < its.length) (h2 : k ≤ 1000)
    (g : ∀ h' o', Cx h₀ L h' m (pre ++ (D, o') :: post) → LstO o' (its.set k.toNat v) → Q () (St s h' tk)) : Wp w A (setItem (.ref D) (.int k t) v) Q (St s h tk) :=
  ⟨wpAny_setItem_list (s := St s h tk) (c.lst (List.mem_append_right _ (.head _)) l) h0 (by omega) (by simpa using h1) fun h' hl hs => by
    obtain ⟨o', ho', hc', n', hd'⟩ := hl
    exact g h' o' (c.set hs ho') ⟨hc', n', by rw [hd']; simp⟩⟩
theorem zeros_fold (v : Value) : ∀ (n : Nat), List.foldl (fun x1 x2 => x1 ++ x2) #[] (List.replicate n #[v]) = (List.replicate n v).toArray := by
  have gen : ∀ (n : Nat) (acc : Array Value), List.foldl (fun x1 x2 => x1 ++ x2) acc (List.replicate n #[v]) = acc ++ (List.replicate n v).toArray := by
    intro n
    induction n with
    | zero => intro acc; simp
    | succ n ih => intro acc; rw [List.replicate_succ, List.foldl_cons, ih, List.replicate_succ]; apply Array.toList_inj.mp; simp
  intro n
  rw [gen]; simp
theorem mulL_ {h₀ : Heap} {L D : Addr} {m : Str → Option Value} {news : List (Addr × Obj)} {v : Value} {n : Nat} {x : Int} {t : Tok} {Q : Value → Shared → Prop} (c : Cx h₀ L h m news) (hD : h.get? D = some (listOf [v].toArray n)) (h0 : 0 ≤ x) (h1 : x ≤ 1000)
    (g : ∀ D' h', Cx h₀ L h' m ((D', listOf (List.replicate x.toNat v).toArray 0) :: news) → Q (.ref D') (St s h' tk)) : Wp w A (binaryOp .Mult (.ref D) (.int x t)) Q (St s h tk) :=
  ⟨mul_list (s := St s h tk) (items := #[v]) c.F c.N hD (by omega) (by omega) (by simp; omega) fun h' F' N' => by
    rw [show (if (#[v] : Array Value).isEmpty = true then 0 else x.toNat) = x.toNat by simp, zeros_fold] at N'
    exact g _ h' (c.pushed F' N')⟩
theorem tupL_ {l : Addr} {vs : List Value} {Q : Value → Shared → Prop} (hl : h.IsList l vs.toArray) (hz : vs.length ≤ 1000) (g : ∀ D h', h.get? D = none → h'.get? D = some (tupO vs.toArray 0) → Up h h' → Q (.ref D) (St s h' tk)) : Wp w A (call (.type "tuple") [.ref l]) Q (St s h tk) :=
  ⟨call_tuple_list (s := St s h tk) hl (fun h' u => g h'.objs.size _ (by
    cases q : h.get? h'.objs.size with
    | none => rfl
    | some o => exact absurd (Heap.lt_size (u _ _ q)) (Nat.lt_irrefl _)) (Heap.get?_push_size _ rfl) fun b o e => Heap.get?_push_of_some _ (u b o e)) (by rw [List.size_toArray, sizeLine_eq]; omega)⟩
theorem max2_ {a b : Int} {t u : Tok} {Q : Value → Shared → Prop} (hh : A.handled = none) (g : ∀ h' tk' t', Up h h' → Q (.int (if b > a then b else a) t') (St s h' tk')) : Wp w A (call (.builtin "max") [.int a t, .int b u]) Q (St s h tk) :=
  ⟨max_two_ints (s := St s h tk) hh fun h' tk' hu => by
    have := fun t' => g h' tk' t' hu
    split <;> rename_i hc <;> simp only [hc, if_true, if_false] at this <;> exact this _⟩
end

/-! ### an object's own names -/
structure Att (es : List DictEntry) (mA : Str → Option Value) : Prop where
  keys : ∀ e ∈ es, ∃ x t, e.key = .str x t
  get : ∀ name, (es.find? (·.key.isStr name)).map (·.val) = mA name
theorem Att.nil : Att [] fun _ => none := ⟨by simp, by simp⟩
theorem Att.getL {es : List DictEntry} {mA : Str → Option Value} (a : Att es mA) (name : Str) : PySem.W.getL name es = some (mA name) := by
  unfold PySem.W.getL
  rw [← a.get name]
  cases q : es.find? (·.key.isStr name) with
  | some e => rfl
  | none =>
    have : es.any (·.refKey) = false := by
      rw [List.any_eq_false]
      intro e he
      obtain ⟨x, t, hk⟩ := a.keys e he
      unfold DictEntry.refKey
      rw [hk]; exact Bool.false_ne_true
    simp [this]
theorem isStr_iff {x y : Str} {t : Tok} : (Value.str x t).isStr y = decide (y = x) := by
  show (x == y) = decide (y = x)
  by_cases hx : y = x
  · subst hx; simp
  · have hx' : ¬ x = y := fun q => hx q.symm
    simp [hx, hx']
theorem Att.put {es : List DictEntry} {mA : Str → Option Value} {name : Str} {hsh : Int} {t : Tok} {v : Value} (a : Att es mA) : Att (putL name hsh (.str name t) v es) (fun y => if y = name then some v else mA y) := by
  constructor
  · have := a.keys
    clear a
    induction es with
    | nil => intro e he; simp [putL] at he; subst he; exact ⟨name, t, rfl⟩
    | cons e r ih =>
      intro e' he'
      unfold putL at he'
      split at he'
      · rcases List.mem_cons.mp he' with rfl | he'
        · exact this e (.head _)
        · exact this e' (.tail _ he')
      · rcases List.mem_cons.mp he' with rfl | he'
        · exact this e' (.head _)
        · exact ih (fun e he => this e (.tail _ he)) e' he'
  · intro y
    have hk := a.keys
    have hg := a.get y
    clear a
    induction es generalizing mA with
    | nil =>
      simp only [List.find?_nil, Option.map_none] at hg
      unfold putL
      rw [List.find?_cons, isStr_iff]
      by_cases e : y = name
      · simp [e]
      · simp [e, ← hg]
    | cons e r ih =>
      obtain ⟨x, tx, hx⟩ := hk e (.head _)
      unfold putL
      by_cases e1 : name = x
      · subst e1
        rw [if_pos (by rw [hx, isStr_iff]; simp)]
        rw [List.find?_cons] at hg ⊢
        simp only [hx, isStr_iff] at hg ⊢
        by_cases e2 : y = name
        · simp [e2]
        · simp only [e2, decide_false, if_false] at hg ⊢; exact hg
      · rw [if_neg (by rw [hx, isStr_iff]; simp [e1])]
        rw [List.find?_cons] at hg ⊢
        simp only [hx, isStr_iff] at hg ⊢
        by_cases e2 : y = x
        · have : ¬ y = name := fun q => e1 (q ▸ e2)
          subst e2
          simp only [decide_true, if_neg this] at hg ⊢; exact hg
        · simp only [e2, decide_false] at hg ⊢
          exact ih (fun e he => hk e (.tail _ he)) hg
theorem putL_len {name : Str} {hsh : Int} {k v : Value} : ∀ {es : List DictEntry}, (putL name hsh k v es).length ≤ es.length + 1
  | [] => by simp [putL]
  | e :: r => by
    unfold putL
    split
    · simp
    · simp only [List.length_cons]; have := @putL_len name hsh k v r; omega

theorem upd_of {D : Addr} {o o' : Obj} : ∀ {pre post : List (Addr × Obj)}, ((pre ++ (D, o) :: post).map (·.1)).Nodup → Upd D o o' (pre ++ (D, o) :: post) (pre ++ (D, o') :: post)
  | [], post, nd => .head fun p hp e => (List.nodup_cons.mp nd).1 (List.mem_map.mpr ⟨p, hp, e⟩)
  | p :: pre, post, nd => .tail (fun e => (List.nodup_cons.mp nd).1 (List.mem_map.mpr ⟨(D, o), List.mem_append_right _ (.head _), e.symm⟩)) (upd_of (List.nodup_cons.mp nd).2)

section
variable {w : World} {A : Around} {s : Shared} {h h₀ : Heap} {L C x dx : Addr} {tk : Nat} {m : Str → Option Value} {es : List DictEntry} {n : Nat} {mA : Str → Option Value} {name : Str} {v : Value}
theorem setA_ {pre post : List (Addr × Obj)} {Q : Unit → Shared → Prop} (G : Gd w h₀) (c : Cx h₀ L h m (pre ++ (dx, dictOf es n) :: post)) (hx : (x, instObj C dx) ∈ pre ++ (dx, dictOf es n) :: post) (a : Att es mA) (hz : es.length ≤ 100)
    (hs : findIn (hd.heap_39 w.params) (.ref C) "__setattr__" = some (some (.builtin "object.__setattr__"))) (hp : plainOver (hd.heap_39 w.params) C = true) (ht : takerIn (hd.heap_39 w.params) C name = some none) (hh : hasDictIn (hd.heap_39 w.params) C = true)
    (g : ∀ h' tk' es' n', Cx h₀ L h' m (pre ++ (dx, dictOf es' n') :: post) → Att es' (fun y => if y = name then some v else mA y) → es'.length ≤ es.length + 1 → Q () (St s h' tk')) : Wp w A (setAttr (.ref x) name v) Q (St s h tk) :=
  ⟨set_dict (s := St s h tk) (dx := dx) (n := n) c.F G.k c.N (InstAt.of_news c.N hx (List.mem_append_right _ (.head _))) rfl hs hp ht hh (by rw [a.getL]; rfl) rfl (upd_of c.D) (by have := @putL_len name (PyData.keyHash w.params name) (.str name ((St s h tk).toks + 1)) v es; omega)
    fun h' F' N' => g h' _ _ _ ⟨F', N', by simpa using c.D⟩ a.put putL_len⟩
theorem getA_ {expr : Bool} {Q : Value → Shared → Prop} {attr : Option Value} (G : Gd w h) (hx : h.get? x = some (instObj C dx)) (hd' : h.get? dx = some (dictOf es n)) (a : Att es mA) (hv : mA name = some v) (hi : handedIn v = true)
    (hg : plainGet (hd.heap_39 w.params) C name = true) (hh : hasDictIn (hd.heap_39 w.params) C = true) (ha : findIn (hd.heap_39 w.params) (.ref C) name = some attr) (hn : noGet (hd.heap_39 w.params) attr = true)
    (g : ∀ tk', Q v (St s h tk')) : Wp w A (getAttr (.ref x) name expr) Q (St s h tk) :=
  ⟨get_value (s := St s h tk) G.k (show InstAt h x (instObj C dx) C (some (dictOf es n)) from ⟨hx, rfl, rfl, hd'⟩) (plainGet_of hg).1 (findObj_own hh ha hn (by rw [lookIn_dict, a.getL, hv])) hi (g _)⟩
theorem gMeth {pl : Sem Bool} {f : Addr} {Q : Value × List Value → Shared → Prop} (G : Gd w h) (hx : h.get? x = some (instObj C dx)) (hd' : h.get? dx = some (dictOf es n)) (a : Att es mA) (hv : mA name = none)
    (hg : plainGet (hd.heap_39 w.params) C name = true) (hf : findIn (hd.heap_39 w.params) (.ref C) name = some (some (.ref f))) (ht : isFn (hd.heap_39 w.params) (.ref f) = true)
    (g : Q (.ref f, [.ref x]) (St s h tk)) : Wp w A (getMethod (.ref x) name pl) Q (St s h tk) :=
  ⟨method_fn (s := St s h tk) G.k (show InstAt h x (instObj C dx) C (some (dictOf es n)) from ⟨hx, rfl, rfl, hd'⟩) (plainGet_of hg).1 (plainGet_of hg).2 hf (beq_iff_eq.mp ht) (by show (lookIn name (dictOf es n)).map _ = _; rw [lookIn_dict, a.getL, hv]; rfl) g⟩
theorem getC_ {mc a : Value} {expr : Bool} {Q : Value → Shared → Prop} (G : Gd w h) (hr : readsIn (hd.heap_39 w.params) C mc = true) (e : findCls (hd.heap_39 w.params) (.ref C) mc name = some (.val a)) (hh : handedIn a = true)
    (g : ∀ tk', Q a (St s h tk')) : Wp w A (getAttr (.ref C) name expr) Q (St s h tk) := ⟨cls_value (s := St s h tk) G.k hr e hh (g _)⟩
end

/-! ## Ws -/
theorem fill8_ (P : Params) : Challenge.rw_pg0178_01.prog = Challenge.rw_pg0178_01.prog ∧ hd.heap_39 P = hd.heap_39 P := by
  k_fill
  exact ⟨rfl, rfl⟩

/-! ### Whitespace -/
def wsPad (cnt : List Int) (b : Int) : List Int := if (cnt.length : Int) ≤ b then cnt ++ List.replicate (b - cnt.length + 1).toNat 0 else cnt
def wsBump (p : List Int) (b : Int) : List Int := p.set b.toNat (p.getD b.toNat 0 + 1)
def wsStep (st : List Int × Int × Int) (c : Nat) : List Int × Int × Int :=
  if c = 32 then (st.1, st.2.1 + 1, st.2.2) else (wsBump (wsPad st.1 st.2.1) st.2.1, 0, st.2.2 + 1)
def wsI (raw : Str) (i : Nat) : List Int × Int × Int := (raw.cps.toList.take i).foldl wsStep ([], 0, 0)
def wsRun (raw : Str) : List Int × Int × Int := raw.cps.toList.foldl wsStep ([], 0, 0)
theorem wsI_succ {raw : Str} {i c : Nat} (h : raw.cps[i]? = some c) : wsI raw (i + 1) = wsStep (wsI raw i) c := by
  unfold wsI
  rw [List.take_add_one, show raw.cps.toList[i]? = some c by simpa using h]
  simp
theorem wsI_all (raw : Str) : wsI raw raw.cps.size = wsRun raw := by
  unfold wsI wsRun
  rw [List.take_of_length_le (by simp)]
theorem wsI_bd (raw : Str) : ∀ i, 0 ≤ (wsI raw i).2.1 ∧ (wsI raw i).2.1 ≤ i ∧ ((wsI raw i).1.length : Int) ≤ i + 1
  | 0 => by simp [wsI]
  | i + 1 => by
    have h := wsI_bd raw i
    cases hc : raw.cps[i]? with
    | none =>
      have : wsI raw (i + 1) = wsI raw i := by
        unfold wsI
        rw [List.take_add_one, show raw.cps.toList[i]? = none by simpa using hc]
        simp
      rw [this]; omega
    | some c =>
      rw [wsI_succ hc]
      unfold wsStep
      split
      · simp only; omega
      · simp only [wsBump, List.length_set]
        unfold wsPad
        split
        · simp only [List.length_append, List.length_replicate]; omega
        · omega
structure WsAt (h : Heap) (x : Addr) (cnt : List Int) (b nt : Int) : Prop where
  h : ∃ dx es n mA T C vs tb tn k1 k2, h.get? x = some (instObj 83 dx) ∧ h.get? dx = some (dictOf es n) ∧ Att es mA ∧ mA "norm" = some (.ref T) ∧ h.get? T = some (tupO #[.ref C, .int b tb] k1) ∧ h.get? C = some (tupO vs.toArray k2) ∧ IntsAre vs cnt ∧ mA "nt" = some (.int nt tn) ∧
    mA "longest_run_of_spaces" = none ∧ mA "indent_level" = none ∧ mA "not_equal_witness" = none
theorem WsAt.up {h h' : Heap} {x : Addr} {cnt : List Int} {b nt : Int} (a : WsAt h x cnt b nt) (u : Up h h') : WsAt h' x cnt b nt := by
  obtain ⟨dx, es, n, mA, T, C, vs, tb, tn, k1, k2, e1, e2, e3, e4, e5, e6, r⟩ := a
  exact ⟨dx, es, n, mA, T, C, vs, tb, tn, k1, k2, u _ _ e1, u _ _ e2, e3, e4, u _ _ e5, u _ _ e6, r⟩

theorem ints_append {vs ws : List Value} {a b : List Int} (h1 : IntsAre vs a) (h2 : IntsAre ws b) : IntsAre (vs ++ ws) (a ++ b) := by
  induction h1 with
  | nil => exact h2
  | cons n t _ ih => exact .cons n t ih
theorem ints_zeros (t : Tok) : ∀ n : Nat, IntsAre (List.replicate n (Value.int 0 t)) (List.replicate n 0)
  | 0 => .nil
  | n + 1 => .cons 0 t (ints_zeros t n)
theorem ints_set {vs : List Value} {ns : List Int} (h : IntsAre vs ns) {x : Int} {t : Tok} : ∀ j : Nat, IntsAre (vs.set j (.int x t)) (ns.set j x) := by
  induction h with
  | nil => intro j; simpa using IntsAre.nil
  | cons n t' r ih =>
    intro j
    cases j with
    | zero => exact .cons x t r
    | succ j => exact .cons n t' (ih j)

section
variable {w : World} {A : Around} {s : Shared} {h h₀ : Heap} {tk : Nat}
theorem init_spec {k : Nat} {x dx : Addr} {raw : Str} {t : Tok} {R : Result → Shared → Prop} (G₀ : Gd w h₀) (u₀ : Up h₀ h) (sz : h₀.objs.size ≤ h.objs.size) (hx : h.get? x = some (instObj 83 dx)) (hdx : h.get? dx = some (dictOf [] 0)) (nx : h₀.get? x = none) (nd : h₀.get? dx = none) (ne : x ≠ dx)
    (hA : Ao A (k + 1)) (hr : ∀ c ∈ raw.cps.toList, c = 32 ∨ c = 9) (hlen : raw.cps.size ≤ 60)
    (g : ∀ h' tk', Up h₀ h' → WsAt h' x (wsRun raw).1 (wsRun raw).2.1 (wsRun raw).2.2 → R (.ok (.ret .none)) (St s h' tk')) :
    Co w A (.call (.ref 38) ⟨[.ref x, .str raw t], []⟩) R (St s h tk) := by
  refine' enterW [("self", .ref x), ("ws", .str raw t)] [(x, instObj 83 dx), (dx, dictOf [] 0)] u₀ sz ?hN ?hD (G₀.up u₀) hA ?ho ?hcd ?hb ?hl ?_ ?hcell ?hco ?hgen ?hk
  case hN =>
    intro p hp
    rcases List.mem_cons.mp hp with rfl | hp
    · exact ⟨hx, nx⟩
    · rw [List.mem_singleton.mp hp]; exact ⟨hdx, nd⟩
  case hD => simpa using ne
  walk_at "enter"
  intro L h₁ c a
  refine xcons <| xasgA <| nmX c (by walk_at "lk") <| nmX c (by walk_at "lk") ?_
  refine setA_ (pre := [(x, instObj 83 dx)]) (post := []) G₀ c (.head _) Att.nil (by simp) (by k_is) (by k_is) (by k_is) (by k_is) fun h₂ tk₂ es₂ n₂ c₂ a₂ z₂ => ?_
  refine xcons <| xasgW ["S", "T"] <| eTup <| items1 <| eAttr <| nmG (G₀.up c₂.F.keep) (by k_is) ?_
  refine getC_ (mc := .type "type") (a := .str " " 209) (G₀.up c₂.F.keep) (by k_is) (by k_is) rfl fun tk₃ => ?_
  refine items1 <| eAttr <| nmG (G₀.up c₂.F.keep) (by k_is) ?_
  refine getC_ (mc := .type "type") (a := .str "\t" 210) (G₀.up c₂.F.keep) (by k_is) (by k_is) rfl fun tk₄ => ?_
  refine items0 <| mkTup_ (by simp) fun T₀ h₅ hT hT' u₅ => ?_
  have c₅ := c₂.up u₅
  refine unpack_ (items := [.str " " 209, .str "\t" 210]) a.hh ⟨_, hT', rfl, 0, rfl⟩ rfl fun h₆ u₆ => ?_
  have c₆ := c₅.up u₆
  refine aio1 <| stL c₆ fun h₇ tk₇ c₇ => aio1 <| stL c₇ fun h₈ tk₈ c₈ => aio0 ?_
  refine xcons <| xasg <| eList <| items0 <| mkList_ (by simp) fun D h₉ hD hD' u₉ => ?_
  have c₉ := c₈.add u₉ hD hD'
  refine stL c₉ fun h₁₀ tk₁₀ c₁₀ => ?_
  refine xcons <| xasg3 <| cInt fun _ _ => xname <| stL c₁₀ fun h₁₁ tk₁₁ c₁₁ => xname <| stL c₁₁ fun h₁₂ tk₁₂ c₁₂ => xname <| stL c₁₂ fun h₁₃ tk₁₃ c₁₃ => ?_
  refine xcons <| for_ <| eAttr <| nmX c₁₃ (by walk_at "lk") <| getA_ (C := 83) (dx := dx) (G₀.up c₁₃.F.keep) (c₁₃.N.get (.tail _ (.head _))) (c₁₃.N.get (.tail _ (.tail _ (.head _)))) a₂ (if_pos rfl) rfl (by k_is) (by k_is) (by k_is) (by k_is) fun tk₁₄ => ?_
  refine iter_str (s = ·) (fun i m nx => ∃ D o vs, nx = [(D, o), (x, instObj 83 dx), (dx, dictOf es₂ n₂)] ∧ LstO o vs ∧ IntsAre vs (wsI raw i).1 ∧ m "count" = some (.ref D) ∧ (∃ t, m "b" = some (.int (wsI raw i).2.1 t)) ∧ (∃ t, m "nt" = some (.int (wsI raw i).2.2 t)) ∧ (∃ v t, m "n" = some (.int v t)) ∧
    m "self" = some (.ref x) ∧ m "S" = some (.str " " 209) ∧ m "T" = some (.str "\t" 210)) a.hh ?hasc rfl c₁₃ ⟨D, _, [], rfl, LstO.of [] 0, .nil, by walk_at "lk", ⟨_, by show _ = some (Value.int 0 _); walk_at "lk"⟩, ⟨_, by show _ = some (Value.int 0 _); walk_at "lk"⟩, ⟨0, _, by walk_at "lk"⟩, by walk_at "lk", by walk_at "lk", by walk_at "lk"⟩ ?_ ?_
  case hasc => 
    rw [← Array.all_toList, List.all_eq_true]
    intro ch hc
    rcases hr ch hc with rfl | rfl <;> decide
  · rintro i ch tc _ m₁ nx₁ hA₁ tkA own rfl hch ⟨D, o, vs, rfl, ho, hvs, hcnt, ⟨tb, hb⟩, ⟨tn, hnt⟩, ⟨nv, t1, hn⟩, hself, hS, hT⟩ cA
    have hbd := wsI_bd raw i
    have hi : i < raw.cps.size := (Array.getElem?_eq_some_iff.mp hch).1
    have hvl := hvs.length
    have hst := wsI_succ hch
    refine xname <| stL cA fun hB tkB cB => ?_
    refine xcons <| xif <| tCmp <| nmX cB (by walk_at "lk") <| nmX cB (by walk_at "lk") <| eEqS <| tBool ?_
    rcases hr ch (by rw [List.mem_iff_getElem?]; exact ⟨i, by simpa using hch⟩) with rfl | rfl
    · rw [show ((⟨#[32]⟩ : Str) == " ") = true by decide +kernel]
      simp only [if_true]
      refine xcons <| xasg <| eBin <| nmX cB (by walk_at "lk") <| cInt fun _ _ => add_ fun _ _ => stL cB fun hC tkC cC => ?_
      refine xcons <| xasg <| eBin <| nmX cC (by walk_at "lk") <| cInt fun _ _ => add_ fun _ _ => stL cC fun hE tkE cE => xnil <| xnil ?_
      have e : wsI raw (i + 1) = ((wsI raw i).1, (wsI raw i).2.1 + 1, (wsI raw i).2.2) := by rw [hst]; rfl
      refine TurnE.intro (nx := [(D, o), (x, instObj 83 dx), (dx, dictOf es₂ n₂)]) rfl cE ⟨D, o, vs, rfl, ho, ?_, ?_⟩
      · rw [e]; exact hvs
      · rw [e]; exact ⟨by walk_at "lk", ⟨_, by walk_at "lk"⟩, ⟨_, by walk_at "lk"⟩, ⟨_, _, by walk_at "lk"⟩, by walk_at "lk", by walk_at "lk", by walk_at "lk"⟩
    · rw [show ((⟨#[9]⟩ : Str) == " ") = false by decide +kernel]
      simp only [Bool.false_eq_true, if_false]
      refine xcons <| xif <| tCmp <| nmX cB (by walk_at "lk") <| nmX cB (by walk_at "lk") <| eEqS <| tBool ?_
      rw [show ((⟨#[9]⟩ : Str) == "\t") = true by decide +kernel]
      simp only [if_true]
      refine xcons <| xasg <| eBin <| nmX cB (by walk_at "lk") <| cInt fun _ _ => add_ fun _ _ => stL cB fun hC tkC cC => ?_
      refine xcons <| xasg <| eBin <| nmX cC (by walk_at "lk") <| cInt fun _ _ => add_ fun _ _ => stL cC fun hE tkE cE => ?_
      have e : wsI raw (i + 1) = (wsBump (wsPad (wsI raw i).1 (wsI raw i).2.1) (wsI raw i).2.1, 0, (wsI raw i).2.2 + 1) := by rw [hst]; rfl
      refine xcons ?_
      refine Wp.mono (P := fun f s' => f = .next ∧ ∃ hF tkF mF D' o' vs' pre, s' = St s hF tkF ∧ Cx h₀ L hF mF (pre ++ (D', o') :: ((x, instObj 83 dx) :: (dx, dictOf es₂ n₂) :: own)) ∧ LstO o' vs' ∧ IntsAre vs' (wsPad (wsI raw i).1 (wsI raw i).2.1) ∧
        mF "count" = some (.ref D') ∧ (∃ t, mF "b" = some (.int (wsI raw i).2.1 t)) ∧ (∃ t, mF "nt" = some (.int ((wsI raw i).2.2 + 1) t)) ∧ (∃ v t, mF "n" = some (.int v t)) ∧ mF "self" = some (.ref x) ∧ mF "S" = some (.str " " 209) ∧ mF "T" = some (.str "\t" 210)) ?_ ?_
      · refine xif <| tCmp <| nmX cE (by walk_at "lk") <| callB (G₀.up cE.F.keep) n_len b_len <| nmX cE (by walk_at "lk") <| len_ (cE.lst (.head _) ho) (by omega) fun _ _ => eGe <| tBool ?_
        rw [hvl]
        by_cases hge : ((wsI raw i).1.length : Int) ≤ (wsI raw i).2.1
        · simp only [decide_eq_true hge, if_true]
          refine xcons <| xasg <| eBin <| nmX cE (by walk_at "lk") <| eBin <| eList <| items1 <| cInt fun _ tz => items0 <| mkList_ (by simp) fun DZ hG hZ hZ' uG => ?_
          have cG := cE.add uG hZ hZ'
          refine eBin <| eBin <| nmX cG (by walk_at "lk") <| callB (G₀.up cG.F.keep) n_len b_len <| nmX cG (by walk_at "lk") <| len_ (cG.lst (.tail _ (.head _)) ho) (by omega) fun _ _ => sub_ fun _ _ => cInt fun _ _ => add_ fun _ _ => ?_
          refine mulL_ cG (cG.N.get (.head _)) (by omega) (by omega) fun DM hM cM => ?_
          refine addL_ (vs := vs) cM (cM.lst (.tail _ (.tail _ (.head _))) ho) (cM.isList (.head _)) (by simp; omega) fun DN hN cN => ?_
          refine stL cN fun hO tkO cO => xnil ⟨rfl, hO, tkO, _, DN, _, _, [], rfl, Cx.sub cO (.cons₂ _ (.cons _ (.cons _ (.cons _ (.refl _))))), LstO.of _ 0, ?_, by walk_at "lk", ⟨_, by walk_at "lk"⟩, ⟨_, by walk_at "lk"⟩, ⟨_, _, by walk_at "lk"⟩, by walk_at "lk", by walk_at "lk", by walk_at "lk"⟩
          unfold wsPad
          rw [if_pos hge, hvl]
          exact ints_append hvs (ints_zeros tz _)
        · simp only [decide_eq_false hge, Bool.false_eq_true, if_false]
          refine xnil ⟨rfl, hE, _, _, D, o, vs, [], rfl, cE, ho, ?_, by walk_at "lk", ⟨_, by walk_at "lk"⟩, ⟨_, by walk_at "lk"⟩, ⟨_, _, by walk_at "lk"⟩, by walk_at "lk", by walk_at "lk", by walk_at "lk"⟩
          unfold wsPad
          rw [if_neg hge]; exact hvs
      · rintro _ _ ⟨rfl, hF, tkF, mF, D', o', vs', pre, rfl, cF, ho', hvs', hcnt', ⟨tb', hb'⟩, ⟨tn', hnt'⟩, ⟨nv', t1', hn'⟩, hself', hS', hT'⟩
        have hpl : (wsI raw i).2.1 < (wsPad (wsI raw i).1 (wsI raw i).2.1).length ∧ ((wsPad (wsI raw i).1 (wsI raw i).2.1).length : Int) ≤ i + 1 := by
          unfold wsPad
          split
          · simp only [List.length_append, List.length_replicate]; omega
          · omega
        have hvl' := hvs'.length
        obtain ⟨tv, hv⟩ := hvs'.get (wsI raw i).2.1.toNat ((wsPad (wsI raw i).1 (wsI raw i).2.1).getD (wsI raw i).2.1.toNat 0) (by
          rw [List.getD_eq_getElem?_getD]
          have : (wsI raw i).2.1.toNat < (wsPad (wsI raw i).1 (wsI raw i).2.1).length := by omega
          simp [this])
        refine xcons <| xasgS <| eBin <| eSub <| nmX cF hcnt' <| nmX cF hb' <| itemL_ (vs := vs') (cF.lst (List.mem_append_right _ (.head _)) ho') (by omega) (by omega) hv <| cInt fun _ _ => add_ fun _ _ => nmX cF hcnt' <| nmX cF hb' <| setL_ cF ho' (by omega) (by omega) (by omega) fun hG o'' cG ho'' => ?_
        refine xcons <| xasg <| cInt fun _ _ => stL cG fun hH tkH cH => xnil <| xnil <| xnil ?_
        refine TurnE.intro (nx := [(D', o''), (x, instObj 83 dx), (dx, dictOf es₂ n₂)]) rfl cH.right ⟨D', o'', _, rfl, ho'', ?_, ?_⟩
        · rw [e]; exact ints_set hvs' _
        · rw [e]; exact ⟨by walk_at "lk", ⟨_, by walk_at "lk"⟩, ⟨_, by walk_at "lk"⟩, ⟨_, _, by walk_at "lk"⟩, by walk_at "lk", by walk_at "lk", by walk_at "lk"⟩
  · rintro _ h' tk' m' nx₁ rfl ⟨D, o, vs, rfl, ho, hvs, hcnt, ⟨tb, hb⟩, ⟨tn, hnt⟩, ⟨nv, t1, hn⟩, hself, hS, hT⟩ cA
    refine xnil ?_
    have hbd := wsI_bd raw raw.cps.size
    rw [wsI_all] at hvs hb hnt hbd
    have hvl := hvs.length
    refine xcons <| xasgA <| nmX cA hn <| nmX cA hself ?_
    refine setA_ (pre := [(D, o), (x, instObj 83 dx)]) (post := []) G₀ cA (.tail _ (.head _)) a₂ (by simp at z₂; omega) (by k_is) (by k_is) (by k_is) (by k_is) fun hB tkB es₃ n₃ cB a₃ z₃ => ?_
    refine xcons <| xasgA <| nmX cB hnt <| nmX cB hself ?_
    refine setA_ (pre := [(D, o), (x, instObj 83 dx)]) (post := []) G₀ cB (.tail _ (.head _)) a₃ (by simp at z₂; omega) (by k_is) (by k_is) (by k_is) (by k_is) fun hC tkC es₄ n₄ cC a₄ z₄ => ?_
    refine xcons <| xasgA <| eTup <| items1 <| callT (G₀.up cC.F.keep) n_tuple b_tuple <| nmX cC hcnt <| tupL_ (cC.lst (.head _) ho) (by omega) fun TC hE hTC hTC' uE => ?_
    have cE := cC.add uE hTC hTC'
    refine items1 <| nmX cE hb <| items0 <| mkTup_ (by simp) fun T hF hT hT' uF => ?_
    have cF := cE.add uF hT hT'
    refine nmX cF hself ?_
    refine setA_ (pre := [(T, _), (TC, _), (D, o), (x, instObj 83 dx)]) (post := []) G₀ cF (.tail _ (.tail _ (.tail _ (.head _)))) a₄ (by simp at z₂; omega) (by k_is) (by k_is) (by k_is) (by k_is) fun hG tkG es₅ n₅ cG a₅ z₅ => ?_
    refine xcons <| xasgA <| eCmp <| callB (G₀.up cG.F.keep) n_len b_len <| nmX cG hcnt <| len_ (cG.lst (.tail _ (.tail _ (.head _))) ho) (by omega) fun _ _ => cInt fun _ _ => eLe <| nmX cG hself ?_
    refine setA_ (pre := [(T, _), (TC, _), (D, o), (x, instObj 83 dx)]) (post := []) G₀ cG (.tail _ (.tail _ (.tail _ (.head _)))) a₅ (by simp at z₂; omega) (by k_is) (by k_is) (by k_is) (by k_is) fun hH tkH es₆ n₆ cH a₆ z₆ => ?_
    refine xnil ?_
    refine g _ _ cH.F.keep ⟨dx, es₆, n₆, _, T, TC, vs, tb, tn, 0, 0, cH.N.get (.tail _ (.tail _ (.tail _ (.head _)))), cH.N.get (.tail _ (.tail _ (.tail _ (.tail _ (.head _))))), a₆, by walk_at "lk", cH.N.get (.head _), cH.N.get (.tail _ (.head _)), hvs, by walk_at "lk", by walk_at "nolk", by walk_at "nolk", by walk_at "nolk"⟩
end

/-! ## Ws2 -/
theorem fill9_ (P : Params) : Challenge.rw_pg0178_01.prog = Challenge.rw_pg0178_01.prog ∧ hd.heap_39 P = hd.heap_39 P := by
  k_fill
  exact ⟨rfl, rfl⟩

section
variable {w : World} {A : Around} {s : Shared} {h : Heap} {tk : Nat}
/-- Whitespace(raw) -/
theorem make_spec {k : Nat} {raw : Str} {t : Tok} {R : Result → Shared → Prop} (G : Gd w h) (hA : Ao A (k + 2)) (hr : ∀ c ∈ raw.cps.toList, c = 32 ∨ c = 9) (hlen : raw.cps.size ≤ 60)
    (g : ∀ h' tk' x, Up h h' → WsAt h' x (wsRun raw).1 (wsRun raw).2.1 (wsRun raw).2.2 → R (.ok (.ret (.ref x))) (St s h' tk')) :
    Co w A (.call (.ref 83) ⟨[.str raw t], []⟩) R (St s h tk) := by
  have hm : makesIn (hd.heap_39 w.params) 83 = true := by k_is
  have hi : findIn (hd.heap_39 w.params) (.ref 83) "__init__" = some (some (.ref 38)) := by k_is
  have hf : isFn (hd.heap_39 w.params) (.ref 38) = true := by k_is
  refine ⟨make_core (makes_of G.k hm) (looks_findIn G.k hi) (fun self => bind_fn G.k self (beq_iff_eq.mp hf)) (.inl rfl) ?_⟩
  have e1 : (h.push emptyDict).objs.size = h.objs.size + 1 := Heap.size_push ..
  have z : Co w (A.under (.builtin "type.__call__" ⟨.ref 83 :: [.str raw t], []⟩)) (.call (.ref 38) ⟨[.ref (h.objs.size + 1), .str raw t], []⟩) (InitBack (h.objs.size + 1) R) (St s ((h.push emptyDict).push (instObj 83 h.objs.size)) tk) := by
    refine init_spec (h₀ := h) (dx := h.objs.size) G (fun b o e => Heap.get?_push_of_some _ (Heap.get?_push_of_some _ e)) (by rw [Heap.size_push, e1]; omega) ?_ (Heap.get?_push_of_some _ (Heap.get?_push_size _ rfl)) ?_ (get?_size h) (Nat.succ_ne_self _) hA.tc hr hlen fun h' tk' u W => ⟨rfl, g h' tk' _ u W⟩
    · rw [← e1]; exact Heap.get?_push_size _ rfl
    · cases q : h.get? (h.objs.size + 1) with
      | none => rfl
      | some o => exact absurd (Heap.lt_size q) (Nat.not_lt.mpr (Nat.le_succ _))
  exact z.h

theorem lenT_ {l : Addr} {vs : List Value} {Q : Value → Shared → Prop} (hl : IsTup h l vs.toArray) (hz : vs.length ≤ 1000) (g : ∀ tk' t', Q (.int vs.length t') (St s h tk')) : Wp w A (call (.builtin "len") [.ref l]) Q (St s h tk) :=
  ⟨len_tuple (s := St s h tk) hl (by simp; omega) (by rw [List.size_toArray]; exact g _ _)⟩
theorem itemT_ {value slice : Expr} {l : Addr} {vs : List Value} {k : Int} {x : Value} {t : Tok} {Q : Value → Shared → Prop} {s : Shared} (hl : IsTup s.heap l vs.toArray) (h0 : 0 ≤ k) (h1 : k ≤ 1000) (hx : vs[k.toNat]? = some x) (g : Q x s)
    (hs : subscripted slice false (.ref l) (.int k t) = operate [.ref l, .int k t] (getItem (.ref l) (.int k t)) := by with_unfolding_all rfl) (hg : ∀ r, letTemporaryGo value (.ref l) r = pure () := by intro _; with_unfolding_all rfl) :
    Wp w A (subscriptTail value slice (.ref l) (.int k t)) Q s :=
  ⟨item_tupleL hl (by omega) (by omega) (j := k.toNat) (by
    have : k.toNat < vs.length := (List.getElem?_eq_some_iff.mp hx).1
    unfold seqIndex?
    simp; omega) hx g hs hg⟩

def longI (cnt : List Int) (b : Int) : Int := if b > (cnt.length : Int) - 1 then b else (cnt.length : Int) - 1
theorem long_spec {k : Nat} {x : Addr} {cnt : List Int} {b nt : Int} {R : Result → Shared → Prop} (G : Gd w h) (hA : Ao A (k + 1)) (W : WsAt h x cnt b nt) (hz : cnt.length ≤ 100)
    (g : ∀ h' tk' t', Up h h' → R (.ok (.ret (.int (longI cnt b) t'))) (St s h' tk')) :
    Co w A (.call (.ref 45) ⟨[.ref x], []⟩) R (St s h tk) := by
  refine' enter [("self", .ref x)] G hA ?ho ?hcd ?hb ?hl ?_ ?hcell ?hco ?hgen ?hk
  walk_at "enter"
  intro L h₁ c a
  obtain ⟨dx, es, n, mA, T, C, vs, tb, tn, k1, k2, e1, e2, at_, e4, e5, e6, hi, e8, _⟩ := W
  have u := c.F.keep
  refine xcons <| xasgT <| eAttr <| nmX c (by walk_at "lk") <| getA_ (C := 83) (dx := dx) (G.up u) (u _ _ e1) (u _ _ e2) at_ e4 rfl (by k_is) (by k_is) (by k_is) (by k_is) fun tk₂ => ?_
  refine asgTup2 a.hh ⟨_, u _ _ e5, rfl, _, rfl⟩ fun h₂ u₂ => ?_
  have c₂ := c.up u₂
  refine stL c₂ fun h₃ tk₃ c₃ => stL c₃ fun h₄ tk₄ c₄ => ?_
  have hvl := hi.length
  refine xcons <| xret <| callB2 (G.up c₄.F.keep) n_max b_max <| eBin <| callB (G.up c₄.F.keep) n_len b_len <| nmX c₄ (by walk_at "lk") <| lenT_ (vs := vs) ⟨_, c₄.F.keep _ _ e6, rfl, _, rfl⟩ (by omega) fun _ _ => cInt fun _ _ => sub_ fun _ _ => nmX c₄ (by walk_at "lk") <| max2_ a.hh fun h₅ tk₅ t₅ u₅ => ?_
  rw [hvl]
  exact g _ _ _ (Up.trans c₄.F.keep u₅)

def ilStep (cnt : List Int) (ts il k : Int) : Int := il + Int.fdiv k ts * cnt.getD k.toNat 0
def ilN (cnt : List Int) (ts : Int) (n : Nat) : Int := (rng ts n).foldl (ilStep cnt ts) 0
theorem rng_succ (a : Int) (n : Nat) : rng a (n + 1) = rng a n ++ [a + (n : Int)] := by
  unfold rng
  rw [List.range_succ]; simp
theorem ilN_succ (cnt : List Int) (ts : Int) (n : Nat) : ilN cnt ts (n + 1) = ilStep cnt ts (ilN cnt ts n) (ts + (n : Int)) := by
  unfold ilN
  rw [rng_succ]; simp
def levelI (cnt : List Int) (b nt ts : Int) : Int := b + ts * (ilN cnt ts ((cnt.length : Int) - ts).toNat + nt)

theorem level_spec {k : Nat} {x : Addr} {cnt : List Int} {b nt ts : Int} {t : Tok} {R : Result → Shared → Prop} (G : Gd w h) (hA : Ao A (k + 1)) (W : WsAt h x cnt b nt) (hz : cnt.length ≤ 100) (h1 : 1 ≤ ts) (h2 : ts ≤ 100)
    (g : ∀ h' tk' t', Up h h' → R (.ok (.ret (.int (levelI cnt b nt ts) t'))) (St s h' tk')) :
    Co w A (.call (.ref 52) ⟨[.ref x, .int ts t], []⟩) R (St s h tk) := by
  refine' enter [("self", .ref x), ("tabsize", .int ts t)] G hA ?ho ?hcd ?hb ?hl ?_ ?hcell ?hco ?hgen ?hk
  walk_at "enter"
  intro L h₁ c a
  obtain ⟨dx, es, n, mA, T, C, vs, tb, tn, k1, k2, e1, e2, at_, e4, e5, e6, hi, e8, _⟩ := W
  have u := c.F.keep
  refine xcons <| xasgT <| eAttr <| nmX c (by walk_at "lk") <| getA_ (C := 83) (dx := dx) (G.up u) (u _ _ e1) (u _ _ e2) at_ e4 rfl (by k_is) (by k_is) (by k_is) (by k_is) fun tk₂ => ?_
  refine asgTup2 a.hh ⟨_, u _ _ e5, rfl, _, rfl⟩ fun h₂ u₂ => ?_
  have c₂ := c.up u₂
  refine stL c₂ fun h₃ tk₃ c₃ => stL c₃ fun h₄ tk₄ c₄ => ?_
  have hvl := hi.length
  refine xcons <| xasg <| cInt fun _ _ => stL c₄ fun h₅ tk₅ c₅ => ?_
  refine xcons <| for_ <| callT2 (G.up c₅.F.keep) n_range b_range <| nmX c₅ (by walk_at "lk") <| callB (G.up c₅.F.keep) n_len b_len <| nmX c₅ (by walk_at "lk") <| lenT_ (vs := vs) ⟨_, c₅.F.keep _ _ e6, rfl, _, rfl⟩ (by omega) fun _ _ => range2_ fun h₆ tk₆ rr t' u' v' hr u₆ => ?_
  have c₆ := c₅.up u₆
  refine iter_range (s = ·) (fun i m nx => nx = [] ∧ (∃ t, m "il" = some (.int (ilN cnt ts i) t)) ∧ m "self" = some (.ref x) ∧ m "tabsize" = some (.int ts t) ∧ m "count" = some (.ref C) ∧ m "trailing" = some (.int b tb)) a.hh hr (by omega) (by omega) rfl rfl c₆
    ⟨rfl, ⟨_, if_pos rfl⟩, by walk_at "lk", by walk_at "lk", by walk_at "lk", by walk_at "lk"⟩ ?_ ?_
  · rintro i ti _ m₁ nx h₇ tk₇ own rfl hlt ⟨rfl, ⟨tl, hil⟩, hself, hts, hcnt, htr⟩ c₇
    refine xname <| stL c₇ fun h₈ tk₈ c₈ => ?_
    have hk : (ts + (i : Int)).toNat < cnt.length := by omega
    obtain ⟨tv, hv⟩ := hi.get (ts + (i : Int)).toNat (cnt.getD (ts + (i : Int)).toNat 0) (by rw [List.getD_eq_getElem?_getD]; simp [hk])
    refine xcons <| xasg <| eBin <| nmX c₈ (by walk_at "lk") <| eBin <| eBin <| nmX c₈ (by walk_at "lk") <| nmX c₈ (by walk_at "lk") <| fdiv_ (by omega) (by omega) fun _ _ => eSub <| nmX c₈ (by walk_at "lk") <| nmX c₈ (by walk_at "lk") <| itemT_ (vs := vs) ⟨_, c₈.F.keep _ _ e6, rfl, _, rfl⟩ (by omega) (by omega) hv <|
      mul_ ?_ fun _ _ => add_ fun _ _ => stL c₈ fun h₉ tk₉ c₉ => xnil ?_
    · have a1 : Int.fdiv (ts + i) ts = (ts + i) / ts := Int.fdiv_eq_ediv_of_nonneg _ (by omega)
      rw [a1]
      have a2 := Int.ediv_le_self (a := ts + (i : Int)) ts (by omega)
      have a3 : 0 ≤ (ts + (i : Int)) / ts := Int.ediv_nonneg (by omega) (by omega)
      omega
    refine TurnE.intro (nx := []) rfl c₉ ⟨rfl, ⟨_, by rw [ilN_succ]; exact if_pos rfl⟩, by walk_at "lk", by walk_at "lk", by walk_at "lk", by walk_at "lk"⟩
  · rintro _ h' tk' m' nx rfl ⟨rfl, ⟨tl, hil⟩, hself, hts, hcnt, htr⟩ c'
    have u' := c'.F.keep
    refine xnil <| xcons <| xret <| eBin <| nmX c' htr <| eBin <| nmX c' hts <| eBin <| nmX c' hil <| eAttr <| nmX c' hself <| getA_ (C := 83) (dx := dx) (G.up u') (u' _ _ e1) (u' _ _ e2) at_ e8 rfl (by k_is) (by k_is) (by k_is) (by k_is) fun tk₂ => ?_
    refine add_ fun _ _ => mul_ (by omega) fun _ _ => add_ fun _ _ => ?_
    rw [hvl]
    exact g _ _ _ u'
end

/-! ## Wit -/
theorem fill10_ (P : Params) : Challenge.rw_pg0178_01.prog = Challenge.rw_pg0178_01.prog ∧ hd.heap_39 P = hd.heap_39 P := by
  k_fill
  exact ⟨rfl, rfl⟩

theorem app_mid {α : Type} (a : List α) (x : α) (b c : List α) : a ++ x :: (b ++ c) = (a ++ x :: b) ++ c := by simp
def TripN (news : List (Addr × Obj)) (p : Int × Int × Int) (v : Value) : Prop := ∃ T ta tb tc k, v = .ref T ∧ (T, tupO #[.int p.1 ta, .int p.2.1 tb, .int p.2.2 tc] k) ∈ news
def TripV (h : Heap) (p : Int × Int × Int) (v : Value) : Prop := ∃ T ta tb tc k, v = .ref T ∧ h.get? T = some (tupO #[.int p.1 ta, .int p.2.1 tb, .int p.2.2 tc] k)
theorem TripV.up {h h' : Heap} {p : Int × Int × Int} {v : Value} (a : TripV h p v) (u : Up h h') : TripV h' p v := let ⟨T, ta, tb, tc, k, e, f⟩ := a; ⟨T, ta, tb, tc, k, e, u _ _ f⟩
theorem TripN.mono {a b : List (Addr × Obj)} {p : Int × Int × Int} {v : Value} (x : TripN a p v) (s : ∀ q ∈ a, q ∈ b ∨ ∃ its n, q.2 = listOf its n) : TripN b p v := by
  obtain ⟨T, ta, tb, tc, k, e, f⟩ := x
  rcases s _ f with f | ⟨its, n, f⟩
  · exact ⟨T, ta, tb, tc, k, e, f⟩
  · have : Value.type "tuple" = Value.type "list" := congrArg Obj.cls f
    exact absurd this (by decide)
abbrev WsD := List Int × Int × Int
def levW (a : WsD) (ts : Int) : Int := levelI a.1 a.2.1 a.2.2 ts
def witRow (a b : WsD) (ts : Int) : List (Int × Int × Int) := if levW a ts != levW b ts then [(ts, levW a ts, levW b ts)] else []
def witN (a b : WsD) (n : Nat) : List (Int × Int × Int) := (rng 1 n).flatMap (witRow a b)
theorem witN_succ (a b : WsD) (n : Nat) : witN a b (n + 1) = witN a b n ++ witRow a b (1 + (n : Int)) := by
  unfold witN
  rw [rng_succ, List.flatMap_append]; simp
theorem witN_len (a b : WsD) : ∀ n, (witN a b n).length ≤ n
  | 0 => by simp [witN, rng]
  | n + 1 => by
    rw [witN_succ, List.length_append]
    have := witN_len a b n
    have : (witRow a b (1 + (n : Int))).length ≤ 1 := by unfold witRow; split <;> simp
    omega
def longW (a : WsD) : Int := longI a.1 a.2.1
def witMax (a b : WsD) : Int := (if longW b > longW a then longW b else longW a) + 1
def wits (a b : WsD) : List (Int × Int × Int) := witN a b (witMax a b).toNat

section
variable {w : World} {A : Around} {s : Shared} {h : Heap} {tk : Nat} {env : Env} {pos : Pos}
theorem methD0 {f : Addr} {first : List Value} {Q : Value → Shared → Prop} {s : Shared} (ek : keepIn (hd.heap_39 w.params) (.ref f) = true) (X : (hd.heap_39 w.params).In s.heap)
    (g : Co w A (.call (.ref f) ⟨first ++ [], []⟩) (fun r s' => match r with | .ok (.ret v) => Q v s' | _ => False) s) : Wp w A (callWith pos (.ref f) first (backTo pos (starEach [] env)) []) Q s :=
  args0 (Frag.In (hd.heap_39 w.params)) (keeps_K ek) X (call_ g)
theorem methD1 {f : Addr} {first : List Value} {e : Expr} {Q : Value → Shared → Prop} {s : Shared} (ek : keepIn (hd.heap_39 w.params) (.ref f) = true)
    (g : Wp w A (eval e env) (fun v s₁ => (hd.heap_39 w.params).In s₁.heap ∧ Co w A (.call (.ref f) ⟨first ++ [v], []⟩) (fun r s' => match r with | .ok (.ret v) => Q v s' | _ => False) s₁) s) (he : isStarred e = false := by rfl) : Wp w A (callWith pos (.ref f) first (backTo pos (starEach [e] env)) []) Q s :=
  args1 (Frag.In (hd.heap_39 w.params)) he (keeps_K ek) (g.mono fun _ _ z => ⟨z.1, call_ z.2⟩)
theorem appP_ {h₀ : Heap} {L : Addr} {m : Str → Option Value} {D : Addr} {its : Array Value} {n : Nat} {v : Value} {pre post : List (Addr × Obj)} {Q : Value → Shared → Prop} (c : Cx h₀ L h m (pre ++ (D, listOf its n) :: post)) (hz : its.size ≤ 1000)
    (g : ∀ h' n', Cx h₀ L h' m (pre ++ (D, listOf (its.push v) n') :: post) → Q .none (St s h' tk)) : Wp w A (call (.builtin "list.append") [.ref D, v]) Q (St s h tk) :=
  ⟨wpAny_list_append_plain (s := St s h tk) (hsz := by rw [sizeLine_eq]; omega) ⟨n, (c.N _ (List.mem_append_right _ (.head _))).1⟩ fun h' hl hs => by
    obtain ⟨n', hn'⟩ := hl
    exact g h' n' (c.set hs hn')⟩
abbrev WsA (h : Heap) (x : Addr) (a : WsD) : Prop := WsAt h x a.1 a.2.1 a.2.2
theorem mLong {k : Nat} {x : Addr} {a : WsD} {o : Str} {ap op : Pos} {Q : Value → Shared → Prop} {h₀ : Heap} {m : Str → Option Value} {news : List (Addr × Obj)} (G : Gd w h) (hA : Ao A (k + 1)) (W : WsA h x a) (hz : a.1.length ≤ 100) (c : Cx h₀ env.locals h m news) (hv : m o = some (.ref x))
    (g : ∀ h' tk' t', Up h h' → Q (.int (longW a) t') (St s h' tk'))
    (hk : env.scope.kind = .function := by rfl) (hx : env.kindOf o = some .local := by kernel_rfl) (hdb : (o == ("__debug__" : Str)) = false := by kernel_rfl) (hp : (ap.endLine == pos.line) = true := by rfl) : Wp w A (eval (.Call (.Attribute (.Name o op) "longest_run_of_spaces" ap) [] [] pos) env) Q (St s h tk) := by
  obtain ⟨dx, es, n, mA, T, C, vs, tb, tn, k1, k2, e1, e2, at_, e4, e5, e6, hi, e8, e9, e10, e11⟩ := id W
  have h1 : plainGet (hd.heap_39 w.params) 83 "longest_run_of_spaces" = true := by k_is
  have h2 : findIn (hd.heap_39 w.params) (.ref 83) "longest_run_of_spaces" = some (some (.ref 45)) := by k_is
  have h3 : isFn (hd.heap_39 w.params) (.ref 45) = true := by k_is
  have h4 : keepIn (hd.heap_39 w.params) (.ref 45) = true := by k_is
  refine meth0 (nmX c hv (gMeth G e1 e2 at_ e9 h1 h2 h3 (methD0 h4 G.k ?_)) hk hx hdb) rfl hp
  exact long_spec G hA W hz g
theorem mLevel {k : Nat} {x : Addr} {a : WsD} {o y : Str} {ap op yp : Pos} {ts : Int} {t : Tok} {Q : Value → Shared → Prop} {h₀ : Heap} {m : Str → Option Value} {news : List (Addr × Obj)} (G : Gd w h) (hA : Ao A (k + 1)) (W : WsA h x a) (hz : a.1.length ≤ 100) (h1 : 1 ≤ ts) (h2 : ts ≤ 100) (c : Cx h₀ env.locals h m news) (hv : m o = some (.ref x)) (hy : m y = some (.int ts t))
    (g : ∀ h' tk' t', Up h h' → Q (.int (levW a ts) t') (St s h' tk'))
    (hk : env.scope.kind = .function := by rfl) (hx : env.kindOf o = some .local := by kernel_rfl) (hdb : (o == ("__debug__" : Str)) = false := by kernel_rfl) (hxy : env.kindOf y = some .local := by kernel_rfl) (hdy : (y == ("__debug__" : Str)) = false := by kernel_rfl) (hp : (ap.endLine == pos.line) = true := by rfl) :
    Wp w A (eval (.Call (.Attribute (.Name o op) "indent_level" ap) [.Name y yp] [] pos) env) Q (St s h tk) := by
  obtain ⟨dx, es, n, mA, T, C, vs, tb, tn, k1, k2, e1, e2, at_, e4, e5, e6, hi, e8, e9, e10, e11⟩ := id W
  have h1' : plainGet (hd.heap_39 w.params) 83 "indent_level" = true := by k_is
  have h2' : findIn (hd.heap_39 w.params) (.ref 83) "indent_level" = some (some (.ref 52)) := by k_is
  have h3 : isFn (hd.heap_39 w.params) (.ref 52) = true := by k_is
  have h4 : keepIn (hd.heap_39 w.params) (.ref 52) = true := by k_is
  refine meth1 (nmX c hv (gMeth G e1 e2 at_ e10 h1' h2' h3 (methD1 h4 (nmX c hy ⟨G.k, ?_⟩ hk hxy hdy))) hk hx hdb) rfl rfl hp
  exact level_spec G hA W hz h1 h2 g

theorem wit_spec {k : Nat} {x y : Addr} {p q : WsD} {R : Result → Shared → Prop} (G : Gd w h) (hA : Ao A (k + 2)) (Wx : WsA h x p) (Wy : WsA h y q) (hp : p.1.length ≤ 60) (hq : q.1.length ≤ 60) (bp : 0 ≤ p.2.1 ∧ p.2.1 ≤ 60) (bq : 0 ≤ q.2.1 ∧ q.2.1 ≤ 60)
    (g : ∀ h' tk' D its nn nx, (∀ p ∈ nx, h.get? p.1 = none ∧ h'.get? p.1 = some p.2) → (nx.map (·.1)).Nodup → (D, listOf its nn) ∈ nx → Paired (TripN nx) (wits p q) its.toList → Up h h' → R (.ok (.ret (.ref D))) (St s h' tk')) :
    Co w A (.call (.ref 66) ⟨[.ref x, .ref y], []⟩) R (St s h tk) := by
  refine' enter [("self", .ref x), ("other", .ref y)] G hA ?ho ?hcd ?hb ?hl ?_ ?hcell ?hco ?hgen ?hk
  walk_at "enter"
  intro L h₁ c a
  have hl1 : longW p ≤ 60 ∧ 0 ≤ longW p := by unfold longW longI; split <;> omega
  have hl2 : longW q ≤ 60 ∧ 0 ≤ longW q := by unfold longW longI; split <;> omega
  have hmx : (if longW q > longW p then longW q else longW p) ≤ 60 ∧ 0 ≤ (if longW q > longW p then longW q else longW p) := by split <;> omega
  refine xcons <| xasg <| eBin <| callB2 (G.up c.F.keep) n_max b_max <| mLong (G.up c.F.keep) a (Wx.up c.F.keep) (by omega) c (by walk_at "lk") fun h₂ tk₂ t₂ u₂ => ?_
  have c₂ := c.up u₂
  refine mLong (G.up c₂.F.keep) a (Wy.up c₂.F.keep) (by omega) c₂ (by walk_at "lk") fun h₃ tk₃ t₃ u₃ => max2_ a.hh fun h₄ tk₄ t₄ u₄ => cInt fun _ _ => add_ fun _ _ => ?_
  have c₄ := (c₂.up u₃).up u₄
  refine stL c₄ fun h₅ tk₅ c₅ => ?_
  refine xcons <| xasg <| eList <| items0 <| mkList_ (by simp) fun D h₆ hD hD' u₆ => ?_
  have c₆ := c₅.add u₆ hD hD'
  refine stL c₆ fun h₇ tk₇ c₇ => ?_
  refine xcons <| for_ <| callT2 (G.up c₇.F.keep) n_range b_range <| cInt fun _ _ => eBin <| nmX c₇ (by walk_at "lk") <| cInt fun _ _ => add_ fun _ _ => range2_ fun h₈ tk₈ rr t' u' v' hr u₈ => ?_
  have c₈ := c₇.up u₈
  refine iter_range (n := (witMax p q).toNat) (s = ·) (fun i m nx => ∃ pre post its nn, nx = pre ++ (D, listOf its nn) :: post ∧ Paired (TripN nx) (witN p q i) its.toList ∧ m "self" = some (.ref x) ∧ m "other" = some (.ref y) ∧ m "a" = some (.ref D)) a.hh hr (by omega) (by omega)
    (by unfold witMax; omega) rfl c₈ ⟨[], [], #[], 0, rfl, .nil, by walk_at "lk", by walk_at "lk", by walk_at "lk"⟩ ?_ ?_
  · rintro i ti _ m₁ nx hA₁ tkA own rfl hlt ⟨pre, post, its, nn, rfl, hits, hself, hother, ha⟩ cA
    have hwl := witN_len p q i
    have hil : its.size ≤ i := by have := hits.length; simp at this; omega
    have hi60 : i ≤ 61 := by unfold witMax at hlt; omega
    refine xname <| stL cA fun hB tkB cB => ?_
    refine xcons <| xif <| tCmp <| mLevel (ts := 1 + (i : Int)) (G.up cB.F.keep) a (Wx.up cB.F.keep) (by omega) (by omega) (by omega) cB (by walk_at "lk") (by walk_at "lk") fun hC tkC t1 uC => ?_
    have cC := cB.up uC
    refine mLevel (ts := 1 + (i : Int)) (G.up cC.F.keep) a (Wy.up cC.F.keep) (by omega) (by omega) (by omega) cC (by walk_at "lk") (by walk_at "lk") fun hE tkE t2 uE => eNe <| tBool ?_
    have cE := cC.up uE
    by_cases hne : (levW p (1 + (i : Int)) != levW q (1 + (i : Int))) = true
    · rw [hne]
      simp only [if_true]
      refine xcons <| xexpr <| meth1 <| nmX cE (by walk_at "lk") <| gApp (cE.N.get (List.mem_append_left _ (List.mem_append_right _ (.head _)))) <| bi1 <| eTup <| items1 <| nmX cE (by walk_at "lk") <| items1 <|
        mLevel (ts := 1 + (i : Int)) (G.up cE.F.keep) a (Wx.up cE.F.keep) (by omega) (by omega) (by omega) cE (by walk_at "lk") (by walk_at "lk") fun hF tkF t3 uF => ?_
      have cF := cE.up uF
      refine items1 <| mLevel (ts := 1 + (i : Int)) (G.up cF.F.keep) a (Wy.up cF.F.keep) (by omega) (by omega) (by omega) cF (by walk_at "lk") (by walk_at "lk") fun hG tkG t4 uG => ?_
      have cG := cF.up uG
      refine items0 <| mkTup_ (by simp) fun T hH hT hT' uH => ?_
      have cH := cG.add uH hT hT'
      rw [← app_mid] at cH
      refine appP_ (pre := (T, _) :: pre) (post := post ++ own) cH (by omega) fun hI nI cI => xnil <| xnil ?_
      rw [app_mid] at cI
      refine TurnE.intro rfl cI ⟨(T, _) :: pre, post, _, nI, rfl, ?_, by walk_at "lk", by walk_at "lk", by walk_at "lk"⟩
      rw [witN_succ, show witRow p q (1 + (i : Int)) = [(1 + (i : Int), levW p (1 + (i : Int)), levW q (1 + (i : Int)))] by unfold witRow; rw [if_pos hne]]
      rw [Array.toList_push]
      refine Paired.snoc (Paired.mono (fun a b z => z.mono ?_) hits) ⟨T, _, _, _, _, rfl, .head _⟩
      intro r hr
      rcases List.mem_append.mp hr with hr | hr
      · exact .inl (.tail _ (List.mem_append_left _ hr))
      · rcases List.mem_cons.mp hr with rfl | hr
        · exact .inr ⟨_, _, rfl⟩
        · exact .inl (.tail _ (List.mem_append_right _ (.tail _ hr)))
    · rw [Bool.not_eq_true] at hne
      rw [hne]
      simp only [Bool.false_eq_true, if_false]
      refine xnil <| xnil ?_
      refine TurnE.intro rfl cE ⟨pre, post, its, nn, rfl, ?_, by walk_at "lk", by walk_at "lk", by walk_at "lk"⟩
      rw [witN_succ, show witRow p q (1 + (i : Int)) = [] by unfold witRow; rw [hne]; rfl, List.append_nil]
      exact hits
  · rintro _ h' tk' m' nx rfl ⟨pre, post, its, nn, rfl, hits, hself, hother, ha⟩ c'
    refine xnil <| xcons <| xret <| nmX c' ha ?_
    exact g _ _ D its nn _ (fun p hp => ⟨(c'.N p hp).2.2, (c'.N p hp).1⟩) c'.D (List.mem_append_right _ (.head _)) hits c'.F.keep
end

/-! ## Fmt -/
theorem fill11_ (P : Params) : Challenge.rw_pg0178_01.prog = Challenge.rw_pg0178_01.prog ∧ hd.heap_39 P = hd.heap_39 P := by
  k_fill
  exact ⟨rfl, rfl⟩

/-! ### format_witnesses -/
def strI (n : Int) : Str := Str.ofString (toString n)
def fmtS (trips : List (Int × Int × Int)) : Str := ((if (1 : Int) < trips.length then ("at tab size" : Str) ++ "s" else "at tab size") ++ " ") ++ Txt.join ", " (trips.map fun p => strI p.1)

structure TabOk (h : Heap) (ps : Array Value) : Prop where
  ok : h.IsCode 93 89 ps
  tab : h.TableAt 93 89 ps
theorem TabOk.at {h h' : Heap} {ps : Array Value} (t : TabOk h ps) (k93 : ∀ o, h.get? 93 = some o → h'.get? 93 = some o) (k89 : ∀ o, h.get? 89 = some o → h'.get? 89 = some o) : TabOk h' ps := by
  obtain ⟨⟨o, vs, file, tf, flags, tg, inF, text, tt, op, a, r1, r2, r3, r4, r5, r6, b, r⟩, ⟨o2, vs2, e, r'⟩, t'⟩ := t
  exact ⟨⟨o, vs, file, tf, flags, tg, inF, text, tt, op, k93 _ a, r1, r2, r3, r4, r5, r6, k89 _ b, r⟩, ⟨⟨o2, vs2, k93 _ e, r'⟩, k89 _ t'⟩⟩
abbrev tabO (ps : Array Value) : Obj := { cls := .none, data := .fields ps }

theorem hide_get {h : Heap} {a b : Addr} {o : Obj} (hb : b ≠ a) (e : h.get? b = some o) : (h.hide a).get? b = some o := (Heap.hide_ne h hb).trans e
theorem hide_up {h : Heap} {a : Addr} : Up (h.hide a) h := fun b o e => by
  by_cases hb : b = a
  · subst hb; rw [Heap.hide_self] at e; cases e
  · rwa [Heap.hide_ne h hb] at e
theorem Gd.hide {w : World} {h : Heap} {ps : Array Value} (G : Gd w h) (e : h.get? 89 = some (tabO ps)) : Gd w (h.hide 89) := by
  have ns : ∀ {L : Addr} {m : Str → Option Value}, h.Ns L m → (h.hide 89).Ns L m := by
    intro L m hn
    have hL : L ≠ 89 := by
      rintro rfl
      obtain ⟨o, es, ep, ho, hd, _⟩ := hn
      rw [e] at ho; cases ho; cases hd
    exact hn.at' fun o q => hide_get hL q
  obtain ⟨p, l, mg, mb, bm, ob, T, ⟨mc, hn, hm⟩, M⟩ := G.t
  refine ⟨fun b o q => ?_, p, l, mg, mb, bm, ob, ⟨ns T.g, ns T.b, let ⟨mc, a, b⟩ := T.nolimit; ⟨mc, ns a, b⟩, T.builtins, T.free⟩, ⟨mc, ns hn, hm⟩, ⟨ns M.ns, M.name, M.ne, ?_, M.cls, M.dict, M.data⟩⟩
  · have h89 : (hd.heap_39 w.params).lookup 89 = none := by kernel_rfl
    have hb : b ≠ 89 := fun x => by rw [x, h89] at q; cases q
    exact hide_get hb (G.k _ _ q)
  · refine hide_get (fun x => ?_) M.obj
    have h1 := M.obj
    rw [x, e] at h1
    have h2 := M.cls
    rw [← Option.some.inj h1] at h2
    cases h2

section
variable {w : World} {A : Around} {s : Shared} {h : Heap} {tk : Nat} {env : Env} {pos : Pos}
theorem genCode_ {M : Model} {E : Value → Shared → Prop} {s : Shared} {ps : Array Value} {qualname : Str} {scope : Scope} {Q : Value → Shared → Prop} (hc : env.code = .ref 93) (t : TabOk s.heap ps)
    (hQ : ∀ code h' tk ps', Heap.ExtBut 89 s.heap h' → s.heap.objs.size ≤ h'.objs.size → TabOk h' ps' → Q code { s with heap := h', toks := tk }) : wpAny M A (genexprCode env pos qualname scope) Q E s := by
  cases q : codeAmong pos ps.toList with
  | some c' => exact wpAny_genexprCode_hit hc t.ok q (hQ c' s.heap s.toks ps (Heap.ExtBut.refl _ _) (Nat.le_refl _) t)
  | none => exact wpAny_genexprCodeX hc t.ok t.tab q fun c' h' tk hx hge hlt ok _ tab _ => hQ _ h' tk _ hx (Nat.le_trans hge (Nat.le_of_lt hlt)) ⟨ok, tab⟩

theorem Cx.ext {h₀ h h' : Heap} {L D : Addr} {m : Str → Option Value} {o o' : Obj} {pre post : List (Addr × Obj)} (c : Cx h₀ L h m (pre ++ (D, o) :: post)) (hx : Heap.ExtBut D h h') (ho : h'.get? D = some o') : Cx h₀ L h' m (pre ++ (D, o') :: post) := by
  have hD := c.N (D, o) (List.mem_append_right _ (.head _))
  have nd : ((pre.map (·.1)) ++ D :: post.map (·.1)).Nodup := by simpa using c.D
  obtain ⟨n1, n2, n3⟩ := List.nodup_append.mp nd
  have other : ∀ p, p ∈ pre ++ (D, o) :: post → p.1 ≠ D → h'.get? p.1 = some p.2 ∧ p.1 ≠ L ∧ h₀.get? p.1 = none := fun p hp ne => ⟨hx _ _ ne (c.N p hp).1, (c.N p hp).2⟩
  refine ⟨⟨c.F.ns.at' fun o e => hx _ _ (Ne.symm hD.2.1) e, fun b x e => hx b x (fun q => ?_) (c.F.keep b x e), c.F.above⟩, fun p hp => ?_, by simpa using c.D⟩
  · rw [q, hD.2.2] at e; cases e
  · rcases List.mem_append.mp hp with q | q
    · exact other p (List.mem_append_left _ q) (n3 p.1 (List.mem_map_of_mem q) D (.head _))
    · rcases List.mem_cons.mp q with rfl | q
      · exact ⟨ho, hD.2⟩
      · exact other p (List.mem_append_right _ (.tail _ q)) fun e => (List.nodup_cons.mp n2).1 (e ▸ List.mem_map_of_mem q)

abbrev pT : Nat → Bool := fun _ => true
/-- a generator over a list, not yet begun -/
def GenZ (w : World) (A : Around) (h₀ : Heap) (a C I : Addr) (oa oC oI : Obj) (n : Nat) (F : Nat → Value → Prop) (s : Shared) : Prop :=
  ∃ g fp, WalksS PR w A.in4 a (a :: C :: fp) (C :: [I]) (GenOnlyQ g) (passing pT n 0).length (fun j y => ∃ i, (passing pT n 0)[j]? = some i ∧ F i y) (GenAt PR w A.in4 a g C fp [I] pT n F) ∧
    (∀ b ∈ fp, b = I ∨ ∃ o, h₀.get? b = some o) ∧
    ∀ h' tk', h'.get? a = some oa → h'.get? C = some oC → h'.get? I = some oI → Up h₀ h' → GenAt PR w A.in4 a g C fp [I] pT n F 0 (St s h' tk')

theorem genZ_ {h₀ : Heap} {m : Str → Option Value} {news : List (Addr × Obj)} {elt iter : Expr} {x : Str} {px : Pos} {scope : Scope} {l : Addr} {its : List Value} {ps : Array Value} {F : Nat → Value → Prop} {Q : Value → Shared → Prop}
    (c : Cx h₀ env.locals h m ((89, tabO ps) :: news)) (G : Gd w h₀) (t : TabOk h ps) (h93 : ∃ o, h₀.get? 93 = some o) (hl : h₀.IsList l its.toArray) (hb : AllBare s.gens) (hcode : env.code = .ref 93)
    (hh : A.handled = none) (hroom : A.depth + 10 ≤ recursionLimit)
    (hit : Wp w A (eval iter env) (fun v s₁ => v = .ref l ∧ s₁ = St s h tk) (St s h tk))
    (helt : ∀ C code (A' : Around) i v (s' : Shared) h₂ tk₂ m₂, its[i]? = some v → Up h₀ h₂ → h₂.Ns C m₂ → m₂ x = some v →
      Wp w A' (eval elt (genEnv scope [] C code builtinsNs env)) (fun y s₃ => F i y ∧ ∃ h₃ tk₃, s₃ = St s' h₃ tk₃ ∧ Up h₂ h₃) (St s' h₂ tk₂))
    (k : ∀ a C I oa oC oI s' h' tk' ps', Cx h₀ env.locals h' m ((a, oa) :: (C, oC) :: (I, oI) :: (89, tabO ps') :: news) → TabOk h' ps' → AllBare s'.gens → s'.os = s.os → oa.cls = .type "generator" → GenZ w A h₀ a C I oa oC oI its.length F s' → Q (.ref a) (St s' h' tk'))
    (hco : scope.isCoroutine = false) (hclos : closureFor scope env = pure []) (hcell : ∀ y ∈ scope.names, y.2 ≠ .cell) (h0 : scope.names.lookup (".0" : Str) = some NameKind.local)
    (hx : scope.names.lookup x = some .local) (hkind : scope.kind = .function) (hg : env.globals = mainGlobals := by rfl) (hs : ∀ x, genFold iter env x = pure x := by intro _; rfl) :
    Wp w A (eval (.GeneratorExp elt [⟨.Name x px, iter, [], 0⟩] scope pos) env) Q (St s h tk) := by
  have G₁ := G.up c.F.keep
  obtain ⟨p, lo, mg, mb, bm, ob, T, _, M⟩ := G₁.t
  have hl₁ : h.IsList l its.toArray := Heap.IsList.up hl c.F.keep
  obtain ⟨o93, ho93⟩ := h93
  have hl0 : l < h.objs.size := by obtain ⟨o, ho, _⟩ := hl₁; exact Heap.lt_size ho
  refine ⟨wpAny_GeneratorExp_make hco hclos hcell h0 hkind (by omega) (hit.nest fun xv s₁ e => ?_) hs⟩
  obtain ⟨rfl, rfl⟩ := e
  refine wpAny_pyIter_list (s := St s h tk) hl₁ ?_
  have up₂ : Up h (h.push { cls := .type "list_iterator", data := .fields #[.ref l, .int 0 0] }) := fun b o e => Heap.get?_push_of_some _ e
  refine ⟨T.nolimit.keeps up₂, genCode_ (ps := ps) hcode (t.at (fun o e => up₂ _ _ e) (fun o e => up₂ _ _ e)) fun code h₃ tk₃ ps' hx₃ hge t₃ => ?_⟩
  have t₂ := t.at (h' := h.push { cls := .type "list_iterator", data := .fields #[.ref l, .int 0 0] }) (fun o e => up₂ _ _ e) (fun o e => up₂ _ _ e)
  have M₃ : BMod h₃ mainGlobals mg bm ob := (M.keeps up₂).extBut t₂.tab hx₃
  refine wpAny_builtinsFor (hg ▸ M₃.ns) M₃.name M₃.ne M₃.obj M₃.cls M₃.dict M₃.data ?_
  intro h' hn' hs'
  have c₂ := c.push { cls := .type "list_iterator", data := .fields #[.ref l, .int 0 0] }
  have c₃ := Cx.ext (pre := [(h.objs.size, _)]) c₂ hx₃ t₃.tab.2
  have u₃ : Up h₃ h' := fun b o e => hs'.extBut b o (Nat.ne_of_lt (Heap.lt_size e)) (Heap.get?_push_of_some _ e)
  obtain ⟨oC, esC, epC, hoC, hdC, hrC⟩ := id hn'
  have c₄ := c₃.add u₃ (get?_size h₃) hoC
  have c₅ := c₄.push { cls := .type "generator", data := .fields #[.int s.gens.size 0, .str "<genexpr>" (tk₃ + 1), .str (env.qual ++ "<genexpr>") (tk₃ + 1 + 1)] }
  have u₅ : Up h' (h'.push { cls := .type "generator", data := .fields #[.int s.gens.size 0, .str "<genexpr>" (tk₃ + 1), .str (env.qual ++ "<genexpr>") (tk₃ + 1 + 1)] }) := fun b o e => Heap.get?_push_of_some _ e
  have hsz' : h'.objs.size = h₃.objs.size + 1 := by rw [hs'.1, Heap.size_push]
  have hsz₂ : h.objs.size + 1 ≤ h₃.objs.size := by
    have := hge
    rwa [Heap.size_push] at this
  have hL0 : h₀.objs.size < h.objs.size := Nat.lt_of_le_of_lt c.F.above c.F.ns.lt
  have hI0 : h₀.get? h.objs.size = none := (c₂.N _ (.head _)).2.2
  have hcs : ∃ o, h₀.get? cStatics = some o := by
    obtain ⟨_, _, _, _, _, _, T₀, _, _⟩ := G.t
    obtain ⟨_, ⟨o, _, _, ho, _⟩, _⟩ := T₀.nolimit
    exact ⟨o, ho⟩
  obtain ⟨ocs, hocs⟩ := hcs
  have hcs0 : cStatics < h₀.objs.size := Heap.lt_size hocs
  have hmem : ∀ b o, h₀.get? b = some o → b ∈ (List.range h₀.objs.size).filter (fun b => (h₀.get? b).isSome) := fun b o e => List.mem_filter.mpr ⟨List.mem_range.mpr (Heap.lt_size e), by rw [e]; rfl⟩
  have hfp : ∀ b ∈ h.objs.size :: (List.range h₀.objs.size).filter (fun b => (h₀.get? b).isSome), b ≤ h.objs.size := fun b hb => by
    rcases List.mem_cons.mp hb with rfl | hb
    · exact Nat.le_refl _
    · exact Nat.le_of_lt (Nat.lt_trans (List.mem_range.mp (List.mem_filter.mp hb).1) hL0)
  obtain ⟨ol, hol, hol'⟩ := id hl
  refine k _ _ _ _ _ _ { s with gens := s.gens.push (.fresh (.compStart (.GeneratorExp elt [⟨.Name x px, iter, [], 0⟩] scope pos) 0 (.ref h.objs.size) .none (genEnv scope [] h₃.objs.size code builtinsNs env))) } _ _ ps' c₅ (t₃.at (fun o e => u₅ _ _ (u₃ _ _ e)) (fun o e => u₅ _ _ (u₃ _ _ e))) (hb.push rfl) rfl rfl
    ⟨s.gens.size, h.objs.size :: (List.range h₀.objs.size).filter (fun b => (h₀.get? b).isSome), WalksS.genexpQ (A := A.in4) hh _ _ _ _ _ _ _ _ (by rw [hsz']; exact Nat.succ_ne_self _) (fun hm => by have := hfp _ hm; omega) (fun b hb => by rw [List.mem_singleton.mp hb]; exact .head _) (by show A.depth < recursionLimit; omega)
      (.tail _ (hmem _ _ hocs)) (Nat.ne_of_lt (Nat.lt_of_lt_of_le (Nat.lt_trans hcs0 hL0) (Nat.le_trans (Nat.le_succ _) hsz₂))) (fun hm => absurd (List.mem_singleton.mp hm) (Nat.ne_of_lt (Nat.lt_trans hcs0 hL0))), fun b hb => ?_, fun h'' tk'' ea eC eI u₀ => ?_⟩
  · rcases List.mem_cons.mp hb with rfl | hb
    · exact .inl rfl
    · right
      have := (List.mem_filter.mp hb).2
      exact Option.isSome_iff_exists.mp this
  · have hne : l ≠ h.objs.size := Nat.ne_of_lt hl0
    refine GenAt.freshD (A := A.in4) (cenv := genEnv scope [] h₃.objs.size code builtinsNs env) hh (fun A' hA => (Walks.list (prog := PR) (w := w) hA h.objs.size l hne its.toArray).mono_fp fun b hb => ?_) pT F hx (by simp [genEnv, hkind]) hco (fun hm => absurd (hfp _ hm) (Nat.not_le.mpr (Nat.lt_of_lt_of_le (Nat.lt_succ_self _) hsz₂))) ?_
      ⟨_, _, _, ea, rfl, rfl, rfl⟩ (Array.getElem?_push_size ..) ⟨⟨_, eI, rfl, rfl⟩, Heap.IsList.up hl u₀⟩ (hn'.at' fun o e => by rw [hoC] at e; cases e; exact eC) (let ⟨_, _, _, _, _, _, T₀, _, _⟩ := G.t; T₀.nolimit.keeps u₀)
    · rcases List.mem_cons.mp hb with rfl | hb
      · exact .head _
      · rw [List.mem_singleton.mp hb]; exact .tail _ (hmem _ _ hol)
    · have inB : ∀ (t : Shared), (∀ b ∈ h.objs.size :: (List.range h₀.objs.size).filter (fun b => (h₀.get? b).isSome), b ∉ [h.objs.size] → ∀ o, h''.get? b = some o → t.heap.get? b = some o) → Up h₀ t.heap := fun t hk b o e =>
        hk b (.tail _ (hmem _ _ e)) (fun hm => by rw [List.mem_singleton.mp hm, hI0] at e; cases e) o (u₀ _ _ e)
      refine ⟨fun A' E' i v s₂ m₂ hA hD hU hP hn hm hkp => wpAny_tests_nil ⟨rfl, _, _, rfl, fun _ _ e => e⟩, fun A' E' i v s₂ m₂ hA hD hU hP hpz hn hm hkp => ?_⟩
      exact (helt h₃.objs.size code A' i v s₂ s₂.heap s₂.toks m₂ (by simpa using hP) (inB _ hkp) hn hm).nest fun y s₃ z => ⟨z.1, z.2⟩
end
theorem tjoin (sep : Str) (l : List Str) : Txt.join sep l = Str.join sep l := eq_of_beq (join_plain_closes sep l)
theorem str_small : ∀ i : Nat, i < 101 → (strI (i : Int)).length ≤ 3 ∧ (i : Int).natAbs.log2 < 1920 := by decide +kernel
theorem passing_all (n : Nat) : passing pT n 0 = List.range n := by
  unfold passing
  simp
theorem sum_le {c : Nat} : ∀ {l : List Str}, (∀ x ∈ l, x.length ≤ c) → (l.map (·.length)).sum ≤ c * l.length
  | [], _ => by simp
  | x :: r, h => by
    have h1 := h x (.head _)
    have h2 := sum_le fun y hy => h y (.tail _ hy)
    simp only [List.map_cons, List.sum_cons, List.length_cons, Nat.mul_succ]
    omega
section
variable {w : World} {A : Around} {s : Shared} {h : Heap} {tk : Nat} {env : Env} {pos : Pos}
theorem str_ {i : Int} {t : Tok} {Q : Value → Shared → Prop} (hi : i.natAbs.log2 < 1920) (g : ∀ tk' t', Q (.str (strI i) t') (St s h tk')) : Wp w A (call (.type "str") [.int i t]) Q (St s h tk) := ⟨PySem.P.str_of_int (s := St s h tk) hi (g _ _)⟩
theorem joinZ_ {h₀ : Heap} {L a C I : Addr} {oa oC oI : Obj} {m : Str → Option Value} {rest : List (Addr × Obj)} {n : Nat} {F : Nat → Value → Prop} {x : Str} {t : Tok} {Q : Value → Shared → Prop} (c : Cx h₀ L h m ((a, oa) :: (C, oC) :: (I, oI) :: rest)) (Z : GenZ w A h₀ a C I oa oC oI n F s) (hb : AllBare s.gens) (tx : Nat → Str)
    (htx : ∀ j v, j < n → F j v → StrV (tx j) v) (hz : n ≤ 1000) (hok : (((List.range n).map tx).map (·.length)).sum + ((List.range n).map tx).length ≤ 10000) (hx : x.length ≤ 16)
    (g : ∀ s' h' tk' t', (∀ b o, b ≠ C → b ≠ I → h.get? b = some o → h'.get? b = some o) → AllBare s'.gens → s'.os = s.os → Q (.str (Txt.join x ((List.range n).map tx)) t') (St s' h' tk')) : Wp w A (call (.builtin "str.join") [.str x t, .ref a]) Q (St s h tk) := by
  obtain ⟨g₀, fp, W, hfp, hat⟩ := Z
  have W2 := W.in4_2
  have ea := (c.N _ (.head _)).1
  have eC := (c.N _ (.tail _ (.head _))).1
  have eI := (c.N _ (.tail _ (.tail _ (.head _)))).1
  have hP : ∀ j v, (∃ i, (passing pT n 0)[j]? = some i ∧ F i v) → j < n ∧ F j v := by
    rintro j v ⟨i, e, f⟩
    rw [passing_all] at e
    obtain ⟨h1, h2⟩ := List.getElem?_eq_some_iff.mp e
    simp at h1 h2
    subst h2
    exact ⟨h1, f⟩
  refine ⟨SC.joinGen (s := St s h tk) W2 (fun i s st => st.1.typeIs) (hat h tk ea eC eI c.F.keep) (fun b hb => ?_) (.head _) (fun j v hv => let ⟨u, e⟩ := htx j v (hP j v hv).1 (hP j v hv).2; ⟨_, u, e⟩) (fun s' lt hm hacc => ?_) (by rw [passing_all, List.length_range, sizeLine_eq]; omega)⟩
  · show b < h.objs.size
    rcases List.mem_cons.mp hb with rfl | hb
    · exact Heap.lt_size ea
    · rcases List.mem_cons.mp hb with rfl | hb
      · exact Heap.lt_size eC
      · rcases hfp b hb with rfl | ⟨o, ho⟩
        · exact Heap.lt_size eI
        · exact Heap.lt_size (c.F.keep _ _ ho)
  have hl : lt.map (·.1) = (List.range n).map tx := by
    apply List.ext_getElem?
    intro j
    have hsz : lt.length = n := by simpa [strValues, passing_all] using hacc.1
    by_cases hj : j < n
    · have hj' : j < lt.length := hsz ▸ hj
      have hv' := hP j _ (hacc.2 j (.str lt[j].1 lt[j].2) (by simp [strValues, List.getElem?_eq_getElem hj']))
      obtain ⟨u, hv⟩ := htx j _ hv'.1 hv'.2
      injection hv with h1 _
      simp [List.getElem?_eq_getElem hj', hj, h1]
    · rw [List.getElem?_eq_none (by simpa [hsz] using Nat.le_of_not_lt hj), List.getElem?_eq_none (by simpa using Nat.le_of_not_lt hj)]
  rw [hl]
  refine ⟨joinOk_of_weight (by omega) hx, fun t' k => ?_⟩
  exact g s' s'.heap k t' (fun b o h1 h2 e => hm.heap b o (fun hmem => by
    rcases List.mem_cons.mp hmem with q | q
    · exact h1 q
    · exact h2 (List.mem_singleton.mp q)) e) (AllBare.movedS (s := St s h tk) hb hm) hm.os

theorem fmt_spec {k : Nat} {l : Addr} {its : List Value} {trips : List (Int × Int × Int)} {ps : Array Value} {R : Result → Shared → Prop} (G : Gd w h) (hA : Ao A (k + 1)) (tab : TabOk h ps) (hb : AllBare s.gens) (hl : h.IsList l its.toArray) (ht : Paired (TripV h) trips its) (hz : trips.length ≤ 60) (hsm : ∀ p ∈ trips, 0 ≤ p.1 ∧ p.1 ≤ 100)
    (g : ∀ s' h' tk' t' ps', (∀ b o, b ≠ 89 → h.get? b = some o → h'.get? b = some o) → TabOk h' ps' → AllBare s'.gens → s'.os = s.os → R (.ok (.ret (.str (fmtS trips) t'))) (St s' h' tk')) :
    Co w A (.call (.ref 94) ⟨[.ref l], []⟩) R (St s h tk) := by
  have e89 := tab.tab.2
  have hl89 : l ≠ 89 := by
    rintro rfl
    obtain ⟨o, ho, hc, _⟩ := hl
    rw [e89] at ho; cases ho; cases hc
  have G₀ := G.hide e89
  refine' enterW (h₀ := h.hide 89) [("w", .ref l)] [(89, tabO ps)] hide_up ?hsz ?hN ?hD G hA ?ho ?hcd ?hb ?hl ?_ ?hcell ?hco ?hgen ?hk
  case hsz => exact Nat.le_of_eq (Heap.hide_size h 89)
  case hN => intro p hp; rw [List.mem_singleton.mp hp]; exact ⟨e89, Heap.hide_self h 89⟩
  case hD => simp
  walk_at "enter"
  intro L h₁ c a
  have h93 : ∃ o, (h.hide 89).get? 93 = some o := by
    obtain ⟨⟨o, vs, e, _⟩, _⟩ := tab.tab
    exact ⟨o, hide_get (by decide) e⟩
  have hl₀ : (h.hide 89).IsList l its.toArray := let ⟨o, e, r⟩ := hl; ⟨o, hide_get hl89 e, r⟩
  have ht₀ : Paired (TripV (h.hide 89)) trips its := Paired.mono (fun p v z => by
    obtain ⟨T, ta, tb, tc, k, e, f⟩ := z
    refine ⟨T, ta, tb, tc, k, e, hide_get ?_ f⟩
    rintro rfl
    rw [e89] at f
    have := congrArg Obj.cls (Option.some.inj f)
    cases this) ht
  have t₁ : TabOk h₁ ps := by
    obtain ⟨o, ho⟩ := h93
    exact tab.at (fun o' e => by rw [hide_up _ _ ho] at e; cases e; exact c.F.keep _ _ ho) (fun o' e => by rw [e89] at e; cases e; exact c.N.get (.head _))
  have hlen := ht.length
  refine xcons <| xasg ?_
  refine genZ_ (ps := ps) (F := fun i y => ∃ p, trips[i]? = some p ∧ StrV (strI p.1) y) c G₀ t₁ h93 hl₀ hb rfl a.hh (by have := a.d; show _ + 10 ≤ 1000; omega) (nmX c (by walk_at "lk") ⟨rfl, rfl⟩) ?helt ?_ rfl (by with_unfolding_all rfl) (by decide) rfl rfl rfl
  case helt =>
    intro C code A' i v s' h₂ tk₂ m₂ hv u hn hm
    obtain ⟨p, hp, T, ta, tb, tc, kk, rfl, hT⟩ := Paired.get ht₀ hv
    have hs := hsm p (List.mem_of_getElem? hp)
    have hsmall := str_small p.1.toNat (by omega)
    rw [Int.toNat_of_nonneg hs.1] at hsmall
    refine callT (G₀.up u) n_str b_str <| eSub <| nmL (env := genEnv _ _ C _ _ _) hn hm <| cInt fun _ _ => itemT_ (vs := [.int p.1 ta, .int p.2.1 tb, .int p.2.2 tc]) ⟨_, u _ _ hT, rfl, _, rfl⟩ (by omega) (by omega) rfl <| str_ hsmall.2 fun _ t' => ⟨⟨p, hp, t', rfl⟩, _, _, rfl, Up.refl _⟩
  intro ga gC gI oa oC oI s' h₂ tk₂ ps' c₂ t₂ hb₂ hos₂ hcls Z
  refine stL c₂ fun h₃ tk₃ c₃ => ?_
  refine xcons <| xasg <| cStr fun _ _ => stL c₃ fun h₄ tk₄ c₄ => ?_
  refine xcons ?_
  refine Wp.mono (P := fun f s'' => f = .next ∧ ∃ hF tkF mF, s'' = St s' hF tkF ∧ Cx (h.hide 89) L hF mF ((ga, oa) :: (gC, oC) :: (gI, oI) :: (89, tabO ps') :: []) ∧ mF "firsts" = some (.ref ga) ∧ (∃ t, mF "prefix" = some (.str (if (1 : Int) < trips.length then ("at tab size" : Str) ++ "s" else "at tab size") t))) ?_ ?_
  · refine xif <| tCmp <| callB (G₀.up c₄.F.keep) n_len b_len <| nmX c₄ (by walk_at "lk") <| len_ (Heap.IsList.up hl₀ c₄.F.keep) (by omega) fun _ _ => cInt fun _ _ => eGt <| tBool ?_
    rw [← hlen]
    by_cases hlt : (1 : Int) < trips.length
    · simp only [decide_eq_true hlt, if_true]
      refine xcons <| xasg <| eBin <| nmX c₄ (by walk_at "lk") <| cStr fun _ _ => addS (by decide +kernel) fun _ _ => stL c₄ fun h₅ tk₅ c₅ => xnil ⟨rfl, h₅, tk₅, _, rfl, c₅, by walk_at "lk", _, by rw [if_pos hlt]; walk_at "lk"⟩
    · simp only [decide_eq_false hlt, Bool.false_eq_true, if_false]
      refine xnil ⟨rfl, h₄, _, _, rfl, c₄, by walk_at "lk", _, by rw [if_neg hlt]; walk_at "lk"⟩
  · rintro _ _ ⟨rfl, hF, tkF, mF, rfl, cF, hfirsts, tp, hprefix⟩
    have hpl : (if (1 : Int) < trips.length then ("at tab size" : Str) ++ "s" else "at tab size").length ≤ 20 := by split <;> decide +kernel
    have hJ : ∀ x ∈ trips.map (fun p => strI p.1), x.length ≤ 3 := by
      intro x hx
      obtain ⟨p, hp, rfl⟩ := List.mem_map.mp hx
      have hs := hsm p hp
      have := (str_small p.1.toNat (by omega)).1
      rwa [Int.toNat_of_nonneg hs.1] at this
    have htx : (List.range its.length).map (fun i => strI (trips.getD i (0, 0, 0)).1) = trips.map (fun p => strI p.1) := by
      rw [← hlen]
      apply List.ext_getElem?
      intro j
      by_cases hj : j < trips.length <;> simp [hj]
    have hsum := sum_le hJ
    have hjl := StrLaws.join_length_le ", " (trips.map fun p => strI p.1)
    have e1 : (" " : Str).length = 1 := by decide +kernel
    have e2 : (", " : Str).length = 2 := by decide +kernel
    rw [List.length_map] at hsum hjl
    rw [e2] at hjl
    have hjl' : (Txt.join ", " (trips.map fun p => strI p.1)).length ≤ ((trips.map fun p => strI p.1).map (·.length)).sum + trips.length * 2 := by rw [tjoin]; exact hjl
    refine xcons <| xret <| eBin <| eBin <| nmX cF hprefix <| cStr fun _ _ => addS (by omega) fun _ _ => meth1 <| cStr fun _ _ => gJoin <| bi1 <| nmX cF hfirsts <| joinZ_ cF Z hb₂ (fun i => strI (trips.getD i (0, 0, 0)).1) ?_ (by omega) ?_ (by decide +kernel) fun s'' h'' tk'' t'' hk'' hb'' hos'' => ?_
    · rintro j v hj ⟨p, hp, hv⟩
      rw [List.getD_eq_getElem?_getD, hp]; exact hv
    · rw [htx, List.length_map]; omega
    · rw [htx]
      refine addS ?_ fun _ _ => ?_
      · rw [str_len_append]
        omega
      have hne : ∀ b o, (h.hide 89).get? b = some o → h''.get? b = some o := fun b o e => hk'' b o (fun q => by rw [q, (cF.N _ (.tail _ (.head _))).2.2] at e; cases e) (fun q => by rw [q, (cF.N _ (.tail _ (.tail _ (.head _)))).2.2] at e; cases e) (cF.F.keep _ _ e)
      have nd := cF.D
      simp only [List.map_cons, List.map_nil, List.nodup_cons, List.mem_cons, List.not_mem_nil, or_false, not_or] at nd
      refine g s'' h'' _ _ ps' (fun b o hb e => hne _ _ (hide_get hb e)) ?_ hb'' (hos''.trans hos₂)
      obtain ⟨o, ho⟩ := h93
      exact t₂.at (fun o' e => by rw [c₂.F.keep _ _ ho] at e; cases e; exact hne _ _ ho) (fun o' e => by
        rw [c₂.N.get (.tail _ (.tail _ (.tail _ (.head _))))] at e; cases e
        exact hk'' _ _ (fun q => nd.2.1.2 q.symm) (fun q => nd.2.2.1 q.symm) (cF.N.get (.tail _ (.tail _ (.tail _ (.head _))))))
end

/-! ## CT -/
theorem codeAny_compLoop_testsT {prog : Program} {w : World} {A : Around} {R : Result → Shared → Prop} {s : Shared} {elt iter : Expr} {elts : List Expr} {x1 : Nat} {tp : Pos} {ifs : List Expr} {scope : Scope} {pos : Pos} {it acc : Value} {env : Env} (I : Nat → Shared → Prop)
    (turn : ∀ n s, I n s → wpAny (model prog w) A (pyNext it) (fun r s₁ => match r with
      | none => R (.ok .next) s₁
      | some v => wpAny (model prog w) A (letOwnedTupleGo (.Tuple elts x1 tp) it v) (fun _ s₁' => wpAny (model prog w) A (assign (.Tuple elts x1 tp) env v) (fun _ s₂ =>
          wpAny (model prog w) A (forIn ifs true fun c r => if r = true then do let ok ← isTrue c env (eval c env); pure (ForInStep.yield ok) else pure (ForInStep.yield r)) (fun ok s₃ =>
            if ok = true then wpAny (model prog w) A (eval elt env) (fun x s₄ =>
              wpAny (model prog w) A (call (.builtin "list.append") [acc, x]) (fun _ s₅ => ∃ m, m < n ∧ I m s₅) (notedBy (model prog w) A env fun e s' => R (.error e) s') s₄) (notedBy (model prog w) A env fun e s' => R (.error e) s') s₃
            else ∃ m, m < n ∧ I m s₃) (notedBy (model prog w) A env fun e s' => R (.error e) s') s₂) (notedBy (model prog w) A env fun e s' => R (.error e) s') s₁') (notedBy (model prog w) A env fun e s' => R (.error e) s') s₁) (notedBy (model prog w) A env fun e s' => R (.error e) s') s)
    (n : Nat) (h : I n s) : codeAny (model prog w) A (.compLoop (.ListComp elt [⟨.Tuple elts x1 tp, iter, ifs, 0⟩] scope pos) 0 it acc env) R s := by
  refine codeAny_loop rfl I (fun n s hI => ?_) n h
  show wpAny _ A ((compTurn (.ListComp elt [⟨.Tuple elts x1 tp, iter, ifs, 0⟩] scope pos) 0 it acc env).onRaise (fun x => do noteFrame x env; theTreesLotGoes x)) _ _ s
  refine wpAny_noted ?_
  rw [compTurn_list]
  refine wpAny_bind (wpAny_standAt (wpAny_bind (wpAny_mono (turn n s hI) (fun r s₁ h₁ => ?_) fun _ _ e => e)))
  cases r with
  | none => exact wpAny_pure h₁
  | some v =>
    refine wpAny_bind (wpAny_mono h₁ (fun _ s₁' h₁' => ?_) fun _ _ e => e)
    refine wpAny_bind (wpAny_mono h₁' (fun _ s₂ h₂ => wpAny_bind (wpAny_mono h₂ (fun ok s₃ h₃ => ?_) fun _ _ e => e)) fun _ _ e => e)
    cases ok with
    | false => exact wpAny_pure ⟨rfl, h₃⟩
    | true => exact wpAny_bind (wpAny_bind (wpAny_mono h₃ (fun x s₄ h₄ => wpAny_bind (wpAny_mono h₄ (fun _ s₅ h₅ => wpAny_pure (wpAny_pure ⟨rfl, h₅⟩)) fun _ _ e => e)) fun _ _ e => e))

/-- what a comprehension's tests and element do, from the heap at hand -/
structure QuietT (w : World) (A : Around) (env : Env) (scope : Scope) (cl : List (Str × Addr)) (xa xb xc : Str) (ifs : List Expr) (elt : Expr) (I : Addr) (h : Heap) (P : Nat → Value → Prop) (p : Value → Bool) (F : Heap → Value → Value → Prop) : Prop where
  tests : ∀ C i (v : Addr) s' h₂ tk₂ m₂, P i (.ref v) → h₂.Ns C m₂ → (∃ ya yb yc k, h.get? v = some (tupO #[ya, yb, yc] k) ∧ m₂ xa = some ya ∧ m₂ xb = some yb ∧ m₂ xc = some yc) → (∀ b o, b ≠ I → h.get? b = some o → h₂.get? b = some o) →
    Wp w A (tests_ ifs (compEnvC scope cl C env)) (fun ok s₃ => ok = p (.ref v) ∧ ∃ h₃ tk₃, s₃ = St s' h₃ tk₃ ∧ Up h₂ h₃) (St s' h₂ tk₂)
  elt : ∀ C i (v : Addr) s' h₂ tk₂ m₂, P i (.ref v) → p (.ref v) = true → h₂.Ns C m₂ → (∃ ya yb yc k, h.get? v = some (tupO #[ya, yb, yc] k) ∧ m₂ xa = some ya ∧ m₂ xb = some yb ∧ m₂ xc = some yc) → (∀ b o, b ≠ I → h.get? b = some o → h₂.get? b = some o) →
    Wp w A (eval elt (compEnvC scope cl C env)) (fun y s₃ => ∃ h₃ tk₃, s₃ = St s' h₃ tk₃ ∧ Up h₂ h₃ ∧ F h₃ (.ref v) y) (St s' h₂ tk₂)

section
variable {w : World} {A : Around} {R : Result → Shared → Prop} {s : Shared} {env : Env} {E : Value → Shared → Prop}
theorem compLoopT_ {elt iter : Expr} {xa xb xc : Str} {pa pb pc tp : Pos} {kt : Nat} {ifs : List Expr} {scope : Scope} {cl : List (Str × Addr)} {pos : Pos} {I C D : Addr} {fp : List Addr} {n : Nat} {P : Nat → Value → Prop} {Sx : Nat → Heap → Prop} {hb h : Heap} {tk : Nat} {m : Str → Option Value}
    (W : Walks PR w A I fp [I] n P Sx) (hI : ∀ i h, Sx i h → ∃ o, h.get? I = some o ∧ o.cls ≠ .type "tuple") (p : Value → Bool) (F : Heap → Value → Value → Prop) (hF : ∀ h h' v y, F h v y → Tk h h' → F h' v y)
    (hh : A.handled = none) (hab : xa ≠ xb ∧ xa ≠ xc ∧ xb ≠ xc) (hLI : ∀ i h, Sx i h → ∃ l j, h.IsListIter I l j) (hTup : ∀ i v, P i v → ∃ T ya yb yc k, v = .ref T ∧ hb.get? T = some (tupO #[ya, yb, yc] k) ∧ T ≠ I)
    (hx : (compEnvC scope cl C env).kindOf xa = some .local) (hxb : (compEnvC scope cl C env).kindOf xb = some .local) (hxc : (compEnvC scope cl C env).kindOf xc = some .local) (hk : scope.kind = .function)
    (hDC : D ≠ C) (hDf : D ∉ fp) (hCf : C ∉ fp) (hDb : hb.get? D = none) (hCb : hb.get? C = none)
    (hst : Sx 0 h) (hacc : h.PlainList D #[]) (hn : h.Ns C m) (hkeep : ∀ b o, b ≠ I → hb.get? b = some o → h.get? b = some o)
    (q : QuietT w A env scope cl xa xb xc ifs elt I hb P p F)
    (hR : ∀ h' tk m' ys (vs : List Value), h'.Ns C m' → h'.PlainList D ys → vs.length = n → (∀ j v, vs[j]? = some v → P j v) → Paired (F h') (vs.filter p) ys.toList →
      (∀ b o, b ≠ I → hb.get? b = some o → h'.get? b = some o) → R (.ok .next) (St s h' tk))
    (hsz : n ≤ sizeLine := by size_fits) :
    codeAny (model PR w) A (.compLoop (.ListComp elt [⟨.Tuple [.Name xa pa, .Name xb pb, .Name xc pc] kt tp, iter, ifs, 0⟩] scope pos) 0 (.ref I) (.ref D) (compEnvC scope cl C env)) R (St s h tk) := by
  have hp : ((compEnvC scope cl C env).scope.kind == .class || ((compEnvC scope cl C env).scope.kind == .module && (compEnvC scope cl C env).locals != (compEnvC scope cl C env).globals)) = false := by
    simp [compEnvC, relabel, hk]
  have hIf : I ∈ fp := W.sub _ (.head _)
  have hCI : C ≠ I := fun e => hCf (e ▸ hIf)
  have hDI : D ≠ I := fun e => hDf (e ▸ hIf)
  refine codeAny_compLoop_testsT
    (fun k s' => ∃ h' tk m' ys, ∃ vs : List Value, s' = St s h' tk ∧ Sx vs.length h' ∧ h'.PlainList D ys ∧ h'.Ns C m' ∧ (∀ j v, vs[j]? = some v → P j v) ∧
      Paired (F h') (vs.filter p) ys.toList ∧ vs.length ≤ n ∧ k = n + 1 - vs.length ∧ (∀ b o, b ≠ I → hb.get? b = some o → h'.get? b = some o)) ?_ (n + 1)
    ⟨h, tk, m, #[], [], rfl, hst, hacc, hn, by simp, by simpa using Paired.nil, Nat.zero_le _, rfl, hkeep⟩
  rintro k s' ⟨H, tk', m', ys, vs, rfl, hst', hacc', hn', hP, hF', hi, rfl, hkp⟩
  have nb : ∀ b o, hb.get? b = some o → b ≠ C ∧ b ≠ D := fun b o e => ⟨fun q => (by rw [q, hCb] at e; cases e), fun q => (by rw [q, hDb] at e; cases e)⟩
  by_cases hlt : vs.length < n
  · refine W.item vs.length _ _ _ hlt hst' fun v h₁ tk₁ hPv hst₁ hk₁ => ?_
    have tk₁' : Tk H h₁ := fun b i c e => hk₁ b _ (fun hb' => by
      obtain ⟨o, ho, hoc⟩ := hI _ _ hst'
      rw [List.mem_singleton.mp hb', ho] at e
      rw [Option.some.inj e] at hoc
      exact hoc rfl) e
    have kI : ∀ b o, b ≠ I → H.get? b = some o → h₁.get? b = some o := fun b o hbI e => hk₁ b o (fun z => hbI (List.mem_singleton.mp z)) e
    obtain ⟨T, ya, yb, yc, kT, rfl, hT, hTI⟩ := hTup _ _ hPv
    obtain ⟨lI, jI, hLi⟩ := hLI _ _ hst₁
    refine wpAny_letOwnedTupleGo_listiter hLi ?_
    have ht₁ : IsTup h₁ T #[ya, yb, yc] := ⟨_, kI _ _ hTI (hkp _ _ hTI hT), rfl, _, rfl⟩
    refine assign_Tuple_tuple hh ht₁ rfl rfl fun h₅ he => ?_
    have he' : ∀ b o, h₁.get? b = some o → h₅.get? b = some o := fun b o e => he b o (Nat.ne_of_lt (Heap.lt_size e)) e
    have hnA : h₁.Ns C m' := hn'.at' fun o e => kI _ o hCI e
    refine assignInOrder_cons (wpAny_assign_Name (wpAny_storeName_local hx (hnA.at' fun o e => he' _ o e) (fun h₆ hn₆ hs₆ => ?_) hp))
    refine assignInOrder_cons (wpAny_assign_Name (wpAny_storeName_local hxb hn₆ (fun h₇ hn₇ hs₇ => ?_) hp))
    refine assignInOrder_cons (wpAny_assign_Name (wpAny_storeName_local hxc hn₇ (fun h₂ hn₂ hs₂ => ?_) hp))
    refine assignInOrder_nil ?_
    have tk₂' : Tk h₁ h₂ := (Tk.trans (Tk.trans (Up.tk he') (tk_sameBut hs₆ (ns_no_tup (hnA.at' fun o e => he' _ o e)))) (tk_sameBut hs₇ (ns_no_tup hn₆))).trans (tk_sameBut hs₂ (ns_no_tup hn₇))
    have all₂ : ∀ b o, b ≠ C → h₁.get? b = some o → h₂.get? b = some o := fun b o hbC e => hs₂.extBut b o hbC (hs₇.extBut b o hbC (hs₆.extBut b o hbC (he' b o e)))
    have up₂ : ∀ b o, b ≠ C → b ≠ I → H.get? b = some o → h₂.get? b = some o := fun b o hbC hbI e => all₂ b o hbC (kI b o hbI e)
    have hst₂ : Sx (vs.length + 1) h₂ := W.frame _ _ _ hst₁ fun b hb o e => all₂ b o (fun h => hCf ((show b = C from h) ▸ hb)) e
    have hme := hab
    refine (q.tests C vs.length T s h₂ _ _ hPv hn₂ ⟨ya, yb, yc, kT, hT, by simp [hme.1, hme.2.1], by simp [hme.2.2], by simp⟩ fun b o hbI e => up₂ b o (nb b o e).1 hbI (hkp b o hbI e)).nest (fun ok s₃ h₃ => ?_)
    obtain ⟨rfl, h₃, tk₃, rfl, hk₃⟩ := h₃
    have hst₃ : Sx (vs.length + 1) h₃ := W.frame _ _ _ hst₂ fun b _ o e => hk₃ b o e
    have hacc₃ : h₃.PlainList D ys := hacc'.at fun o e => hk₃ _ o (up₂ D o hDC hDI e)
    have hn₃ := hn₂.keeps hk₃
    have hP' : ∀ j u, (vs ++ [.ref T])[j]? = some u → P j u := fun j u hj => by
      rcases Nat.lt_trichotomy j vs.length with h | h | h
      · exact hP j u (by rwa [List.getElem?_append_left h] at hj)
      · subst h; simp at hj; subst hj; exact hPv
      · have hnone : (vs ++ [.ref T])[j]? = none := List.getElem?_eq_none (by rw [List.length_append, List.length_singleton]; omega)
        rw [hnone] at hj; cases hj
    have hF₃ : Paired (F h₃) (vs.filter p) ys.toList := Paired.mono (fun a b z => hF _ _ _ _ z ((tk₁'.trans tk₂').trans (Up.tk hk₃))) hF'
    cases hpv : p (.ref T) with
    | false =>
      simp only [Bool.false_eq_true, if_false]
      refine ⟨n + 1 - (vs.length + 1), by omega, h₃, tk₃, _, ys, vs ++ [.ref T], rfl, by simpa using hst₃, hacc₃, hn₃, hP', ?_, (by rw [List.length_append, List.length_singleton]; exact hlt), (by rw [List.length_append, List.length_singleton]), fun b o hbI e => hk₃ b o (up₂ b o (nb b o e).1 hbI (hkp b o hbI e))⟩
      rw [List.filter_append]; simpa [hpv] using hF₃
    | true =>
      simp only [if_true]
      refine (q.elt C vs.length T s h₃ tk₃ _ hPv hpv hn₃ ⟨ya, yb, yc, kT, hT, by simp [hme.1, hme.2.1], by simp [hme.2.2], by simp⟩ fun b o hbI e => hk₃ b o (up₂ b o (nb b o e).1 hbI (hkp b o hbI e))).nest (fun y s₄ h₄ => ?_)
      obtain ⟨h₄, tk₄, rfl, hk₄, hFy⟩ := h₄
      have hys : ys.size ≤ sizeLine := by
        have e1 := hF'.length
        have e2 : (vs.filter p).length ≤ vs.length := List.length_filter_le _ _
        have e4 : ys.toList.length = ys.size := by simp
        omega
      have hacc₄ : h₄.PlainList D ys := hacc₃.at fun o e => hk₄ _ o e
      refine wpAny_list_append_plain (hsz := hys) hacc₄ fun h₅ hl₅ hs₅ => ?_
      have tk₅ : Tk h₄ h₅ := tk_sameBut hs₅ fun i c e => by
        obtain ⟨c', e'⟩ := hacc₄
        rw [e'] at e
        exact absurd (show Value.type "list" = Value.type "tuple" from congrArg Obj.cls (Option.some.inj e)) (by decide)
      refine ⟨n + 1 - (vs.length + 1), by omega, h₅, tk₄, _, ys.push y, vs ++ [.ref T], rfl, ?_, hl₅, (hn₃.keeps hk₄).sameBut hs₅ (Ne.symm hDC), hP', ?_, (by rw [List.length_append, List.length_singleton]; exact hlt), (by rw [List.length_append, List.length_singleton]),
        fun b o hbI e => hs₅.extBut b o (nb b o e).2 (hk₄ b o (hk₃ b o (up₂ b o (nb b o e).1 hbI (hkp b o hbI e))))⟩
      · have := W.frame _ _ h₅ hst₃ fun b hb o e => hs₅.extBut b o (fun h => hDf (h ▸ hb)) (hk₄ b o e)
        simpa using this
      · rw [List.filter_append]
        have := Paired.snoc (Paired.mono (fun a b z => hF _ _ _ _ z ((Up.tk hk₄).trans tk₅)) hF₃) (hF _ _ _ _ hFy tk₅)
        simpa [hpv] using this
  · have hin : vs.length = n := by omega
    refine W.done _ _ _ (hin ▸ hst') fun h₁ tk₁ hk₁ => ?_
    have kI : ∀ b o, b ≠ I → H.get? b = some o → h₁.get? b = some o := fun b o hbI e => hk₁ b o (fun z => hbI (List.mem_singleton.mp z)) e
    have tk₁' : Tk H h₁ := fun b i c e => hk₁ b _ (fun hb' => by
      obtain ⟨o, ho, hoc⟩ := hI _ _ hst'
      rw [List.mem_singleton.mp hb', ho] at e
      rw [Option.some.inj e] at hoc
      exact hoc rfl) e
    exact hR h₁ tk₁ m' ys vs (hn'.at' fun o e => kI _ o hCI e) (hacc'.at fun o e => kI _ o hDI e) hin hP (Paired.mono (fun a b z => hF _ _ _ _ z tk₁') hF') fun b o hbI e => kI b o hbI (hkp b o hbI e)

/-- a comprehension stands before its iterator -/
def CompAtT (w : World) (A : Around) (env : Env) (scope : Scope) (cl : List (Str × Addr)) (xa xb xc : Str) (ifs : List Expr) (elt : Expr) (p : Value → Bool) (F : Heap → Value → Value → Prop) (Q : Value → Shared → Prop) (it : Value) (s₂ : Shared) : Prop :=
  ∃ s hb tk I fp n P Sx, s₂ = St s hb tk ∧ it = .ref I ∧ Walks PR w A I fp [I] n P Sx ∧ (∀ i h, Sx i h → ∃ o, h.get? I = some o ∧ o.cls ≠ .type "tuple") ∧ n ≤ sizeLine ∧ Sx 0 hb ∧ (∀ b ∈ fp, b < hb.objs.size) ∧ (∀ i h, Sx i h → ∃ l j, h.IsListIter I l j) ∧ (∀ i v, P i v → ∃ T ya yb yc k, v = .ref T ∧ hb.get? T = some (tupO #[ya, yb, yc] k) ∧ T ≠ I) ∧
    QuietT w A env scope cl xa xb xc ifs elt I hb P p F ∧
    ∀ D h' tk' ys nn (vs : List Value), hb.get? D = none → h'.get? D = some (listOf ys nn) → vs.length = n → (∀ j v, vs[j]? = some v → P j v) → Paired (F h') (vs.filter p) ys.toList →
      (∀ b o, b ≠ I → hb.get? b = some o → h'.get? b = some o) → Q (.ref D) (St s h' tk')

theorem compBlockT_ {elt iter : Expr} {xa xb xc : Str} {pa pb pc tp : Pos} {kt : Nat} {ifs : List Expr} {scope : Scope} {cl : List (Str × Addr)} {pos : Pos} {it : Value} {s₂ : Shared} {RR : Value → Addr → Result → Shared → Prop} {Q : Value → Shared → Prop} (p : Value → Bool) (F : Heap → Value → Value → Prop) (hF : ∀ h h' v y, F h v y → Tk h h' → F h' v y)
    (hcell : ∀ y ∈ scope.names, y.2 ≠ .cell) (hkind : scope.kind = .function) (hh : A.handled = none) (hab : xa ≠ xb ∧ xa ≠ xc ∧ xb ≠ xc) (hx : scope.names.lookup xa = some .local) (hxb : scope.names.lookup xb = some .local) (hxc : scope.names.lookup xc = some .local)
    (h : CompAtT w A env scope cl xa xb xc ifs elt p F Q it s₂)
    (hRR : ∀ D C h' tk m' s, h'.Ns C m' → (∀ h'', Heap.SameBut C h' h'' → Q (.ref D) (St s h'' tk)) → RR (.ref D) C (.ok .next) (St s h' tk)) :
    wpAny (model PR w) A (newList []) (fun acc s₃ => wpAny (model PR w) A (newFunctionEnv scope env.globals cl [] env.qual none .none (some env)) (fun cenv s₄ =>
      codeAny (model PR w) A (.compStart (.ListComp elt [⟨.Tuple [.Name xa pa, .Name xb pb, .Name xc pc] kt tp, iter, ifs, 0⟩] scope pos) 0 it acc { cenv with scope := relabel scope env }) (RR acc cenv.locals) s₄) E s₃) E s₂ := by
  obtain ⟨s, hb, tk, I, fp, n, P, Sx, rfl, rfl, W, hI, hsz, hst, hfp, hLI, hTup, q, hQ⟩ := h
  refine wpAny_newObj_type (s := St s hb tk) (wpAny_newFunctionEnv hcell (by intro y hy; simp at hy) (fun h₁ hns₁ hsb₁ => ?_) hkind)
  dsimp only at hns₁ hsb₁ ⊢
  simp only [St_heap] at hns₁ hsb₁ ⊢
  generalize hH2 : hb.push { cls := .type "list", dict := none, data := .seq ([] : List Value).toArray } = H2 at hns₁ hsb₁ ⊢
  have hC : H2.objs.size = hb.objs.size + 1 := by rw [← hH2, Heap.size_push]
  have hDC : hb.objs.size ≠ H2.objs.size := by rw [hC]; exact Nat.ne_of_lt (Nat.lt_succ_self _)
  have below : ∀ b, b < hb.objs.size → b ≠ H2.objs.size ∧ b ≠ hb.objs.size := fun b hb => ⟨by rw [hC]; exact Nat.ne_of_lt (Nat.lt_succ_of_lt hb), Nat.ne_of_lt hb⟩
  have hDf : hb.objs.size ∉ fp := fun hm => Nat.lt_irrefl _ (hfp _ hm)
  have hCf : H2.objs.size ∉ fp := fun hm => by have := hfp _ hm; rw [hC] at this; exact Nat.lt_irrefl _ (Nat.lt_of_succ_lt this)
  have old : ∀ b o, hb.get? b = some o → h₁.get? b = some o := fun b o e => hsb₁.extBut b o (below b (Heap.lt_size e)).1 (Heap.get?_push_of_some _ (hH2 ▸ Heap.get?_push_of_some _ e))
  have hacc : h₁.PlainList hb.objs.size #[] := ⟨_, hsb₁.extBut _ _ hDC (Heap.get?_push_of_some _ (hH2 ▸ Heap.get?_push_size _ rfl))⟩
  have hst₁ : Sx 0 h₁ := W.frame _ _ _ hst fun b _ o e => old b o e
  have fresh : ∀ a, hb.objs.size ≤ a → hb.get? a = none := fun a ha => by
    cases e : hb.get? a with
    | none => rfl
    | some o' => exact absurd (Heap.lt_size e) (Nat.not_lt.mpr ha)
  have loop : codeAny (model PR w) A (.compLoop (.ListComp elt [⟨.Tuple [.Name xa pa, .Name xb pb, .Name xc pc] kt tp, iter, ifs, 0⟩] scope pos) 0 (.ref I) (.ref hb.objs.size) (compEnvC scope cl H2.objs.size env)) (RR (.ref hb.objs.size) H2.objs.size) (St s h₁ (tk + 0)) := by
    refine compLoopT_ (hsz := hsz) (hb := hb) W hI p F hF hh hab hLI hTup (lookup_relabel_local hx) (lookup_relabel_local hxb) (lookup_relabel_local hxc) hkind hDC hDf hCf (get?_size hb) (fresh _ (by rw [hC]; exact Nat.le_succ _)) hst₁ hacc hns₁ (fun b o _ e => old b o e) q fun h' tk' m' ys vs hn' hpl hlen hP hFp hk => ?_
    refine hRR _ _ h' tk' m' s hn' fun h'' hs'' => ?_
    obtain ⟨nn, hnn⟩ := hpl
    exact hQ _ h'' tk' ys nn vs (get?_size hb) (hs''.extBut _ _ hDC hnn) hlen hP (Paired.mono (fun a b z => hF _ _ _ _ z (tk_sameBut hs'' (ns_no_tup hn'))) hFp) fun b o hbI e => hs''.extBut b o (below b (Heap.lt_size e)).1 (hk b o hbI e)
  exact codeAny_compStart_list loop (W.self 0 _ _ _ hst₁ loop)

/-- .. the value of an assignment to a local -/
theorem compToT_ {elt iter : Expr} {xa xb xc y : Str} {pa pb pc py tp : Pos} {kt : Nat} {ifs : List Expr} {scope : Scope} {cl : List (Str × Addr)} {pos spos : Pos} {Q : Flow → Shared → Prop} (p : Value → Bool) (F : Heap → Value → Value → Prop) (hF : ∀ h h' v y, F h v y → Tk h h' → F h' v y)
    (hsw : swapsWith (.ListComp elt [⟨.Tuple [.Name xa pa, .Name xb pb, .Name xc pc] kt tp, iter, ifs, 0⟩] scope pos) (some (.Name y py)) spos.line env = pure true)
    (hclos : closureFor scope env = pure cl) (hcell : ∀ z ∈ scope.names, z.2 ≠ .cell) (hkind : scope.kind = .function)
    (hnames : ∀ z ∈ scope.names, z.2 = .local → scope.names.lookup z.1 = some .local) (hh : A.handled = none) (hab : xa ≠ xb ∧ xa ≠ xc ∧ xb ≠ xc) (hx : scope.names.lookup xa = some .local) (hxb : scope.names.lookup xb = some .local) (hxc : scope.names.lookup xc = some .local)
    (g : Wp w A (eval iter env) (fun xv s₁ => Wp w A (pyIter xv) (CompAtT w A env scope cl xa xb xc ifs elt p F (fun v s' => ∀ C, (∃ m, s'.heap.Ns C m) → Wp w A (storeName env y v) (fun _ s'' => ∃ m, s''.heap.Ns C m ∧ ∀ h', Heap.SameBut C s''.heap h' → Q .next { s'' with heap := h' }) s')) s₁) s)
    (hs : ∀ x, foldedSetIterable iter env x = pure x := by intro _; rfl) :
    Wp w A (exec (.Assign [.Name y py] (.ListComp elt [⟨.Tuple [.Name xa pa, .Name xb pb, .Name xc pc] kt tp, iter, ifs, 0⟩] scope pos) spos) env) Q s := by
  refine ⟨?_⟩
  rw [exec_Assign_Name_used _ _ _ _ hsw]
  refine wpAny_bind (wpAny_standAt (wpAny_bind ?_))
  show wpAny _ A (do let _ ← comprehension (.ListComp elt [⟨.Tuple [.Name xa pa, .Name xb pb, .Name xc pc] kt tp, iter, ifs, 0⟩] scope pos) scope env _ (newList []) false (eval iter env) (some (assign (.Name y py) env))) _ _ s
  refine wpAny_bind (wpAny_mono (wpAny_comprehension_free (use := some (assign (.Name y py) env)) (Q := fun _ s' => Q .next s') rfl hs hclos hkind hnames
    (g.nest fun xv s₁ h₁ => h₁.nest fun it s₂ h₂ => ?_)) (fun _ s' hq => wpAny_pure (wpAny_pure hq)) fun _ _ e => e)
  refine compBlockT_ (RR := fun acc C => compPost (model PR w) A (fun _ _ => False) (some (assign (.Name y py) env)) (fun _ s' => Q .next s') acc C) p F hF hcell hkind hh hab hx hxb hxc h₂ ?_
  intro D C h' tk m' s hn hq
  refine wpAny_assign_Name ?_
  exact (hq h' (Heap.SameBut.refl ..) C ⟨m', hn⟩).any
end
section
variable {w : World} {A : Around} {s : Shared} {h : Heap} {tk : Nat} {env : Env} {a b : Int} {t u : Tok}
theorem compAtT_list {scope : Scope} {cl : List (Str × Addr)} {xa xb xc : Str} {ifs : List Expr} {elt : Expr} {p : Value → Bool} {F : Heap → Value → Value → Prop} {Q : Value → Shared → Prop} {l : Addr} {vs : List Value} (hh : A.handled = none) (hl : h.IsList l vs.toArray) (hsz : vs.length ≤ sizeLine) (hTup : ∀ v ∈ vs, ∃ T ya yb yc k, v = Value.ref T ∧ h.get? T = some (tupO #[ya, yb, yc] k))
    (tests : ∀ C (v : Addr) s' h₂ tk₂ m₂, Value.ref v ∈ vs → h₂.Ns C m₂ → (∃ ya yb yc k, h.get? v = some (tupO #[ya, yb, yc] k) ∧ m₂ xa = some ya ∧ m₂ xb = some yb ∧ m₂ xc = some yc) → Up h h₂ →
      Wp w A (tests_ ifs (compEnvC scope cl C env)) (fun ok s₃ => ok = p (.ref v) ∧ ∃ h₃ tk₃, s₃ = St s' h₃ tk₃ ∧ Up h₂ h₃) (St s' h₂ tk₂))
    (elt' : ∀ C (v : Addr) s' h₂ tk₂ m₂, Value.ref v ∈ vs → p (.ref v) = true → h₂.Ns C m₂ → (∃ ya yb yc k, h.get? v = some (tupO #[ya, yb, yc] k) ∧ m₂ xa = some ya ∧ m₂ xb = some yb ∧ m₂ xc = some yc) → Up h h₂ →
      Wp w A (eval elt (compEnvC scope cl C env)) (fun y s₃ => ∃ h₃ tk₃, s₃ = St s' h₃ tk₃ ∧ Up h₂ h₃ ∧ F h₃ (.ref v) y) (St s' h₂ tk₂))
    (k : ∀ D h' tk' ys nn, h.get? D = none → h'.get? D = some (listOf ys nn) → Paired (F h') (vs.filter p) ys.toList → Up h h' → Q (.ref D) (St s h' tk')) :
    Wp w A (pyIter (.ref l)) (CompAtT w A env scope cl xa xb xc ifs elt p F Q) (St s h tk) := by
  obtain ⟨ol, hol, hol'⟩ := id hl
  refine ⟨wpAny_pyIter_list (s := St s h tk) hl ?_⟩
  have hne : l ≠ h.objs.size := Nat.ne_of_lt (Heap.lt_size hol)
  have W := Walks.list (prog := PR) (w := w) hh h.objs.size l hne vs.toArray
  have up : ∀ {h₂ : Heap}, (∀ b o, b ≠ h.objs.size → (h.push { cls := .type "list_iterator", data := .fields #[.ref l, .int 0 0] }).get? b = some o → h₂.get? b = some o) → Up h h₂ :=
    fun hk b o e => hk b o (Nat.ne_of_lt (Heap.lt_size e)) (Heap.get?_push_of_some _ e)
  have hT : ∀ (i : Nat) (v : Addr), vs.toArray[i]? = some (Value.ref v) → ∃ o, h.get? v = some o := fun i v hP => by
    obtain ⟨T, ya, yb, yc, k, e, f⟩ := hTup _ (List.mem_of_getElem? (by simpa using hP))
    cases e; exact ⟨_, f⟩
  have old : ∀ {v : Addr} {m₂ : Str → Option Value}, (∃ ya yb yc k, (h.push { cls := .type "list_iterator", data := .fields #[.ref l, .int 0 0] }).get? v = some (tupO #[ya, yb, yc] k) ∧ m₂ xa = some ya ∧ m₂ xb = some yb ∧ m₂ xc = some yc) → (∃ o, h.get? v = some o) → ∃ ya yb yc k, h.get? v = some (tupO #[ya, yb, yc] k) ∧ m₂ xa = some ya ∧ m₂ xb = some yb ∧ m₂ xc = some yc := by
    rintro v m₂ ⟨ya, yb, yc, k, e, r⟩ ⟨o, ho⟩
    rw [Heap.get?_push_of_some _ ho] at e
    exact ⟨ya, yb, yc, k, ho.trans e, r⟩
  refine ⟨s, _, tk, h.objs.size, _, _, _, _, rfl, rfl, W, fun i h' st => ?_, by simpa using hsz, ⟨⟨_, Heap.get?_push_size _ rfl, rfl, rfl⟩, ⟨ol, Heap.get?_push_of_some _ hol, hol'⟩⟩, fun b hb => ?_,
    fun i h' st => ⟨l, i, st.1⟩, fun i v hP => ?_, ⟨fun C i v s' h₂ tk₂ m₂ hP hn hm hk => tests C v s' h₂ tk₂ m₂ (List.mem_of_getElem? (by simpa using hP)) hn (old hm (hT _ _ hP)) (up hk), fun C i v s' h₂ tk₂ m₂ hP hpv hn hm hk => elt' C v s' h₂ tk₂ m₂ (List.mem_of_getElem? (by simpa using hP)) hpv hn (old hm (hT _ _ hP)) (up hk)⟩, fun D h' tk' ys nn vs' hD ho hlen hP hF hk => ?_⟩
  · obtain ⟨⟨o, ho, hc, _⟩, _⟩ := st
    exact ⟨o, ho, by rw [hc]; decide⟩
  · rw [Heap.size_push]
    rcases List.mem_cons.mp hb with rfl | hb
    · exact Nat.lt_succ_self _
    · rw [List.mem_singleton.mp hb]; exact Nat.lt_succ_of_lt (Heap.lt_size hol)
  · obtain ⟨T, ya, yb, yc, k, e, f⟩ := hTup _ (List.mem_of_getElem? (by simpa using hP))
    exact ⟨T, ya, yb, yc, k, e, Heap.get?_push_of_some _ f, Nat.ne_of_lt (Heap.lt_size f)⟩
  · have e : vs' = vs := by
      refine List.ext_getElem? fun j => ?_
      cases q : vs'[j]? with
      | some v => have := hP j v q; simp at this; exact this.symm
      | none =>
        have h1 := List.getElem?_eq_none_iff.mp q
        exact (List.getElem?_eq_none_iff.mpr (by simp at hlen; omega)).symm
    subst e
    refine k D h' tk' ys nn ?_ ho hF (up hk)
    cases q : h.get? D with
    | none => rfl
    | some o => exact absurd ((Heap.get?_push_of_some _ q).symm.trans hD) (by simp)

end

/-! ## CU -/
section
variable {w : World} {A : Around} {R : Result → Shared → Prop} {s : Shared} {env : Env} {E : Value → Shared → Prop}
theorem compBlockU_ {elt iter : Expr} {x : Str} {px : Pos} {ifs : List Expr} {scope : Scope} {cl : List (Str × Addr)} {pos : Pos} {it : Value} {s₂ : Shared} {RR : Value → Addr → Result → Shared → Prop} {Q : Value → Shared → Prop} (p : Value → Bool) (F : Heap → Value → Value → Prop) (hF : ∀ h h' v y, F h v y → Tk h h' → F h' v y)
    (hcell : ∀ y ∈ scope.names, y.2 ≠ .cell) (hkind : scope.kind = .function) (hx : scope.names.lookup x = some .local)
    (hU : Heap) (h : CompAt w A env scope cl x ifs elt p F Q it s₂ ∧ Up hU s₂.heap)
    (hRR : ∀ D C h' tk m' s, hU.get? C = none → h'.Ns C m' → (∀ h'', Heap.SameBut C h' h'' → Q (.ref D) (St s h'' tk)) → RR (.ref D) C (.ok .next) (St s h' tk)) :
    wpAny (model PR w) A (newList []) (fun acc s₃ => wpAny (model PR w) A (newFunctionEnv scope env.globals cl [] env.qual none .none (some env)) (fun cenv s₄ =>
      codeAny (model PR w) A (.compStart (.ListComp elt [⟨.Name x px, iter, ifs, 0⟩] scope pos) 0 it acc { cenv with scope := relabel scope env }) (RR acc cenv.locals) s₄) E s₃) E s₂ := by
  obtain ⟨⟨s, hb, tk, I, fp, n, P, Sx, rfl, rfl, W, hI, hsz, hst, hfp, q, hQ⟩, hUp⟩ := h
  refine wpAny_newObj_type (s := St s hb tk) (wpAny_newFunctionEnv hcell (by intro y hy; simp at hy) (fun h₁ hns₁ hsb₁ => ?_) hkind)
  dsimp only at hns₁ hsb₁ ⊢
  simp only [St_heap] at hns₁ hsb₁ ⊢
  generalize hH2 : hb.push { cls := .type "list", dict := none, data := .seq ([] : List Value).toArray } = H2 at hns₁ hsb₁ ⊢
  have hC : H2.objs.size = hb.objs.size + 1 := by rw [← hH2, Heap.size_push]
  have hDC : hb.objs.size ≠ H2.objs.size := by rw [hC]; exact Nat.ne_of_lt (Nat.lt_succ_self _)
  have below : ∀ b, b < hb.objs.size → b ≠ H2.objs.size ∧ b ≠ hb.objs.size := fun b hb => ⟨by rw [hC]; exact Nat.ne_of_lt (Nat.lt_succ_of_lt hb), Nat.ne_of_lt hb⟩
  have hDf : hb.objs.size ∉ fp := fun hm => Nat.lt_irrefl _ (hfp _ hm)
  have hCf : H2.objs.size ∉ fp := fun hm => by have := hfp _ hm; rw [hC] at this; exact Nat.lt_irrefl _ (Nat.lt_of_succ_lt this)
  have old : ∀ b o, hb.get? b = some o → h₁.get? b = some o := fun b o e => hsb₁.extBut b o (below b (Heap.lt_size e)).1 (Heap.get?_push_of_some _ (hH2 ▸ Heap.get?_push_of_some _ e))
  have hacc : h₁.PlainList hb.objs.size #[] := ⟨_, hsb₁.extBut _ _ hDC (Heap.get?_push_of_some _ (hH2 ▸ Heap.get?_push_size _ rfl))⟩
  have hst₁ : Sx 0 h₁ := W.frame _ _ _ hst fun b _ o e => old b o e
  have fresh : ∀ a, hb.objs.size ≤ a → hb.get? a = none := fun a ha => by
    cases e : hb.get? a with
    | none => rfl
    | some o' => exact absurd (Heap.lt_size e) (Nat.not_lt.mpr ha)
  have loop : codeAny (model PR w) A (.compLoop (.ListComp elt [⟨.Name x px, iter, ifs, 0⟩] scope pos) 0 (.ref I) (.ref hb.objs.size) (compEnvC scope cl H2.objs.size env)) (RR (.ref hb.objs.size) H2.objs.size) (St s h₁ (tk + 0)) := by
    refine compLoop_ (hsz := hsz) (hb := hb) W hI p F hF (lookup_relabel_local hx) hkind hDC hDf hCf (get?_size hb) (fresh _ (by rw [hC]; exact Nat.le_succ _)) hst₁ hacc hns₁ (fun b o _ e => old b o e) q fun h' tk' m' ys vs hn' hpl hlen hP hFp hk => ?_
    refine hRR _ _ h' tk' m' s (by
      cases q : hU.get? H2.objs.size with
      | none => rfl
      | some o => exact absurd (Heap.lt_size (hUp _ _ q)) (by rw [hC]; exact Nat.not_lt.mpr (Nat.le_succ _))) hn' fun h'' hs'' => ?_
    obtain ⟨nn, hnn⟩ := hpl
    exact hQ _ h'' tk' ys nn vs (get?_size hb) (hs''.extBut _ _ hDC hnn) hlen hP (Paired.mono (fun a b z => hF _ _ _ _ z (tk_sameBut hs'' (ns_no_tup hn'))) hFp) fun b o hbI e => hs''.extBut b o (below b (Heap.lt_size e)).1 (hk b o hbI e)
  exact codeAny_compStart_list loop (W.self 0 _ _ _ hst₁ loop)

theorem compBlockUT_ {elt iter : Expr} {xa xb xc : Str} {pa pb pc tp : Pos} {kt : Nat} {ifs : List Expr} {scope : Scope} {cl : List (Str × Addr)} {pos : Pos} {it : Value} {s₂ : Shared} {RR : Value → Addr → Result → Shared → Prop} {Q : Value → Shared → Prop} (p : Value → Bool) (F : Heap → Value → Value → Prop) (hF : ∀ h h' v y, F h v y → Tk h h' → F h' v y)
    (hcell : ∀ y ∈ scope.names, y.2 ≠ .cell) (hkind : scope.kind = .function) (hh : A.handled = none) (hab : xa ≠ xb ∧ xa ≠ xc ∧ xb ≠ xc) (hx : scope.names.lookup xa = some .local) (hxb : scope.names.lookup xb = some .local) (hxc : scope.names.lookup xc = some .local)
    (hU : Heap) (h : CompAtT w A env scope cl xa xb xc ifs elt p F Q it s₂ ∧ Up hU s₂.heap)
    (hRR : ∀ D C h' tk m' s, hU.get? C = none → h'.Ns C m' → (∀ h'', Heap.SameBut C h' h'' → Q (.ref D) (St s h'' tk)) → RR (.ref D) C (.ok .next) (St s h' tk)) :
    wpAny (model PR w) A (newList []) (fun acc s₃ => wpAny (model PR w) A (newFunctionEnv scope env.globals cl [] env.qual none .none (some env)) (fun cenv s₄ =>
      codeAny (model PR w) A (.compStart (.ListComp elt [⟨.Tuple [.Name xa pa, .Name xb pb, .Name xc pc] kt tp, iter, ifs, 0⟩] scope pos) 0 it acc { cenv with scope := relabel scope env }) (RR acc cenv.locals) s₄) E s₃) E s₂ := by
  obtain ⟨⟨s, hb, tk, I, fp, n, P, Sx, rfl, rfl, W, hI, hsz, hst, hfp, hLI, hTup, q, hQ⟩, hUp⟩ := h
  refine wpAny_newObj_type (s := St s hb tk) (wpAny_newFunctionEnv hcell (by intro y hy; simp at hy) (fun h₁ hns₁ hsb₁ => ?_) hkind)
  dsimp only at hns₁ hsb₁ ⊢
  simp only [St_heap] at hns₁ hsb₁ ⊢
  generalize hH2 : hb.push { cls := .type "list", dict := none, data := .seq ([] : List Value).toArray } = H2 at hns₁ hsb₁ ⊢
  have hC : H2.objs.size = hb.objs.size + 1 := by rw [← hH2, Heap.size_push]
  have hDC : hb.objs.size ≠ H2.objs.size := by rw [hC]; exact Nat.ne_of_lt (Nat.lt_succ_self _)
  have below : ∀ b, b < hb.objs.size → b ≠ H2.objs.size ∧ b ≠ hb.objs.size := fun b hb => ⟨by rw [hC]; exact Nat.ne_of_lt (Nat.lt_succ_of_lt hb), Nat.ne_of_lt hb⟩
  have hDf : hb.objs.size ∉ fp := fun hm => Nat.lt_irrefl _ (hfp _ hm)
  have hCf : H2.objs.size ∉ fp := fun hm => by have := hfp _ hm; rw [hC] at this; exact Nat.lt_irrefl _ (Nat.lt_of_succ_lt this)
  have old : ∀ b o, hb.get? b = some o → h₁.get? b = some o := fun b o e => hsb₁.extBut b o (below b (Heap.lt_size e)).1 (Heap.get?_push_of_some _ (hH2 ▸ Heap.get?_push_of_some _ e))
  have hacc : h₁.PlainList hb.objs.size #[] := ⟨_, hsb₁.extBut _ _ hDC (Heap.get?_push_of_some _ (hH2 ▸ Heap.get?_push_size _ rfl))⟩
  have hst₁ : Sx 0 h₁ := W.frame _ _ _ hst fun b _ o e => old b o e
  have fresh : ∀ a, hb.objs.size ≤ a → hb.get? a = none := fun a ha => by
    cases e : hb.get? a with
    | none => rfl
    | some o' => exact absurd (Heap.lt_size e) (Nat.not_lt.mpr ha)
  have loop : codeAny (model PR w) A (.compLoop (.ListComp elt [⟨.Tuple [.Name xa pa, .Name xb pb, .Name xc pc] kt tp, iter, ifs, 0⟩] scope pos) 0 (.ref I) (.ref hb.objs.size) (compEnvC scope cl H2.objs.size env)) (RR (.ref hb.objs.size) H2.objs.size) (St s h₁ (tk + 0)) := by
    refine compLoopT_ (hsz := hsz) (hb := hb) W hI p F hF hh hab hLI hTup (lookup_relabel_local hx) (lookup_relabel_local hxb) (lookup_relabel_local hxc) hkind hDC hDf hCf (get?_size hb) (fresh _ (by rw [hC]; exact Nat.le_succ _)) hst₁ hacc hns₁ (fun b o _ e => old b o e) q fun h' tk' m' ys vs hn' hpl hlen hP hFp hk => ?_
    refine hRR _ _ h' tk' m' s (by
      cases q : hU.get? H2.objs.size with
      | none => rfl
      | some o => exact absurd (Heap.lt_size (hUp _ _ q)) (by rw [hC]; exact Nat.not_lt.mpr (Nat.le_succ _))) hn' fun h'' hs'' => ?_
    obtain ⟨nn, hnn⟩ := hpl
    exact hQ _ h'' tk' ys nn vs (get?_size hb) (hs''.extBut _ _ hDC hnn) hlen hP (Paired.mono (fun a b z => hF _ _ _ _ z (tk_sameBut hs'' (ns_no_tup hn'))) hFp) fun b o hbI e => hs''.extBut b o (below b (Heap.lt_size e)).1 (hk b o hbI e)
  exact codeAny_compStart_list loop (W.self 0 _ _ _ hst₁ loop)

theorem compToU_ {elt iter : Expr} {x y : Str} {px py : Pos} {ifs : List Expr} {scope : Scope} {cl : List (Str × Addr)} {pos spos : Pos} {Q : Flow → Shared → Prop} (p : Value → Bool) (F : Heap → Value → Value → Prop) (hF : ∀ h h' v y, F h v y → Tk h h' → F h' v y)
    (hsw : swapsWith (.ListComp elt [⟨.Name x px, iter, ifs, 0⟩] scope pos) (some (.Name y py)) spos.line env = pure true)
    (hclos : closureFor scope env = pure cl) (hcell : ∀ z ∈ scope.names, z.2 ≠ .cell) (hkind : scope.kind = .function)
    (hnames : ∀ z ∈ scope.names, z.2 = .local → scope.names.lookup z.1 = some .local) (hx : scope.names.lookup x = some .local)
    (hU : Heap) (g : Wp w A (eval iter env) (fun xv s₁ => Wp w A (pyIter xv) (fun it s₂ => CompAt w A env scope cl x ifs elt p F (fun v s' => ∀ C, hU.get? C = none → (∃ m, s'.heap.Ns C m) → Wp w A (storeName env y v) (fun _ s'' => ∃ m, s''.heap.Ns C m ∧ ∀ h', Heap.SameBut C s''.heap h' → Q .next { s'' with heap := h' }) s') it s₂ ∧ Up hU s₂.heap) s₁) s)
    (hs : ∀ x, foldedSetIterable iter env x = pure x := by intro _; rfl) :
    Wp w A (exec (.Assign [.Name y py] (.ListComp elt [⟨.Name x px, iter, ifs, 0⟩] scope pos) spos) env) Q s := by
  refine ⟨?_⟩
  rw [exec_Assign_Name_used _ _ _ _ hsw]
  refine wpAny_bind (wpAny_standAt (wpAny_bind ?_))
  show wpAny _ A (do let _ ← comprehension (.ListComp elt [⟨.Name x px, iter, ifs, 0⟩] scope pos) scope env _ (newList []) false (eval iter env) (some (assign (.Name y py) env))) _ _ s
  refine wpAny_bind (wpAny_mono (wpAny_comprehension_free (use := some (assign (.Name y py) env)) (Q := fun _ s' => Q .next s') rfl hs hclos hkind hnames
    (g.nest fun xv s₁ h₁ => h₁.nest fun it s₂ h₂ => ?_)) (fun _ s' hq => wpAny_pure (wpAny_pure hq)) fun _ _ e => e)
  refine compBlockU_ (RR := fun acc C => compPost (model PR w) A (fun _ _ => False) (some (assign (.Name y py) env)) (fun _ s' => Q .next s') acc C) p F hF hcell hkind hx hU h₂ ?_
  intro D C h' tk m' s hC hn hq
  refine wpAny_assign_Name ?_
  exact (hq h' (Heap.SameBut.refl ..) C hC ⟨m', hn⟩).any

theorem compToUT_ {elt iter : Expr} {xa xb xc y : Str} {pa pb pc py tp : Pos} {kt : Nat} {ifs : List Expr} {scope : Scope} {cl : List (Str × Addr)} {pos spos : Pos} {Q : Flow → Shared → Prop} (p : Value → Bool) (F : Heap → Value → Value → Prop) (hF : ∀ h h' v y, F h v y → Tk h h' → F h' v y)
    (hsw : swapsWith (.ListComp elt [⟨.Tuple [.Name xa pa, .Name xb pb, .Name xc pc] kt tp, iter, ifs, 0⟩] scope pos) (some (.Name y py)) spos.line env = pure true)
    (hclos : closureFor scope env = pure cl) (hcell : ∀ z ∈ scope.names, z.2 ≠ .cell) (hkind : scope.kind = .function)
    (hnames : ∀ z ∈ scope.names, z.2 = .local → scope.names.lookup z.1 = some .local) (hh : A.handled = none) (hab : xa ≠ xb ∧ xa ≠ xc ∧ xb ≠ xc) (hx : scope.names.lookup xa = some .local) (hxb : scope.names.lookup xb = some .local) (hxc : scope.names.lookup xc = some .local)
    (hU : Heap) (g : Wp w A (eval iter env) (fun xv s₁ => Wp w A (pyIter xv) (fun it s₂ => CompAtT w A env scope cl xa xb xc ifs elt p F (fun v s' => ∀ C, hU.get? C = none → (∃ m, s'.heap.Ns C m) → Wp w A (storeName env y v) (fun _ s'' => ∃ m, s''.heap.Ns C m ∧ ∀ h', Heap.SameBut C s''.heap h' → Q .next { s'' with heap := h' }) s') it s₂ ∧ Up hU s₂.heap) s₁) s)
    (hs : ∀ x, foldedSetIterable iter env x = pure x := by intro _; rfl) :
    Wp w A (exec (.Assign [.Name y py] (.ListComp elt [⟨.Tuple [.Name xa pa, .Name xb pb, .Name xc pc] kt tp, iter, ifs, 0⟩] scope pos) spos) env) Q s := by
  refine ⟨?_⟩
  rw [exec_Assign_Name_used _ _ _ _ hsw]
  refine wpAny_bind (wpAny_standAt (wpAny_bind ?_))
  show wpAny _ A (do let _ ← comprehension (.ListComp elt [⟨.Tuple [.Name xa pa, .Name xb pb, .Name xc pc] kt tp, iter, ifs, 0⟩] scope pos) scope env _ (newList []) false (eval iter env) (some (assign (.Name y py) env))) _ _ s
  refine wpAny_bind (wpAny_mono (wpAny_comprehension_free (use := some (assign (.Name y py) env)) (Q := fun _ s' => Q .next s') rfl hs hclos hkind hnames
    (g.nest fun xv s₁ h₁ => h₁.nest fun it s₂ h₂ => ?_)) (fun _ s' hq => wpAny_pure (wpAny_pure hq)) fun _ _ e => e)
  refine compBlockUT_ (RR := fun acc C => compPost (model PR w) A (fun _ _ => False) (some (assign (.Name y py) env)) (fun _ s' => Q .next s') acc C) p F hF hcell hkind hh hab hx hxb hxc hU h₂ ?_
  intro D C h' tk m' s hC hn hq
  refine wpAny_assign_Name ?_
  exact (hq h' (Heap.SameBut.refl ..) C hC ⟨m', hn⟩).any
end
section
variable {w : World} {A : Around} {s : Shared} {h : Heap} {tk : Nat} {env : Env} {a b : Int} {t u : Tok}
theorem compAtU_list {scope : Scope} {cl : List (Str × Addr)} {x : Str} {ifs : List Expr} {elt : Expr} {p : Value → Bool} {F : Heap → Value → Value → Prop} {Q : Value → Shared → Prop} {l : Addr} {vs : List Value} (hh : A.handled = none) (hl : h.IsList l vs.toArray) (hsz : vs.length ≤ sizeLine)
    (tests : ∀ C v s' h₂ tk₂ m₂, v ∈ vs → h₂.Ns C m₂ → m₂ x = some v → Up h h₂ →
      Wp w A (tests_ ifs (compEnvC scope cl C env)) (fun ok s₃ => ok = p v ∧ ∃ h₃ tk₃, s₃ = St s' h₃ tk₃ ∧ Up h₂ h₃) (St s' h₂ tk₂))
    (elt' : ∀ C v s' h₂ tk₂ m₂, v ∈ vs → p v = true → h₂.Ns C m₂ → m₂ x = some v → Up h h₂ →
      Wp w A (eval elt (compEnvC scope cl C env)) (fun y s₃ => ∃ h₃ tk₃, s₃ = St s' h₃ tk₃ ∧ Up h₂ h₃ ∧ F h₃ v y) (St s' h₂ tk₂))
    (k : ∀ D h' tk' ys nn, h.get? D = none → h'.get? D = some (listOf ys nn) → Paired (F h') (vs.filter p) ys.toList → Up h h' → Q (.ref D) (St s h' tk')) :
    Wp w A (pyIter (.ref l)) (fun it s₂ => CompAt w A env scope cl x ifs elt p F Q it s₂ ∧ Up h s₂.heap) (St s h tk) := by
  obtain ⟨ol, hol, hol'⟩ := id hl
  refine ⟨wpAny_pyIter_list (s := St s h tk) hl ?_⟩
  have hne : l ≠ h.objs.size := Nat.ne_of_lt (Heap.lt_size hol)
  have W := Walks.list (prog := PR) (w := w) hh h.objs.size l hne vs.toArray
  have up : ∀ {h₂ : Heap}, (∀ b o, b ≠ h.objs.size → (h.push { cls := .type "list_iterator", data := .fields #[.ref l, .int 0 0] }).get? b = some o → h₂.get? b = some o) → Up h h₂ :=
    fun hk b o e => hk b o (Nat.ne_of_lt (Heap.lt_size e)) (Heap.get?_push_of_some _ e)
  refine ⟨?_, fun b o e => Heap.get?_push_of_some _ e⟩
  refine ⟨s, _, tk, h.objs.size, _, _, _, _, rfl, rfl, W, fun i h' st => ?_, by simpa using hsz, ⟨⟨_, Heap.get?_push_size _ rfl, rfl, rfl⟩, ⟨ol, Heap.get?_push_of_some _ hol, hol'⟩⟩, fun b hb => ?_,
    ⟨fun C i v s' h₂ tk₂ m₂ hP hn hm hk => tests C v s' h₂ tk₂ m₂ (List.mem_of_getElem? (by simpa using hP)) hn hm (up hk), fun C i v s' h₂ tk₂ m₂ hP hpv hn hm hk => elt' C v s' h₂ tk₂ m₂ (List.mem_of_getElem? (by simpa using hP)) hpv hn hm (up hk)⟩, fun D h' tk' ys nn vs' hD ho hlen hP hF hk => ?_⟩
  · obtain ⟨⟨o, ho, hc, _⟩, _⟩ := st
    exact ⟨o, ho, by rw [hc]; decide⟩
  · rw [Heap.size_push]
    rcases List.mem_cons.mp hb with rfl | hb
    · exact Nat.lt_succ_self _
    · rw [List.mem_singleton.mp hb]; exact Nat.lt_succ_of_lt (Heap.lt_size hol)
  · have e : vs' = vs := by
      refine List.ext_getElem? fun j => ?_
      cases q : vs'[j]? with
      | some v => have := hP j v q; simp at this; exact this.symm
      | none =>
        have h1 := List.getElem?_eq_none_iff.mp q
        exact (List.getElem?_eq_none_iff.mpr (by simp at hlen; omega)).symm
    subst e
    refine k D h' tk' ys nn ?_ ho hF (up hk)
    cases q : h.get? D with
    | none => rfl
    | some o => exact absurd ((Heap.get?_push_of_some _ q).symm.trans hD) (by simp)

theorem compAtU_range {scope : Scope} {cl : List (Str × Addr)} {x : Str} {ifs : List Expr} {elt : Expr} {p : Value → Bool} {F : Heap → Value → Value → Prop} {Q : Value → Shared → Prop} {r : Addr} {u' v' : Tok} {n : Nat} (hh : A.handled = none) (hr : IsRange h r a b 1 t u' v') (ha : -1000 ≤ a) (hb : b ≤ 1000) (hab : b = a + (n : Int))
    (tests : ∀ C k tz s' h₂ tk₂ m₂, k ∈ rng a n → h₂.Ns C m₂ → m₂ x = some (.int k tz) → Up h h₂ →
      Wp w A (tests_ ifs (compEnvC scope cl C env)) (fun ok s₃ => ok = p (.int k tz) ∧ ∃ h₃ tk₃, s₃ = St s' h₃ tk₃ ∧ Up h₂ h₃) (St s' h₂ tk₂))
    (elt' : ∀ C k tz s' h₂ tk₂ m₂, k ∈ rng a n → p (.int k tz) = true → h₂.Ns C m₂ → m₂ x = some (.int k tz) → Up h h₂ →
      Wp w A (eval elt (compEnvC scope cl C env)) (fun y s₃ => ∃ h₃ tk₃, s₃ = St s' h₃ tk₃ ∧ Up h₂ h₃ ∧ F h₃ (.int k tz) y) (St s' h₂ tk₂))
    (k : ∀ D h' tk' ys nn vs, h.get? D = none → h'.get? D = some (listOf ys nn) → Paired IntV (rng a n) vs → Paired (F h') (vs.filter p) ys.toList → Up h h' → Q (.ref D) (St s h' tk')) :
    Wp w A (pyIter (.ref r)) (fun it s₂ => CompAt w A env scope cl x ifs elt p F Q it s₂ ∧ Up h s₂.heap) (St s h tk) := by
  have hn : Builtin.Range.rangeSize a b 1 = (n : Int) := by rw [rangeSize_nat]; omega
  refine ⟨wpAny_pyIter_range (s := St s h tk) hr (small_one (by omega) (by omega) (by omega) (by omega)) ?_⟩
  have W := Walks.range (prog := PR) (w := w) hh h.objs.size a 1 n
  have W' : Walks PR w A h.objs.size [h.objs.size] [h.objs.size] n (fun i v => i < n ∧ ∃ t, v = .int (a + i * 1) t) (fun i h' => IsRangeIter h' h.objs.size (a + (i : Nat) * 1) ((n : Int) - (i : Nat)) 1) := W.bound
  have up : ∀ {h₂ : Heap}, (∀ b' o, b' ≠ h.objs.size → (h.push { cls := .type "range_iterator", data := .fields #[rawInt a, rawInt (Builtin.Range.rangeSize a b 1), rawInt 1] }).get? b' = some o → h₂.get? b' = some o) → Up h h₂ :=
    fun hk b o e => hk b o (Nat.ne_of_lt (Heap.lt_size e)) (Heap.get?_push_of_some _ e)
  have hm : ∀ {i : Nat}, i < n → a + (i : Int) * 1 ∈ rng a n := fun {i} hi => List.mem_of_getElem? (i := i) (by rw [rng_get hi]; simp)
  refine ⟨?_, fun b o e => Heap.get?_push_of_some _ e⟩
  refine ⟨s, _, tk, h.objs.size, _, _, _, _, rfl, rfl, W', fun i h' st => ⟨_, st, (by decide : (Value.type "range_iterator" ≠ Value.type "tuple"))⟩, ?_, ?_, fun b' hb' => ?_,
    ⟨?_, ?_⟩, fun D h' tk' ys nn vs' hD ho hlen hP hF hk => ?_⟩
  · rw [sizeLine_eq]; omega
  · show IsRangeIter _ _ _ _ _
    rw [hn]; simpa [St_heap] using Heap.get?_push_size _ rfl
  · rw [List.mem_singleton.mp hb', Heap.size_push]; exact Nat.lt_succ_self _
  · rintro C i v s' h₂ tk₂ m₂ ⟨hi, tz, rfl⟩ hn hm' hk
    exact tests C _ tz s' h₂ tk₂ m₂ (hm hi) hn hm' (up hk)
  · rintro C i v s' h₂ tk₂ m₂ ⟨hi, tz, rfl⟩ hpv hn hm' hk
    exact elt' C _ tz s' h₂ tk₂ m₂ (hm hi) hpv hn hm' (up hk)
  · refine k D h' tk' ys nn vs' ?_ ho ?_ hF (up hk)
    · cases q : h.get? D with
      | none => rfl
      | some o => exact absurd ((Heap.get?_push_of_some _ q).symm.trans hD) (by simp)
    · have gen : ∀ (m : Nat) (c : Int) (ws : List Value), ws.length = m → (∀ (j : Nat) (v : Value), ws[j]? = some v → ∃ t, v = .int (c + (j : Int)) t) → Paired IntV (rng c m) ws := by
        intro m
        induction m with
        | zero => intro c ws hl _; rw [List.length_eq_zero_iff.mp hl]; exact .nil
        | succ m ih =>
          intro c ws hl hw
          cases ws with
          | nil => cases hl
          | cons v ws =>
            have e : rng c (m + 1) = c :: rng (c + 1) m := by
              unfold rng
              rw [List.range_succ_eq_map, List.map_cons, List.map_map]
              simp only [Int.natCast_zero, Int.add_zero, List.cons.injEq, true_and]
              refine List.map_congr_left fun i _ => ?_
              simp only [Function.comp]; omega
            rw [e]
            refine .cons ?_ (ih _ ws (by simpa using hl) fun j v hv => ?_)
            · obtain ⟨t, ht⟩ := hw 0 v rfl; exact ⟨t, by simpa using ht⟩
            · obtain ⟨t, ht⟩ := hw (j + 1) v hv; exact ⟨t, by rw [ht]; congr 1; omega⟩
      refine gen n a vs' hlen fun j v hv => ?_
      obtain ⟨_, t, ht⟩ := hP j v hv
      exact ⟨t, by rw [ht]; congr 1; omega⟩

theorem compAtUT_list {scope : Scope} {cl : List (Str × Addr)} {xa xb xc : Str} {ifs : List Expr} {elt : Expr} {p : Value → Bool} {F : Heap → Value → Value → Prop} {Q : Value → Shared → Prop} {l : Addr} {vs : List Value} (hh : A.handled = none) (hl : h.IsList l vs.toArray) (hsz : vs.length ≤ sizeLine) (hTup : ∀ v ∈ vs, ∃ T ya yb yc k, v = Value.ref T ∧ h.get? T = some (tupO #[ya, yb, yc] k))
    (tests : ∀ C (v : Addr) s' h₂ tk₂ m₂, Value.ref v ∈ vs → h₂.Ns C m₂ → (∃ ya yb yc k, h.get? v = some (tupO #[ya, yb, yc] k) ∧ m₂ xa = some ya ∧ m₂ xb = some yb ∧ m₂ xc = some yc) → Up h h₂ →
      Wp w A (tests_ ifs (compEnvC scope cl C env)) (fun ok s₃ => ok = p (.ref v) ∧ ∃ h₃ tk₃, s₃ = St s' h₃ tk₃ ∧ Up h₂ h₃) (St s' h₂ tk₂))
    (elt' : ∀ C (v : Addr) s' h₂ tk₂ m₂, Value.ref v ∈ vs → p (.ref v) = true → h₂.Ns C m₂ → (∃ ya yb yc k, h.get? v = some (tupO #[ya, yb, yc] k) ∧ m₂ xa = some ya ∧ m₂ xb = some yb ∧ m₂ xc = some yc) → Up h h₂ →
      Wp w A (eval elt (compEnvC scope cl C env)) (fun y s₃ => ∃ h₃ tk₃, s₃ = St s' h₃ tk₃ ∧ Up h₂ h₃ ∧ F h₃ (.ref v) y) (St s' h₂ tk₂))
    (k : ∀ D h' tk' ys nn, h.get? D = none → h'.get? D = some (listOf ys nn) → Paired (F h') (vs.filter p) ys.toList → Up h h' → Q (.ref D) (St s h' tk')) :
    Wp w A (pyIter (.ref l)) (fun it s₂ => CompAtT w A env scope cl xa xb xc ifs elt p F Q it s₂ ∧ Up h s₂.heap) (St s h tk) := by
  obtain ⟨ol, hol, hol'⟩ := id hl
  refine ⟨wpAny_pyIter_list (s := St s h tk) hl ?_⟩
  have hne : l ≠ h.objs.size := Nat.ne_of_lt (Heap.lt_size hol)
  have W := Walks.list (prog := PR) (w := w) hh h.objs.size l hne vs.toArray
  have up : ∀ {h₂ : Heap}, (∀ b o, b ≠ h.objs.size → (h.push { cls := .type "list_iterator", data := .fields #[.ref l, .int 0 0] }).get? b = some o → h₂.get? b = some o) → Up h h₂ :=
    fun hk b o e => hk b o (Nat.ne_of_lt (Heap.lt_size e)) (Heap.get?_push_of_some _ e)
  have hT : ∀ (i : Nat) (v : Addr), vs.toArray[i]? = some (Value.ref v) → ∃ o, h.get? v = some o := fun i v hP => by
    obtain ⟨T, ya, yb, yc, k, e, f⟩ := hTup _ (List.mem_of_getElem? (by simpa using hP))
    cases e; exact ⟨_, f⟩
  have old : ∀ {v : Addr} {m₂ : Str → Option Value}, (∃ ya yb yc k, (h.push { cls := .type "list_iterator", data := .fields #[.ref l, .int 0 0] }).get? v = some (tupO #[ya, yb, yc] k) ∧ m₂ xa = some ya ∧ m₂ xb = some yb ∧ m₂ xc = some yc) → (∃ o, h.get? v = some o) → ∃ ya yb yc k, h.get? v = some (tupO #[ya, yb, yc] k) ∧ m₂ xa = some ya ∧ m₂ xb = some yb ∧ m₂ xc = some yc := by
    rintro v m₂ ⟨ya, yb, yc, k, e, r⟩ ⟨o, ho⟩
    rw [Heap.get?_push_of_some _ ho] at e
    exact ⟨ya, yb, yc, k, ho.trans e, r⟩
  refine ⟨?_, fun b o e => Heap.get?_push_of_some _ e⟩
  refine ⟨s, _, tk, h.objs.size, _, _, _, _, rfl, rfl, W, fun i h' st => ?_, by simpa using hsz, ⟨⟨_, Heap.get?_push_size _ rfl, rfl, rfl⟩, ⟨ol, Heap.get?_push_of_some _ hol, hol'⟩⟩, fun b hb => ?_,
    fun i h' st => ⟨l, i, st.1⟩, fun i v hP => ?_, ⟨fun C i v s' h₂ tk₂ m₂ hP hn hm hk => tests C v s' h₂ tk₂ m₂ (List.mem_of_getElem? (by simpa using hP)) hn (old hm (hT _ _ hP)) (up hk), fun C i v s' h₂ tk₂ m₂ hP hpv hn hm hk => elt' C v s' h₂ tk₂ m₂ (List.mem_of_getElem? (by simpa using hP)) hpv hn (old hm (hT _ _ hP)) (up hk)⟩, fun D h' tk' ys nn vs' hD ho hlen hP hF hk => ?_⟩
  · obtain ⟨⟨o, ho, hc, _⟩, _⟩ := st
    exact ⟨o, ho, by rw [hc]; decide⟩
  · rw [Heap.size_push]
    rcases List.mem_cons.mp hb with rfl | hb
    · exact Nat.lt_succ_self _
    · rw [List.mem_singleton.mp hb]; exact Nat.lt_succ_of_lt (Heap.lt_size hol)
  · obtain ⟨T, ya, yb, yc, k, e, f⟩ := hTup _ (List.mem_of_getElem? (by simpa using hP))
    exact ⟨T, ya, yb, yc, k, e, Heap.get?_push_of_some _ f, Nat.ne_of_lt (Heap.lt_size f)⟩
  · have e : vs' = vs := by
      refine List.ext_getElem? fun j => ?_
      cases q : vs'[j]? with
      | some v => have := hP j v q; simp at this; exact this.symm
      | none =>
        have h1 := List.getElem?_eq_none_iff.mp q
        exact (List.getElem?_eq_none_iff.mpr (by simp at hlen; omega)).symm
    subst e
    refine k D h' tk' ys nn ?_ ho hF (up hk)
    cases q : h.get? D with
    | none => rfl
    | some o => exact absurd ((Heap.get?_push_of_some _ q).symm.trans hD) (by simp)

end

/-! ## WE -/
section
variable {w : World} {A : Around} {s : Shared} {h h₀ : Heap} {L : Addr} {m : Str → Option Value} {news : List (Addr × Obj)} {tk : Nat} {env : Env} {pos : Pos} {t u : Tok} {Q : Value → Shared → Prop}
def shrI (a b : Int) : Int := if b ≥ ((Builtin.Int.intBits a : Nat) : Int) then (if a < 0 then -1 else 0) else a.fdiv (2 ^ b.toNat)
theorem shr_ {a b : Int} (h0 : 0 ≤ b) (g : ∀ tk' t', Q (.int (shrI a b) t') (St s h tk')) : Wp w A (binaryOp .RShift (.int a t) (.int b u)) Q (St s h tk) := by
  unfold shrI at g
  by_cases hb : b ≥ ((Builtin.Int.intBits a : Nat) : Int)
  · simp only [if_pos hb] at g
    exact ⟨AutoIntOps.rshift_1 (by omega) hb (g _ _)⟩
  · simp only [if_neg hb] at g
    exact ⟨AutoIntOps.rshift_2 (by omega) hb (g _ _)⟩
theorem eNeS {x y : Str} {s : Shared} (g : Q (.bool (x != y)) s) : Wp w A (compareOp .NotEq (.str x t) (.str y u)) Q s := ⟨PyProof.Rows.ne_str g⟩
theorem truthyL_ {l : Addr} {vs : List Value} {Q : Bool → Shared → Prop} (hl : h.IsList l vs.toArray) (hz : vs.length ≤ 1000) (g : ∀ tk', Q (!vs.isEmpty) (St s h tk')) : Wp w A (truthy (.ref l)) Q (St s h tk) :=
  ⟨wpAny_truthy_list (s := St s h tk) hl (by simp; omega) (by
    have := g (tk + 1 + 1)
    rw [show vs.toArray.isEmpty = vs.isEmpty by simp]; exact this)⟩
theorem eOr {e₁ e₂ : Expr} {s : Shared} (g : Wp w A (eval e₁ env) (fun v s₁ => Wp w A (truthy v) (fun c s₂ => if c then Q v s₂ else Wp w A (eval e₂ env) Q s₂) s₁) s) : Wp w A (eval (.BoolOp .Or [e₁, e₂] pos) env) Q s :=
  ⟨BoolOp_or (g.nest fun v s₁ z => z.nest fun c s₂ z => by
    cases c with
    | true => exact z
    | false => exact BoolOp_one z.any)⟩
/-- two lists whose items are equal one by one -/
theorem neSame_ {l b : Addr} {vs ws : List Value} (hu : A.units < cLine) (hl : h.IsList l vs.toArray) (hb : h.IsList b ws.toArray) (hsz : vs.length = ws.length)
    (he : ∀ (j : Nat) (v v' : Value), vs[j]? = some v → ws[j]? = some v' → PySem.SeqAt.EqAt A.in1 (St s h tk) v v' true) (g : Q (.bool false) (St s h tk)) : Wp w A (compareOp .NotEq (.ref l) (.ref b)) Q (St s h tk) := by
  have z := PySem.SeqAt.RcNeAt.lists (A := A) (s := St s h tk) (e := fun _ => true) hl hb (by simpa using hsz) hu (fun j h1 h2 => he j _ _ (by simp) (by simp))
  refine ⟨z PR w _ Q ?_⟩
  rw [show (!(List.range vs.toArray.size).all fun _ => true) = false by simp]
  exact g
theorem neStrs_ {l b : Addr} {vs ws : List Value} {xs : List Str} (hu : A.units < cLine) (hl : h.IsList l vs.toArray) (hb : h.IsList b ws.toArray) (hv : Paired StrV xs vs) (hw : Paired StrV xs ws) (g : Q (.bool false) (St s h tk)) : Wp w A (compareOp .NotEq (.ref l) (.ref b)) Q (St s h tk) := by
  refine neSame_ hu hl hb (hv.length.symm.trans hw.length) (fun j v v' e1 e2 => ?_) g
  obtain ⟨a, ha, ta, rfl⟩ := Paired.get hv e1
  obtain ⟨a', ha', tb, rfl⟩ := Paired.get hw e2
  rw [ha] at ha'; cases ha'
  have := PySem.SeqAt.EqAt.str_str (A := A.in1) (s := St s h tk) a ta a tb
  rwa [show (a == a) = true by simp] at this
theorem neTrips_ {l b : Addr} {vs ws : List Value} {xs : List (Int × Int × Int)} (hu : A.units + 1 < cLine) (hl : h.IsList l vs.toArray) (hb : h.IsList b ws.toArray) (hv : Paired (TripV h) xs vs) (hw : Paired (TripV h) xs ws) (g : Q (.bool false) (St s h tk)) : Wp w A (compareOp .NotEq (.ref l) (.ref b)) Q (St s h tk) := by
  refine neSame_ (by omega) hl hb (hv.length.symm.trans hw.length) (fun j v v' e1 e2 => ?_) g
  obtain ⟨a, ha, T, ta, tb, tc, k, rfl, hT⟩ := Paired.get hv e1
  obtain ⟨a', ha', T', ta', tb', tc', k', rfl, hT'⟩ := Paired.get hw e2
  rw [ha] at ha'; cases ha'
  by_cases hne : T = T'
  · subst hne; exact .same _
  · refine .of_refs hne ?_
    have z := PySem.SeqAt.RcAt.tuples (A := A.in1) (s := St s h tk) (l := T) (b := T') (items := #[.int a.1 ta, .int a.2.1 tb, .int a.2.2 tc]) (items2 := #[.int a.1 ta', .int a.2.1 tb', .int a.2.2 tc']) (e := fun _ => true) ⟨_, hT, rfl, _, rfl⟩ ⟨_, hT', rfl, _, rfl⟩ (by show A.units + 1 < cLine; exact hu) (fun j h1 h2 => by
      have ii : ∀ (x : Int) (t u : Tok), PySem.SeqAt.EqAt A.in1.in1 (St s h tk) (.int x t) (.int x u) true := fun x t u => by
        have := PySem.SeqAt.EqAt.int_int (A := A.in1.in1) (s := St s h tk) x t x u
        rwa [show (x == x) = true by simp] at this
      match j, h1, h2 with
      | 0, _, _ => exact ii _ _ _
      | 1, _, _ => exact ii _ _ _
      | 2, _, _ => exact ii _ _ _)
    exact z
theorem inStrs_ {l : Addr} {vs : List Value} {xs : List Str} {x : Str} (hl : h.IsList l vs.toArray) (hv : Paired StrV xs vs) (g : Q (.bool (xs.any (· == x))) (St s h tk)) : Wp w A (compareOp .In (.str x t) (.ref l)) Q (St s h tk) := by
  let e : Value → Bool := fun v => match v with | .str y _ => y == x | _ => false
  have ha : ∀ {xs : List Str} {vs : List Value}, Paired StrV xs vs → vs.any e = xs.any (· == x) := by
    intro xs vs hp
    induction hp with
    | nil => rfl
    | cons a _ ih => obtain ⟨t, rfl⟩ := a; simp only [List.any_cons, ih]; rfl
  refine ⟨PySem.SeqAt.in_listAt (s := St s h tk) e hl (fun y hy => ?_) ?_⟩
  · obtain ⟨a, _, ta, rfl⟩ := Paired.mem hv (show y ∈ vs by simpa using hy)
    exact PySem.SeqAt.EqAt.str_str a ta x t
  · rw [show (vs.toArray.any e) = vs.any e by simp, ha hv]; exact g
theorem sumL_ {l : Addr} {vs : List Value} {ns : List Int} (hh : A.handled = none) (c : Cx h₀ L h m news) (hl : h.IsList l vs.toArray) (hi : IntsAre vs ns) (g : ∀ h' tk' t', Cx h₀ L h' m news → Q (.int ns.sum t') (St s h' tk')) : Wp w A (call (.builtin "sum") [.ref l]) Q (St s h tk) :=
  ⟨sumK (s := St s h tk) hh c.F c.N hl hi fun h' tk' t' F' N' => g h' tk' t' ⟨F', N', c.D⟩⟩
theorem splitL_ {x y : Str} (c : Cx h₀ L h m news) (hy : (y.length == 0) = false) (hz : x.length ≤ 10000) (g : ∀ D h' tk' vs, Cx h₀ L h' m ((D, listOf vs.toArray 0) :: news) → Paired StrV (Txt.split x y) vs → Q (.ref D) (St s h' tk')) :
    Wp w A (call (.builtin "str.split") [.str x t, .str y u]) Q (St s h tk) :=
  ⟨KSpl.split1 (s := St s h tk) c.F c.N hy (fun D l h' k e hs F' N' hlt => g D h' k (strValues l) ⟨F', N', List.nodup_cons.mpr ⟨fun hm => by
    obtain ⟨p, hp, e⟩ := List.mem_map.mp hm
    exact absurd (hlt p hp) (e ▸ Nat.lt_irrefl _), c.D⟩⟩ (by rw [← e]; exact strs_paired hs)) (by rw [sizeLine_eq]; omega)⟩
theorem sliceTo_ {value : Expr} {l : Addr} {vs : List Value} {k : Nat} {i : Int} {pp sp : Pos} (c : Cx h₀ L h m news) (hl : h.IsList l vs.toArray) (hz : vs.length ≤ 1000) (hv : Wp w A (eval value env) (fun v s₁ => v = .ref l ∧ s₁ = St s h tk) (St s h tk))
    (g : ∀ D h' tk', Cx h₀ L h' m ((D, listOf (slicePick vs.toArray none (some i) none) 0) :: news) → Q (.ref D) (St s h' tk'))
    (hg : ∀ r, letTemporaryGo value (.ref l) r = pure () := by intro _; with_unfolding_all rfl) :
    Wp w A (eval (.Subscript value (.Slice none (some (.Constant (.int i) k pp)) none sp) pos) env) Q (St s h tk) := by
  refine eSub (hv.mono fun v s₁ e => ?_)
  obtain ⟨rfl, rfl⟩ := e
  refine ⟨wpAny_Slice (evalPart_none_step (evalPart_some_step (wpAny_Constant_int (evalPart_none_step ?_))))⟩
  refine' ⟨slice_list3 (s := St s h (tk + 1)) (value := value) (slice := .Slice none (some (.Constant (.int i) k pp)) none sp) c.F c.N hl .none (.int _ _) .none (by simp) (fun h' F' N' => g _ h' _ ⟨F', N', List.nodup_cons.mpr ⟨fun hm => by
    obtain ⟨p, hp, e⟩ := List.mem_map.mp hm
    exact absurd (Heap.lt_size (c.N p hp).1) (e ▸ Nat.not_lt.mpr (Nat.le_succ _)), c.D⟩⟩) ?hs hg (by rw [List.size_toArray, sizeLine_eq]; omega)⟩
  case hs => with_unfolding_all rfl
theorem sliceRev_ {value : Expr} {l : Addr} {vs : List Value} {k : Nat} {pp up sp : Pos} (c : Cx h₀ L h m news) (hl : h.IsList l vs.toArray) (hz : vs.length ≤ 1000) (hv : Wp w A (eval value env) (fun v s₁ => v = .ref l ∧ s₁ = St s h tk) (St s h tk))
    (g : ∀ D h' tk', Cx h₀ L h' m ((D, listOf (slicePick vs.toArray none none (some (-1))) 0) :: news) → Q (.ref D) (St s h' tk'))
    (hg : ∀ r, letTemporaryGo value (.ref l) r = pure () := by intro _; with_unfolding_all rfl) :
    Wp w A (eval (.Subscript value (.Slice none none (some (.UnaryOp .USub (.Constant (.int 1) k pp) up)) sp) pos) env) Q (St s h tk) := by
  refine eSub (hv.mono fun v s₁ e => ?_)
  obtain ⟨rfl, rfl⟩ := e
  refine ⟨wpAny_Slice (evalPart_none_step (evalPart_none_step (evalPart_some_step (UnaryOp_ (wpAny_Constant_int (PyProof.Rows.neg_int ?_))))))⟩
  refine' ⟨slice_list3 (s := St s h (tk + 1 + 1)) (value := value) (slice := .Slice none none (some (.UnaryOp .USub (.Constant (.int 1) k pp) up)) sp) c.F c.N hl .none .none (.int _ _) (by simp) (fun h' F' N' => g _ h' _ ⟨F', N', List.nodup_cons.mpr ⟨fun hm => by
    obtain ⟨p, hp, e⟩ := List.mem_map.mp hm
    exact absurd (Heap.lt_size (c.N p hp).1) (e ▸ Nat.not_lt.mpr (Nat.le_succ _)), c.D⟩⟩) ?hs hg (by rw [List.size_toArray, sizeLine_eq]; omega)⟩
  case hs => with_unfolding_all rfl
end

/-! ## LW -/
/-- the law's cells and the table of codes, behind what else is new -/
structure Law (h₀ : Heap) (L : Addr) (h : Heap) (m : Str → Option Value) (ps : Array Value) (c1 c2 c3 c4 c5 c6 c7 : Option Value) (LS : List (Addr × Obj)) : Prop where
  ex : ∃ o1 o2 o3 o4 o5 o6 o7, Cx h₀ L h m (LS ++ [(89, tabO ps), (L + 1, o1), (L + 2, o2), (L + 3, o3), (L + 4, o4), (L + 5, o5), (L + 6, o6), (L + 7, o7)]) ∧ o1.data = .cell c1 ∧ o2.data = .cell c2 ∧ o3.data = .cell c3 ∧ o4.data = .cell c4 ∧ o5.data = .cell c5 ∧ o6.data = .cell c6 ∧ o7.data = .cell c7
section
variable {w : World} {A : Around} {s : Shared} {h h' h₀ : Heap} {L D : Addr} {o : Obj} {m m' : Str → Option Value} {ps ps' : Array Value} {c1 c2 c3 c4 c5 c6 c7 : Option Value} {LS LS' : List (Addr × Obj)} {tk : Nat}
abbrev Law.fr (_ : Law h₀ L h m ps c1 c2 c3 c4 c5 c6 c7 LS) : Str → Option Value := m
theorem Law.keep (l : Law h₀ L h m ps c1 c2 c3 c4 c5 c6 c7 LS) : Up h₀ h := by
  obtain ⟨o1, o2, o3, o4, o5, o6, o7, c, _⟩ := l.ex
  exact c.F.keep
theorem Law.ns (l : Law h₀ L h m ps c1 c2 c3 c4 c5 c6 c7 LS) : h.Ns L m := by
  obtain ⟨o1, o2, o3, o4, o5, o6, o7, c, _⟩ := l.ex
  exact c.F.ns
theorem Law.up (l : Law h₀ L h m ps c1 c2 c3 c4 c5 c6 c7 LS) (u : Up h h') : Law h₀ L h' m ps c1 c2 c3 c4 c5 c6 c7 LS := by
  obtain ⟨o1, o2, o3, o4, o5, o6, o7, c, r⟩ := l.ex
  exact ⟨o1, o2, o3, o4, o5, o6, o7, c.up u, r⟩
theorem Law.add (l : Law h₀ L h m ps c1 c2 c3 c4 c5 c6 c7 LS) (u : Up h h') (hn : h.get? D = none) (ho : h'.get? D = some o) : Law h₀ L h' m ps c1 c2 c3 c4 c5 c6 c7 ((D, o) :: LS) := by
  obtain ⟨o1, o2, o3, o4, o5, o6, o7, c, r⟩ := l.ex
  exact ⟨o1, o2, o3, o4, o5, o6, o7, c.add u hn ho, r⟩
theorem Law.get (l : Law h₀ L h m ps c1 c2 c3 c4 c5 c6 c7 LS) (hm : (D, o) ∈ LS) : h.get? D = some o := by
  obtain ⟨o1, o2, o3, o4, o5, o6, o7, c, r⟩ := l.ex
  exact (c.N _ (List.mem_append_left _ hm)).1
theorem Law.tab (l : Law h₀ L h m ps c1 c2 c3 c4 c5 c6 c7 LS) : h.get? 89 = some (tabO ps) := by
  obtain ⟨o1, o2, o3, o4, o5, o6, o7, c, r⟩ := l.ex
  exact (c.N _ (List.mem_append_right _ (.head _))).1
/-- a rule that speaks of the frame and its news -/
theorem Law.cx (l : Law h₀ L h m ps c1 c2 c3 c4 c5 c6 c7 LS) {P : Prop} (k : ∀ T, Cx h₀ L h m (LS ++ T) → (∀ h' m' LS', Cx h₀ L h' m' (LS' ++ T) → Law h₀ L h' m' ps c1 c2 c3 c4 c5 c6 c7 LS') → P) : P := by
  obtain ⟨o1, o2, o3, o4, o5, o6, o7, c, r⟩ := l.ex
  exact k _ c fun h' m' LS' c' => ⟨o1, o2, o3, o4, o5, o6, o7, c', r⟩
theorem Law.sub (l : Law h₀ L h m ps c1 c2 c3 c4 c5 c6 c7 LS) (q : LS'.Sublist LS) : Law h₀ L h m ps c1 c2 c3 c4 c5 c6 c7 LS' := by
  obtain ⟨o1, o2, o3, o4, o5, o6, o7, c, r⟩ := l.ex
  exact ⟨o1, o2, o3, o4, o5, o6, o7, c.sub (q.append_right _), r⟩
theorem Law.perm (l : Law h₀ L h m ps c1 c2 c3 c4 c5 c6 c7 LS) (q : LS.Perm LS') : Law h₀ L h m ps c1 c2 c3 c4 c5 c6 c7 LS' := by
  obtain ⟨o1, o2, o3, o4, o5, o6, o7, c, r⟩ := l.ex
  exact ⟨o1, o2, o3, o4, o5, o6, o7, c.perm (q.append_right _), r⟩
theorem Law.adds {nx : List (Addr × Obj)} (l : Law h₀ L h m ps c1 c2 c3 c4 c5 c6 c7 LS) (u : Up h h') (hn : ∀ p ∈ nx, h.get? p.1 = none ∧ h'.get? p.1 = some p.2) (nd : (nx.map (·.1)).Nodup) : Law h₀ L h' m ps c1 c2 c3 c4 c5 c6 c7 (nx ++ LS) := by
  obtain ⟨o1, o2, o3, o4, o5, o6, o7, c, r⟩ := l.ex
  obtain ⟨oL, _, _, hL, _⟩ := c.F.ns
  refine ⟨o1, o2, o3, o4, o5, o6, o7, ⟨c.F.keeps u, fun p hp => ?_, ?_⟩, r⟩
  · rw [List.append_assoc] at hp
    rcases List.mem_append.mp hp with q | q
    · refine ⟨(hn p q).2, fun e => ?_, ?_⟩
      · have h1 := (hn p q).1; rw [e, hL] at h1; cases h1
      · cases z : h₀.get? p.1 with
        | none => rfl
        | some o => have := c.F.keep _ _ z; rw [(hn p q).1] at this; cases this
    · exact c.N.grown u p q
  · rw [List.append_assoc, List.map_append]
    refine List.nodup_append.mpr ⟨nd, c.D, fun a ha b hb e => ?_⟩
    obtain ⟨p, hp, rfl⟩ := List.mem_map.mp ha
    obtain ⟨q, hq, rfl⟩ := List.mem_map.mp hb
    have h1 := (hn p hp).1
    rw [e, (c.N q hq).1] at h1; cases h1
theorem Law.table (l : Law h₀ L h m ps c1 c2 c3 c4 c5 c6 c7 LS) (hx : Heap.ExtBut 89 h h') (ho : h'.get? 89 = some (tabO ps')) : Law h₀ L h' m ps' c1 c2 c3 c4 c5 c6 c7 LS := by
  obtain ⟨o1, o2, o3, o4, o5, o6, o7, c, r⟩ := l.ex
  exact ⟨o1, o2, o3, o4, o5, o6, o7, Cx.ext c hx ho, r⟩
/-- into a loop's turn: the walked things stand among what is new -/
theorem Law.into {own : List (Addr × Obj)} {o1 o2 o3 o4 o5 o6 o7 : Obj} (c : Cx h₀ L h m ((LS ++ [(89, tabO ps), (L + 1, o1), (L + 2, o2), (L + 3, o3), (L + 4, o4), (L + 5, o5), (L + 6, o6), (L + 7, o7)]) ++ own)) (r : o1.data = .cell c1 ∧ o2.data = .cell c2 ∧ o3.data = .cell c3 ∧ o4.data = .cell c4 ∧ o5.data = .cell c5 ∧ o6.data = .cell c6 ∧ o7.data = .cell c7) : Law h₀ L h m ps c1 c2 c3 c4 c5 c6 c7 (own ++ LS) :=
  ⟨o1, o2, o3, o4, o5, o6, o7, c.perm (by
    rw [List.append_assoc own LS]
    exact List.perm_append_comm), r⟩
theorem Law.out {own : List (Addr × Obj)} (l : Law h₀ L h m ps c1 c2 c3 c4 c5 c6 c7 (own ++ LS)) : ∃ o1 o2 o3 o4 o5 o6 o7, Cx h₀ L h m ((LS ++ [(89, tabO ps), (L + 1, o1), (L + 2, o2), (L + 3, o3), (L + 4, o4), (L + 5, o5), (L + 6, o6), (L + 7, o7)]) ++ own) ∧ o1.data = .cell c1 ∧ o2.data = .cell c2 ∧ o3.data = .cell c3 ∧ o4.data = .cell c4 ∧ o5.data = .cell c5 ∧ o6.data = .cell c6 ∧ o7.data = .cell c7 := by
  obtain ⟨o1, o2, o3, o4, o5, o6, o7, c, r⟩ := l.ex
  exact ⟨o1, o2, o3, o4, o5, o6, o7, c.perm (by
    rw [List.append_assoc own LS]
    exact List.perm_append_comm), r⟩
/-- a local is stored -/
theorem Law.stL {env : Env} {x : Str} {v : Value} {Q : Unit → Shared → Prop} (l : Law h₀ env.locals h m ps c1 c2 c3 c4 c5 c6 c7 LS) (g : ∀ h' tk', Law h₀ env.locals h' (fun y => if y = x then some v else m y) ps c1 c2 c3 c4 c5 c6 c7 LS → Q () (St s h' tk'))
    (hx : env.kindOf x = some .local := by kernel_rfl) (hk : (env.scope.kind == .class || (env.scope.kind == .module && env.locals != env.globals)) = false := by rfl) : Wp w A (storeName env x v) Q (St s h tk) := by
  obtain ⟨o1, o2, o3, o4, o5, o6, o7, c, r⟩ := l.ex
  exact Mine.stL c (fun h' tk' c' => g h' tk' ⟨o1, o2, o3, o4, o5, o6, o7, c', r⟩) hx hk
theorem Law.stS {env : Env} {x : Str} {v : Value} {Q : Unit → Shared → Prop} (l : Law h₀ env.locals h m ps c1 c2 c3 c4 c5 c6 c7 LS) (g : ∀ h' tk', Law h₀ env.locals h' (fun y => if y = x then some v else m y) ps c1 c2 c3 c4 c5 c6 c7 LS → Heap.SameBut env.locals h h' → Q () (St s h' tk'))
    (hx : env.kindOf x = some .local := by kernel_rfl) (hk : (env.scope.kind == .class || (env.scope.kind == .module && env.locals != env.globals)) = false := by rfl) : Wp w A (storeName env x v) Q (St s h tk) := by
  obtain ⟨o1, o2, o3, o4, o5, o6, o7, c, r⟩ := l.ex
  exact ⟨wpAny_storeName_local hx c.F.ns (fun h' hn hs => g h' _ ⟨o1, o2, o3, o4, o5, o6, o7, c.store hn hs, r⟩ hs) hk⟩
theorem Law.nm {env : Env} {x : Str} {pos : Pos} {v : Value} {Q : Value → Shared → Prop} (l : Law h₀ env.locals h m ps c1 c2 c3 c4 c5 c6 c7 LS) (hv : m x = some v) (g : Q v (St s h tk))
    (hk : env.scope.kind = .function := by rfl) (hx : env.kindOf x = some .local := by kernel_rfl) (hd : (x == ("__debug__" : Str)) = false := by kernel_rfl) : Wp w A (eval (.Name x pos) env) Q (St s h tk) := nmL l.ns hv g hk hx hd

theorem Law.cell1 (l : Law h₀ L h m ps c1 c2 c3 c4 c5 c6 c7 LS) : h.IsCell (L + 1) c1 := by
  obtain ⟨o1, o2, o3, o4, o5, o6, o7, c, r1, r2, r3, r4, r5, r6, r7⟩ := l.ex
  exact ⟨o1, (c.N _ (List.mem_append_right _ (.tail _ (.head _)))).1, r1⟩
theorem Law.st1 {env : Env} {x : Str} {v : Value} {Q : Unit → Shared → Prop} (l : Law h₀ env.locals h m ps c1 c2 c3 c4 c5 c6 c7 LS) (hc : env.cells.lookup x = some (env.locals + 1)) (g : ∀ h' tk', Law h₀ env.locals h' m ps (some v) c2 c3 c4 c5 c6 c7 LS → Q () (St s h' tk'))
    (hk : env.scope.kind = .function := by rfl) (hl : env.kindOf x = some .cell := by kernel_rfl) : Wp w A (storeName env x v) Q (St s h tk) := by
  obtain ⟨o1, o2, o3, o4, o5, o6, o7, c, r1, r2, r3, r4, r5, r6, r7⟩ := l.ex
  have e : ∀ o, LS ++ [(89, tabO ps), (env.locals + 1, o), (env.locals + 2, o2), (env.locals + 3, o3), (env.locals + 4, o4), (env.locals + 5, o5), (env.locals + 6, o6), (env.locals + 7, o7)] = (LS ++ [(89, tabO ps)]) ++ (env.locals + 1, o) :: [(env.locals + 2, o2), (env.locals + 3, o3), (env.locals + 4, o4), (env.locals + 5, o5), (env.locals + 6, o6), (env.locals + 7, o7)] := fun o => by simp
  rw [e] at c
  exact stC c hc r1 (fun h' o' c' hd' => g h' _ ⟨o', o2, o3, o4, o5, o6, o7, by rw [e]; exact c', hd', r2, r3, r4, r5, r6, r7⟩) hk hl
theorem Law.nm1 {env : Env} {x : Str} {pos : Pos} {v : Value} {Q : Value → Shared → Prop} (l : Law h₀ env.locals h m ps (some v) c2 c3 c4 c5 c6 c7 LS) (hc : env.cells.lookup x = some (env.locals + 1)) (g : Q v (St s h tk))
    (hk : env.scope.kind = .function := by rfl) (hx : env.kindOf x = some .cell := by kernel_rfl) (hd : (x == ("__debug__" : Str)) = false := by kernel_rfl) : Wp w A (eval (.Name x pos) env) Q (St s h tk) := nmC hc l.cell1 g hk hx hd

theorem Law.cell2 (l : Law h₀ L h m ps c1 c2 c3 c4 c5 c6 c7 LS) : h.IsCell (L + 2) c2 := by
  obtain ⟨o1, o2, o3, o4, o5, o6, o7, c, r1, r2, r3, r4, r5, r6, r7⟩ := l.ex
  exact ⟨o2, (c.N _ (List.mem_append_right _ (.tail _ (.tail _ (.head _))))).1, r2⟩
theorem Law.st2 {env : Env} {x : Str} {v : Value} {Q : Unit → Shared → Prop} (l : Law h₀ env.locals h m ps c1 c2 c3 c4 c5 c6 c7 LS) (hc : env.cells.lookup x = some (env.locals + 2)) (g : ∀ h' tk', Law h₀ env.locals h' m ps c1 (some v) c3 c4 c5 c6 c7 LS → Q () (St s h' tk'))
    (hk : env.scope.kind = .function := by rfl) (hl : env.kindOf x = some .cell := by kernel_rfl) : Wp w A (storeName env x v) Q (St s h tk) := by
  obtain ⟨o1, o2, o3, o4, o5, o6, o7, c, r1, r2, r3, r4, r5, r6, r7⟩ := l.ex
  have e : ∀ o, LS ++ [(89, tabO ps), (env.locals + 1, o1), (env.locals + 2, o), (env.locals + 3, o3), (env.locals + 4, o4), (env.locals + 5, o5), (env.locals + 6, o6), (env.locals + 7, o7)] = (LS ++ [(89, tabO ps), (env.locals + 1, o1)]) ++ (env.locals + 2, o) :: [(env.locals + 3, o3), (env.locals + 4, o4), (env.locals + 5, o5), (env.locals + 6, o6), (env.locals + 7, o7)] := fun o => by simp
  rw [e] at c
  exact stC c hc r2 (fun h' o' c' hd' => g h' _ ⟨o1, o', o3, o4, o5, o6, o7, by rw [e]; exact c', r1, hd', r3, r4, r5, r6, r7⟩) hk hl
theorem Law.nm2 {env : Env} {x : Str} {pos : Pos} {v : Value} {Q : Value → Shared → Prop} (l : Law h₀ env.locals h m ps c1 (some v) c3 c4 c5 c6 c7 LS) (hc : env.cells.lookup x = some (env.locals + 2)) (g : Q v (St s h tk))
    (hk : env.scope.kind = .function := by rfl) (hx : env.kindOf x = some .cell := by kernel_rfl) (hd : (x == ("__debug__" : Str)) = false := by kernel_rfl) : Wp w A (eval (.Name x pos) env) Q (St s h tk) := nmC hc l.cell2 g hk hx hd

theorem Law.cell3 (l : Law h₀ L h m ps c1 c2 c3 c4 c5 c6 c7 LS) : h.IsCell (L + 3) c3 := by
  obtain ⟨o1, o2, o3, o4, o5, o6, o7, c, r1, r2, r3, r4, r5, r6, r7⟩ := l.ex
  exact ⟨o3, (c.N _ (List.mem_append_right _ (.tail _ (.tail _ (.tail _ (.head _)))))).1, r3⟩
theorem Law.st3 {env : Env} {x : Str} {v : Value} {Q : Unit → Shared → Prop} (l : Law h₀ env.locals h m ps c1 c2 c3 c4 c5 c6 c7 LS) (hc : env.cells.lookup x = some (env.locals + 3)) (g : ∀ h' tk', Law h₀ env.locals h' m ps c1 c2 (some v) c4 c5 c6 c7 LS → Q () (St s h' tk'))
    (hk : env.scope.kind = .function := by rfl) (hl : env.kindOf x = some .cell := by kernel_rfl) : Wp w A (storeName env x v) Q (St s h tk) := by
  obtain ⟨o1, o2, o3, o4, o5, o6, o7, c, r1, r2, r3, r4, r5, r6, r7⟩ := l.ex
  have e : ∀ o, LS ++ [(89, tabO ps), (env.locals + 1, o1), (env.locals + 2, o2), (env.locals + 3, o), (env.locals + 4, o4), (env.locals + 5, o5), (env.locals + 6, o6), (env.locals + 7, o7)] = (LS ++ [(89, tabO ps), (env.locals + 1, o1), (env.locals + 2, o2)]) ++ (env.locals + 3, o) :: [(env.locals + 4, o4), (env.locals + 5, o5), (env.locals + 6, o6), (env.locals + 7, o7)] := fun o => by simp
  rw [e] at c
  exact stC c hc r3 (fun h' o' c' hd' => g h' _ ⟨o1, o2, o', o4, o5, o6, o7, by rw [e]; exact c', r1, r2, hd', r4, r5, r6, r7⟩) hk hl
theorem Law.nm3 {env : Env} {x : Str} {pos : Pos} {v : Value} {Q : Value → Shared → Prop} (l : Law h₀ env.locals h m ps c1 c2 (some v) c4 c5 c6 c7 LS) (hc : env.cells.lookup x = some (env.locals + 3)) (g : Q v (St s h tk))
    (hk : env.scope.kind = .function := by rfl) (hx : env.kindOf x = some .cell := by kernel_rfl) (hd : (x == ("__debug__" : Str)) = false := by kernel_rfl) : Wp w A (eval (.Name x pos) env) Q (St s h tk) := nmC hc l.cell3 g hk hx hd

theorem Law.cell4 (l : Law h₀ L h m ps c1 c2 c3 c4 c5 c6 c7 LS) : h.IsCell (L + 4) c4 := by
  obtain ⟨o1, o2, o3, o4, o5, o6, o7, c, r1, r2, r3, r4, r5, r6, r7⟩ := l.ex
  exact ⟨o4, (c.N _ (List.mem_append_right _ (.tail _ (.tail _ (.tail _ (.tail _ (.head _))))))).1, r4⟩
theorem Law.st4 {env : Env} {x : Str} {v : Value} {Q : Unit → Shared → Prop} (l : Law h₀ env.locals h m ps c1 c2 c3 c4 c5 c6 c7 LS) (hc : env.cells.lookup x = some (env.locals + 4)) (g : ∀ h' tk', Law h₀ env.locals h' m ps c1 c2 c3 (some v) c5 c6 c7 LS → Q () (St s h' tk'))
    (hk : env.scope.kind = .function := by rfl) (hl : env.kindOf x = some .cell := by kernel_rfl) : Wp w A (storeName env x v) Q (St s h tk) := by
  obtain ⟨o1, o2, o3, o4, o5, o6, o7, c, r1, r2, r3, r4, r5, r6, r7⟩ := l.ex
  have e : ∀ o, LS ++ [(89, tabO ps), (env.locals + 1, o1), (env.locals + 2, o2), (env.locals + 3, o3), (env.locals + 4, o), (env.locals + 5, o5), (env.locals + 6, o6), (env.locals + 7, o7)] = (LS ++ [(89, tabO ps), (env.locals + 1, o1), (env.locals + 2, o2), (env.locals + 3, o3)]) ++ (env.locals + 4, o) :: [(env.locals + 5, o5), (env.locals + 6, o6), (env.locals + 7, o7)] := fun o => by simp
  rw [e] at c
  exact stC c hc r4 (fun h' o' c' hd' => g h' _ ⟨o1, o2, o3, o', o5, o6, o7, by rw [e]; exact c', r1, r2, r3, hd', r5, r6, r7⟩) hk hl
theorem Law.nm4 {env : Env} {x : Str} {pos : Pos} {v : Value} {Q : Value → Shared → Prop} (l : Law h₀ env.locals h m ps c1 c2 c3 (some v) c5 c6 c7 LS) (hc : env.cells.lookup x = some (env.locals + 4)) (g : Q v (St s h tk))
    (hk : env.scope.kind = .function := by rfl) (hx : env.kindOf x = some .cell := by kernel_rfl) (hd : (x == ("__debug__" : Str)) = false := by kernel_rfl) : Wp w A (eval (.Name x pos) env) Q (St s h tk) := nmC hc l.cell4 g hk hx hd

theorem Law.cell5 (l : Law h₀ L h m ps c1 c2 c3 c4 c5 c6 c7 LS) : h.IsCell (L + 5) c5 := by
  obtain ⟨o1, o2, o3, o4, o5, o6, o7, c, r1, r2, r3, r4, r5, r6, r7⟩ := l.ex
  exact ⟨o5, (c.N _ (List.mem_append_right _ (.tail _ (.tail _ (.tail _ (.tail _ (.tail _ (.head _)))))))).1, r5⟩
theorem Law.st5 {env : Env} {x : Str} {v : Value} {Q : Unit → Shared → Prop} (l : Law h₀ env.locals h m ps c1 c2 c3 c4 c5 c6 c7 LS) (hc : env.cells.lookup x = some (env.locals + 5)) (g : ∀ h' tk', Law h₀ env.locals h' m ps c1 c2 c3 c4 (some v) c6 c7 LS → Q () (St s h' tk'))
    (hk : env.scope.kind = .function := by rfl) (hl : env.kindOf x = some .cell := by kernel_rfl) : Wp w A (storeName env x v) Q (St s h tk) := by
  obtain ⟨o1, o2, o3, o4, o5, o6, o7, c, r1, r2, r3, r4, r5, r6, r7⟩ := l.ex
  have e : ∀ o, LS ++ [(89, tabO ps), (env.locals + 1, o1), (env.locals + 2, o2), (env.locals + 3, o3), (env.locals + 4, o4), (env.locals + 5, o), (env.locals + 6, o6), (env.locals + 7, o7)] = (LS ++ [(89, tabO ps), (env.locals + 1, o1), (env.locals + 2, o2), (env.locals + 3, o3), (env.locals + 4, o4)]) ++ (env.locals + 5, o) :: [(env.locals + 6, o6), (env.locals + 7, o7)] := fun o => by simp
  rw [e] at c
  exact stC c hc r5 (fun h' o' c' hd' => g h' _ ⟨o1, o2, o3, o4, o', o6, o7, by rw [e]; exact c', r1, r2, r3, r4, hd', r6, r7⟩) hk hl
theorem Law.nm5 {env : Env} {x : Str} {pos : Pos} {v : Value} {Q : Value → Shared → Prop} (l : Law h₀ env.locals h m ps c1 c2 c3 c4 (some v) c6 c7 LS) (hc : env.cells.lookup x = some (env.locals + 5)) (g : Q v (St s h tk))
    (hk : env.scope.kind = .function := by rfl) (hx : env.kindOf x = some .cell := by kernel_rfl) (hd : (x == ("__debug__" : Str)) = false := by kernel_rfl) : Wp w A (eval (.Name x pos) env) Q (St s h tk) := nmC hc l.cell5 g hk hx hd

theorem Law.cell6 (l : Law h₀ L h m ps c1 c2 c3 c4 c5 c6 c7 LS) : h.IsCell (L + 6) c6 := by
  obtain ⟨o1, o2, o3, o4, o5, o6, o7, c, r1, r2, r3, r4, r5, r6, r7⟩ := l.ex
  exact ⟨o6, (c.N _ (List.mem_append_right _ (.tail _ (.tail _ (.tail _ (.tail _ (.tail _ (.tail _ (.head _))))))))).1, r6⟩
theorem Law.st6 {env : Env} {x : Str} {v : Value} {Q : Unit → Shared → Prop} (l : Law h₀ env.locals h m ps c1 c2 c3 c4 c5 c6 c7 LS) (hc : env.cells.lookup x = some (env.locals + 6)) (g : ∀ h' tk', Law h₀ env.locals h' m ps c1 c2 c3 c4 c5 (some v) c7 LS → Q () (St s h' tk'))
    (hk : env.scope.kind = .function := by rfl) (hl : env.kindOf x = some .cell := by kernel_rfl) : Wp w A (storeName env x v) Q (St s h tk) := by
  obtain ⟨o1, o2, o3, o4, o5, o6, o7, c, r1, r2, r3, r4, r5, r6, r7⟩ := l.ex
  have e : ∀ o, LS ++ [(89, tabO ps), (env.locals + 1, o1), (env.locals + 2, o2), (env.locals + 3, o3), (env.locals + 4, o4), (env.locals + 5, o5), (env.locals + 6, o), (env.locals + 7, o7)] = (LS ++ [(89, tabO ps), (env.locals + 1, o1), (env.locals + 2, o2), (env.locals + 3, o3), (env.locals + 4, o4), (env.locals + 5, o5)]) ++ (env.locals + 6, o) :: [(env.locals + 7, o7)] := fun o => by simp
  rw [e] at c
  exact stC c hc r6 (fun h' o' c' hd' => g h' _ ⟨o1, o2, o3, o4, o5, o', o7, by rw [e]; exact c', r1, r2, r3, r4, r5, hd', r7⟩) hk hl
theorem Law.nm6 {env : Env} {x : Str} {pos : Pos} {v : Value} {Q : Value → Shared → Prop} (l : Law h₀ env.locals h m ps c1 c2 c3 c4 c5 (some v) c7 LS) (hc : env.cells.lookup x = some (env.locals + 6)) (g : Q v (St s h tk))
    (hk : env.scope.kind = .function := by rfl) (hx : env.kindOf x = some .cell := by kernel_rfl) (hd : (x == ("__debug__" : Str)) = false := by kernel_rfl) : Wp w A (eval (.Name x pos) env) Q (St s h tk) := nmC hc l.cell6 g hk hx hd

theorem Law.cell7 (l : Law h₀ L h m ps c1 c2 c3 c4 c5 c6 c7 LS) : h.IsCell (L + 7) c7 := by
  obtain ⟨o1, o2, o3, o4, o5, o6, o7, c, r1, r2, r3, r4, r5, r6, r7⟩ := l.ex
  exact ⟨o7, (c.N _ (List.mem_append_right _ (.tail _ (.tail _ (.tail _ (.tail _ (.tail _ (.tail _ (.tail _ (.head _)))))))))).1, r7⟩
theorem Law.st7 {env : Env} {x : Str} {v : Value} {Q : Unit → Shared → Prop} (l : Law h₀ env.locals h m ps c1 c2 c3 c4 c5 c6 c7 LS) (hc : env.cells.lookup x = some (env.locals + 7)) (g : ∀ h' tk', Law h₀ env.locals h' m ps c1 c2 c3 c4 c5 c6 (some v) LS → Q () (St s h' tk'))
    (hk : env.scope.kind = .function := by rfl) (hl : env.kindOf x = some .cell := by kernel_rfl) : Wp w A (storeName env x v) Q (St s h tk) := by
  obtain ⟨o1, o2, o3, o4, o5, o6, o7, c, r1, r2, r3, r4, r5, r6, r7⟩ := l.ex
  have e : ∀ o, LS ++ [(89, tabO ps), (env.locals + 1, o1), (env.locals + 2, o2), (env.locals + 3, o3), (env.locals + 4, o4), (env.locals + 5, o5), (env.locals + 6, o6), (env.locals + 7, o)] = (LS ++ [(89, tabO ps), (env.locals + 1, o1), (env.locals + 2, o2), (env.locals + 3, o3), (env.locals + 4, o4), (env.locals + 5, o5), (env.locals + 6, o6)]) ++ (env.locals + 7, o) :: [] := fun o => by simp
  rw [e] at c
  exact stC c hc r7 (fun h' o' c' hd' => g h' _ ⟨o1, o2, o3, o4, o5, o6, o', by rw [e]; exact c', r1, r2, r3, r4, r5, r6, hd'⟩) hk hl
theorem Law.nm7 {env : Env} {x : Str} {pos : Pos} {v : Value} {Q : Value → Shared → Prop} (l : Law h₀ env.locals h m ps c1 c2 c3 c4 c5 c6 (some v) LS) (hc : env.cells.lookup x = some (env.locals + 7)) (g : Q v (St s h tk))
    (hk : env.scope.kind = .function := by rfl) (hx : env.kindOf x = some .cell := by kernel_rfl) (hd : (x == ("__debug__" : Str)) = false := by kernel_rfl) : Wp w A (eval (.Name x pos) env) Q (St s h tk) := nmC hc l.cell7 g hk hx hd

end

/-! ## Pl2 -/
def bitsL (q : Int) : List Int := (rng 1 6).filter fun u => Builtin.bitAnd (shrI q (u - 1)) 1 != 0
def shortL (ns : List Int) : List Int := ns.map (· - 1)
def wideL (ns : List Int) : List Int := pickNums ns none none (some (-1))
def toldL (ns : List Int) : List (Int × Int × Int) := wits (wsRun (leadS (shortL ns))) (wsRun (leadS (wideL ns)))
def sizesL (ns : List Int) : List Int := (rng 1 6).filter fun size => decide (0 < multL ns size)
def rowL (ns : List Int) (size : Int) : Int × Int × Int := (size, colL (shortL ns) size, colL (wideL ns) size)
def oddT (p : Int × Int × Int) : Bool := Int.fmod (Int.fdiv (p.2.2 - p.2.1) p.1) 2 == 1
def oddL (ns : List Int) : List Int := ((toldL ns).filter oddT).map (·.1)
def nextL (ns : List Int) : List Int := (sizesL ns).filter fun size => Int.fmod (multL ns size) 2 == 1
def nextQ (q : Nat) : Nat := ((oddL (bitsL q)).map fun s => 2 ^ (s - 1).toNat).sum
def rawOk (r : Str) : Bool := r.cps.toList.all (fun c => c == 32 || c == 9) && decide (r.cps.size ≤ 50)
def wsOk (a : WsD) : Bool := decide (a.1.length ≤ 60) && decide (0 ≤ a.2.1) && decide (a.2.1 ≤ 60)
def nextN (q : Nat) : Nat := ((nextL (bitsL q)).map fun s => 2 ^ (s - 1).toNat).sum
def factsOk (q : Nat) : Bool :=
  let ns := bitsL q
  let rows := (sizesL ns).map (rowL ns)
  toldL ns == rows && (rows.filter oddT).map (·.1) == nextL ns && bitsL (nextN q) == nextL ns && decide (nextN q < 64) &&
    ns.all (fun u => decide (1 ≤ u) && decide (u ≤ 6)) && decide (ns.length ≤ 6) && rawOk (leadS (shortL ns)) && rawOk (leadS (wideL ns)) && wsOk (wsRun (leadS (shortL ns))) && wsOk (wsRun (leadS (wideL ns))) &&
    (wideL ns).all (fun u => decide (0 ≤ u) && decide (u ≤ 6)) && decide ((wideL ns).length ≤ 6) && rows.all (fun p => decide (1 ≤ p.1) && decide (p.1 ≤ 6)) && decide (rows.length ≤ 6)
theorem facts_all : ∀ q : Nat, q < 64 → factsOk q = true := by decide +kernel
theorem next_fourN : ∀ q : Nat, q < 64 → nextN (nextN (nextN (nextN q))) = q := by decide +kernel

/-! ## Pl3 -/
abbrev textQ (q b : Nat) : Str := Txt.join ", " (flagNames (q * 2 ^ b))
theorem bn_mem : ∀ {n i r : Nat} {x : Str}, i + n ≤ 32 → x ∈ bn n i r → ∃ j, j < 32 ∧ x = nameOf j
  | 0, _, _, _, _, h => by simp [bn] at h
  | n + 1, i, r, x, hi, h => by
    unfold bn at h
    split at h
    · rcases List.mem_cons.mp h with rfl | h
      · exact ⟨i, by omega, rfl⟩
      · exact bn_mem (by omega) h
    · exact bn_mem (by omega) h
theorem name_free : ∀ i : Nat, i < 32 → ((nameOf i).cps.toList.all (fun c => c != 44) && !(nameOf i == ("0x0" : Str)) && decide ((nameOf i).length ≤ 18)) = true := by decide +kernel
theorem zero_free : (("0x0" : Str).cps.toList.all (fun c => c != 44)) = true := by decide +kernel
theorem flag_free {N : Nat} {x : Str} (h : x ∈ flagNames N) : 44 ∉ x.cps.toList := by
  have key : x.cps.toList.all (fun c => c != 44) = true := by
    unfold flagNames at h
    split at h
    · rw [List.mem_singleton.mp h]; exact zero_free
    · obtain ⟨j, hj, rfl⟩ := bn_mem (by omega) h
      have := name_free j hj
      simp only [Bool.and_eq_true] at this
      exact this.1.1
  intro hm
  have := List.all_eq_true.mp key _ hm
  simp at this
theorem flag_ne (N : Nat) (h : N < 2 ^ 32) : flagNames N ≠ [] := by
  unfold flagNames
  split
  · simp
  · rename_i h0
    have : ∀ (n i r : Nat), r ≠ 0 → r < 2 ^ n → bn n i r ≠ [] := by
      intro n
      induction n with
      | zero => intro i r h1 h2; simp at h2; omega
      | succ n ih =>
        intro i r h1 h2
        unfold bn
        split
        · simp
        · exact ih _ _ (by omega) (by rw [Nat.pow_succ] at h2; omega)
    exact this 32 0 N h0 h

/-! a text joined is split again -/
section
open PySem.StrLaws
def joinL : List (List Nat) → List Nat
  | [] => []
  | [w] => w
  | w :: v :: r => w ++ 44 :: 32 :: joinL (v :: r)
theorem join_toList : ∀ ws : List Str, (Str.join ", " ws).cps.toList = joinL (ws.map fun w => w.cps.toList)
  | [] => by decide +kernel
  | [w] => rfl
  | w :: v :: r => by
    show (w ++ ", " ++ Str.join ", " (v :: r)).cps.toList = _
    have ih := join_toList (v :: r)
    simp only [Str.cps_append, Array.toList_append, ih]
    have e : (Str.ofString ", ").cps.toList = [44, 32] := by decide +kernel
    rw [e]
    simp [joinL]
theorem sep_len : (Str.ofString ", ").length = 2 := by decide +kernel
theorem sep_list : (Str.ofString ", ").cps.toList = [44, 32] := by decide +kernel
theorem at_sep {x : Str} {k : Nat} (h : At x ", " x.length k) : x.cps.toList[k]? = some 44 := by
  have := h.2
  rw [subAt_eq, sep_len, sep_list] at this
  have e := eq_of_beq this
  cases q : x.cps.toList.drop k with
  | nil => rw [q] at e; cases e
  | cons c t =>
    rw [q] at e
    have h0 : (x.cps.toList.drop k)[0]? = some c := by rw [q]; rfl
    rw [List.getElem?_drop] at h0
    simp only [List.take_succ_cons, List.cons.injEq] at e
    rw [e.1] at h0
    simpa using h0
theorem at_of {x : Str} {k : Nat} {J : List Nat} (h : x.cps.toList.drop k = 44 :: 32 :: J) : At x ", " x.length k := by
  have hl := congrArg List.length h
  simp only [List.length_drop, List.length_cons] at hl
  refine ⟨?_, ?_⟩
  · rw [sep_len]
    have : x.cps.toList.length = x.length := by simp [Str.length]
    omega
  · rw [subAt_eq, sep_len, sep_list, h]; rfl
theorem parts_key (x : Str) : ∀ (ws : List Str) (a f : Nat) (cuts : List Nat), ws ≠ [] → (∀ w ∈ ws, 44 ∉ w.cps.toList) → x.cps.toList.drop a = joinL (ws.map fun w => w.cps.toList) → ChainG x ", " x.length a cuts f → (∀ k, f ≤ k → ¬ At x ", " x.length k) → partsFrom x 2 a cuts = ws
  | [], _, _, _, h, _, _, _, _ => absurd rfl h
  | [w], a, f, cuts, _, hw, hd, hc, hf => by
    have hd' : x.cps.toList.drop a = w.cps.toList := hd
    have no : ∀ k, a ≤ k → ¬ At x ", " x.length k := fun k hk hA => by
      have := at_sep hA
      rw [show k = a + (k - a) by omega, ← List.getElem?_drop, hd'] at this
      exact hw w (.head _) (List.mem_of_getElem? this)
    cases cuts with
    | cons c t => exact absurd hc.2.1 (no c hc.1)
    | nil =>
      show [Builtin.Str.strSub x a x.length] = [w]
      congr 1
      apply Str.ext'
      apply Array.toList_inj.mp
      rw [strSub_toList, hd', ← hd', List.take_of_length_le (by simp [Str.length])]
  | w :: v :: r, a, f, cuts, _, hw, hd, hc, hf => by
    have hd' : x.cps.toList.drop a = w.cps.toList ++ 44 :: 32 :: joinL ((v :: r).map fun w => w.cps.toList) := hd
    have hdi : x.cps.toList.drop (a + w.cps.toList.length) = 44 :: 32 :: joinL ((v :: r).map fun w => w.cps.toList) := by
      rw [← List.drop_drop, hd', List.drop_left]
    have hAt := at_of hdi
    have no : ∀ k, a ≤ k → k < a + w.cps.toList.length → ¬ At x ", " x.length k := fun k hk hk2 hA => by
      have := at_sep hA
      rw [show k = a + (k - a) by omega, ← List.getElem?_drop, hd', List.getElem?_append_left (by omega)] at this
      exact hw w (.head _) (List.mem_of_getElem? this)
    cases cuts with
    | nil =>
      have e : f = a := hc
      exact absurd hAt (hf _ (by omega))
    | cons c t =>
      obtain ⟨h1, h2, h3, h4⟩ := hc
      have hce : c = a + w.cps.toList.length := by
        rcases Nat.lt_trichotomy c (a + w.cps.toList.length) with q | q | q
        · exact absurd h2 (no c h1 q)
        · exact q
        · exact absurd hAt (h3 _ (by omega) q)
      subst hce
      rw [sep_len] at h4
      show Builtin.Str.strSub x a (a + w.cps.toList.length) :: partsFrom x 2 (a + w.cps.toList.length + 2) t = w :: v :: r
      rw [parts_key x (v :: r) (a + w.cps.toList.length + 2) f t (by simp) (fun u hu => hw u (.tail _ hu)) (by rw [← List.drop_drop, hdi]; rfl) h4 hf]
      congr 1
      apply Str.ext'
      apply Array.toList_inj.mp
      rw [strSub_toList, hd', show a + w.cps.toList.length - a = w.cps.toList.length by omega, List.take_left]
theorem split_join {ws : List Str} (hne : ws ≠ []) (hw : ∀ w ∈ ws, 44 ∉ w.cps.toList) : Txt.split (Txt.join ", " ws) ", " = ws := by
  rw [tjoin]
  generalize hx : Str.join ", " ws = x
  obtain ⟨f, hc, hf⟩ := occ_tight x ", " (by rw [sep_len]; omega)
  have hk := parts_key x ws 0 f _ hne hw (by rw [List.drop_zero, ← hx]; exact join_toList ws) hc hf
  have one : ∀ {cuts : List Nat}, partsFrom x 2 0 cuts = ws → cuts = [] → [x] = ws := by
    rintro cuts h rfl
    rw [← h]
    show [x] = [Builtin.Str.strSub x 0 x.length]
    rw [sub_whole]
  unfold Txt.split
  split
  · rename_i hcond
    refine one hk ?_
    cases q : Builtin.Str.occurrences x ", " 0 x.length (x.length + 1) with
    | nil => rfl
    | cons c t =>
      rw [q] at hc
      have h2 := hc.2.1.1
      rw [sep_len] at h2
      rw [sep_len] at hcond
      have hs : (Builtin.Str.strKind ", ") = 1 := by decide +kernel
      have hs2 : ¬ Builtin.Str.strKind x < 1 := by
        unfold Builtin.Str.strKind
        split
        · omega
        · split <;> omega
      rw [hs] at hcond
      simp only [Bool.or_eq_true, decide_eq_true_eq] at hcond
      omega
  · split
    · rename_i hemp
      exact one hk (by simpa using hemp)
    · rw [partsBetween_eq, sep_len]; exact hk
end
theorem flags_lt {q b : Nat} (hq : q < 64) (hb : b < 27) : q * 2 ^ b < 2 ^ 32 := by
  have h1 : 2 ^ b ≤ 2 ^ 26 := Nat.pow_le_pow_right (by omega) (by omega)
  calc q * 2 ^ b ≤ 63 * 2 ^ 26 := Nat.mul_le_mul (by omega) h1
    _ < 2 ^ 32 := by omega
theorem split_text {q b : Nat} (hq : q < 64) (hb : b < 27) : Txt.split (textQ q b) ", " = flagNames (q * 2 ^ b) := split_join (flag_ne _ (flags_lt hq hb)) fun _ h => flag_free h
theorem text_len {q b : Nat} (hq : q < 64) (hb : b < 27) : (textQ q b).length ≤ 1000 := by
  have hb1 : (flagNames (q * 2 ^ b)).length ≤ 32 ∧ ∀ x ∈ flagNames (q * 2 ^ b), x.length ≤ 18 := by
    have hlen : ∀ (n i r : Nat), (bn n i r).length ≤ n := by
      intro n
      induction n with
      | zero => intro i r; simp [bn]
      | succ n ih =>
        intro i r
        have := ih (i + 1) (r / 2)
        unfold bn
        split
        · simp only [List.length_cons]; omega
        · omega
    unfold flagNames
    split
    · refine ⟨by simp, fun x hx => ?_⟩
      rw [List.mem_singleton.mp hx]; decide +kernel
    · refine ⟨hlen 32 0 _, fun x hx => ?_⟩
      obtain ⟨j, hj, rfl⟩ := bn_mem (by omega) hx
      have := name_free j hj
      simp only [Bool.and_eq_true, decide_eq_true_eq] at this
      exact this.2
  have h1 := sum_le hb1.2
  have h2 := StrLaws.join_length_le ", " (flagNames (q * 2 ^ b))
  rw [sep_len, ← tjoin] at h2
  show (Txt.join ", " (flagNames (q * 2 ^ b))).length ≤ 1000
  omega
def bi : Nat → Nat → List Nat
  | 0, _ => []
  | n + 1, r => if r % 2 = 1 then 0 :: (bi n (r / 2)).map (· + 1) else (bi n (r / 2)).map (· + 1)
theorem bi_zero : ∀ n, bi n 0 = []
  | 0 => rfl
  | n + 1 => by unfold bi; simp [bi_zero n]
theorem bi_ext : ∀ (m n r : Nat), r < 2 ^ m → bi (m + n) r = bi m r
  | 0, n, r, h => by
    have : r = 0 := by simpa using h
    subst this
    rw [bi_zero, bi_zero]
  | m + 1, n, r, h => by
    rw [show m + 1 + n = (m + n) + 1 by omega]
    unfold bi
    rw [bi_ext m n (r / 2) (by rw [Nat.pow_succ] at h; omega)]
theorem bn_bi : ∀ (n i r : Nat), bn n i r = (bi n r).map fun j => nameOf (i + j)
  | 0, _, _ => rfl
  | n + 1, i, r => by
    unfold bn bi
    have ih := bn_bi n (i + 1) (r / 2)
    have e : (bi n (r / 2)).map (fun j => nameOf (i + 1 + j)) = ((bi n (r / 2)).map (· + 1)).map fun j => nameOf (i + j) := by
      rw [List.map_map]
      refine List.map_congr_left fun j _ => ?_
      show nameOf (i + 1 + j) = nameOf (i + (j + 1))
      rw [show i + 1 + j = i + (j + 1) by omega]
    split
    · rw [ih, e]; rfl
    · rw [ih, e]
theorem bn_shift : ∀ (b n i q : Nat), bn (n + b) i (q * 2 ^ b) = bn n (i + b) q
  | 0, n, i, q => by simp
  | b + 1, n, i, q => by
    rw [show n + (b + 1) = (n + b) + 1 by omega, show bn ((n + b) + 1) i (q * 2 ^ (b + 1)) = if q * 2 ^ (b + 1) % 2 = 1 then nameOf i :: bn (n + b) (i + 1) (q * 2 ^ (b + 1) / 2) else bn (n + b) (i + 1) (q * 2 ^ (b + 1) / 2) from rfl]
    have e : q * 2 ^ (b + 1) = 2 * (q * 2 ^ b) := by rw [Nat.pow_succ, ← Nat.mul_assoc, Nat.mul_comm]
    rw [if_neg (by rw [e]; omega), show q * 2 ^ (b + 1) / 2 = q * 2 ^ b by rw [e]; omega, bn_shift b n (i + 1) q, show i + 1 + b = i + (b + 1) by omega]
theorem bits_bi : ∀ q : Nat, q < 64 → ((bitsL (q : Int) == (bi 6 q).map (fun j : Nat => (j : Int) + 1)) && (bi 6 q).all (fun j => decide (j < 6)) && ((rng 1 6).filter (fun u => (bi 6 q).any (· == (u - 1).toNat)) == bitsL (q : Int)) && (!(bitsL (q : Int)).isEmpty || q == 0)) = true := by decide +kernel
theorem name_inj : ∀ i : Nat, i < 32 → ∀ j : Nat, j < 32 → ((nameOf i == nameOf j) == decide (i = j)) = true := by decide +kernel
theorem flags_bi {q b : Nat} (hq : q < 64) (hb : b < 27) (h0 : q ≠ 0) : flagNames (q * 2 ^ b) = (bi 6 q).map fun j => nameOf (b + j) := by
  unfold flagNames
  have hp : q * 2 ^ b ≠ 0 := Nat.mul_ne_zero h0 (Nat.pos_iff_ne_zero.mp (Nat.pow_pos (n := b) (show 0 < 2 by decide)))
  rw [if_neg hp]
  have e := bn_shift b (32 - b) 0 q
  rw [show 32 - b + b = 32 by omega, Nat.zero_add] at e
  rw [e, bn_bi, show 32 - b = 6 + (26 - b) by omega, bi_ext 6 (26 - b) q (by omega)]
theorem names_zero {q b : Nat} (hq : q < 64) (h0 : bitsL (q : Int) = []) : flagNames (q * 2 ^ b) = [("0x0" : Str)] := by
  have h := bits_bi q hq
  simp only [Bool.and_eq_true] at h
  have h4 := h.2
  rw [h0] at h4
  have : q = 0 := by simpa using h4
  subst this
  unfold flagNames
  rw [if_pos (by simp)]
theorem names_bits {q b : Nat} (hq : q < 64) (hb : b < 27) (h0 : bitsL (q : Int) ≠ []) : flagNames (q * 2 ^ b) = (bitsL (q : Int)).map fun u => nameI ((b : Int) + (u - 1)) := by
  have h := bits_bi q hq
  simp only [Bool.and_eq_true] at h
  have e := eq_of_beq h.1.1.1
  have hq0 : q ≠ 0 := by
    rintro rfl
    exact h0 (by decide +kernel)
  rw [flags_bi hq hb hq0, e, List.map_map]
  refine List.map_congr_left fun j _ => ?_
  show nameI ((b + j : Nat) : Int) = nameI ((b : Int) + ((j : Int) + 1 - 1))
  congr 1
  omega
theorem read_bits {q b : Nat} (hq : q < 64) (hb : b < 27) : (rng 1 6).filter (fun u => (flagNames (q * 2 ^ b)).any (· == nameI ((b : Int) + (u - 1)))) = bitsL (q : Int) := by
  have h := bits_bi q hq
  simp only [Bool.and_eq_true] at h
  rw [← eq_of_beq h.1.2]
  refine List.filter_congr fun u hu => ?_
  have hub := mem_rng hu
  have en : nameI ((b : Int) + (u - 1)) = nameOf (b + (u - 1).toNat) := by
    unfold nameOf
    congr 1
    omega
  rw [en]
  by_cases hq0 : q = 0
  · subst hq0
    have e0 : flagNames (0 * 2 ^ b) = [("0x0" : Str)] := by unfold flagNames; rw [if_pos (by simp)]
    have hn := name_free (b + (u - 1).toNat) (by omega)
    simp only [Bool.and_eq_true, Bool.not_eq_true', beq_eq_false_iff_ne] at hn
    rw [e0, bi_zero]
    simp only [List.any_cons, List.any_nil, Bool.or_false, beq_eq_false_iff_ne]
    exact fun e => hn.1.2 e.symm
  · rw [flags_bi hq hb hq0, List.any_map]
    have hlt : ∀ j ∈ bi 6 q, j < 6 := fun j hj => by
      have := List.all_eq_true.mp h.1.1.2 j hj
      simpa using this
    have gen : ∀ (l : List Nat), (∀ j ∈ l, j < 6) → (l.any ((· == nameOf (b + (u - 1).toNat)) ∘ fun j => nameOf (b + j))) = l.any (· == (u - 1).toNat) := by
      intro l
      induction l with
      | nil => intro _; rfl
      | cons j t ih =>
        intro hl
        simp only [List.any_cons]
        rw [ih fun x hx => hl x (.tail _ hx)]
        congr 1
        have hj := hl j (.head _)
        have := eq_of_beq (name_inj (b + j) (by omega) (b + (u - 1).toNat) (by omega))
        show (nameOf (b + j) == nameOf (b + (u - 1).toNat)) = _
        rw [this]
        by_cases e : j = (u - 1).toNat
        · subst e; simp
        · rw [decide_eq_false (by omega), beq_eq_false_iff_ne.mpr e]
    exact gen _ hlt

/-! ## LX -/
theorem enterCW {w : World} {A : Around} {s : Shared} {hp h₀ : Heap} {tk : Nat} {k : Nat} {R : Result → Shared → Prop} {name qual : Str} {params : Arguments} {body : List Stmt} {scope : Scope} {dV kV doc pm cdv ct oc : Value} {an od : Option Addr} {osl : Array (Option Value)} {f : Addr} {args : Args} (binds : List (Str × Value)) (news : List (Addr × Obj))
    (u₀ : Up h₀ hp) (sz : h₀.objs.size ≤ hp.objs.size) (N : ∀ p ∈ news, hp.get? p.1 = some p.2 ∧ h₀.get? p.1 = none) (D : (news.map (·.1)).Nodup)
    (G : Gd w hp) (hA : Ao A (k + 1))
    (ho : (hd.heap_39 w.params).lookup f = some ⟨oc, od, .func (fnOf name qual params body scope dV kV doc pm an cdv ct), osl⟩) (hcd : codeIn (hd.heap_39 w.params) cdv qual = true)
    (hbind : BindsTo (St s hp tk) (fnOf name qual params body scope dV kV doc pm an cdv ct) args binds)
    (hkind : (binds.all fun y => scope.names.lookup y.1 == some .local || scope.names.lookup y.1 == some .cell) = true)
    (h : ∀ L h₁ tk₁ cells, Cx h₀ L h₁ (bindL (envOfC qual scope L f cdv).kindOf binds fun _ => none) (cells ++ news) → CellsAre (bindC (envOfC qual scope L f cdv).kindOf binds fun _ => none) (cellsFrom (L + 1) scope.names []) cells → Ao (A.deeper (envOfC qual scope L f cdv)) k →
      Wp w (A.deeper (envOfC qual scope L f cdv)) (execs body (envOfC qual scope L f cdv))
        (fun fl s' => R (.ok (.ret (match fl with | .ret v => v | _ => .none))) s') (St s h₁ tk₁))
    (hnd : ((cellsFrom 0 scope.names []).map (·.1)).Nodup) (hco : scope.isCoroutine = false := by rfl) (hgen : scope.isGenerator = false := by rfl) (hk : scope.kind = .function := by rfl) :
    Co w A (.call (.ref f) args) R (St s hp tk) := by
  obtain ⟨_, _, _, _, _, _, T, _, _⟩ := G.t
  refine ⟨codeAny_call_function (fd := fnOf name qual params body scope dV kV doc pm an cdv ct) (body := body) hA.room (G.k _ _ ho) rfl hco hgen rfl (codeRec_of G.k hcd) (hbind _ _ _ _ ?_)⟩
  refine wpAny_newFunctionEnv_cells hk (kindsX hkind _) fun env' he s' x => ?_
  subst he
  refine ⟨T.nolimit.keeps x.toInCall.keep, codeAny_func ?_⟩
  obtain ⟨h₁, tk₁, rfl, _⟩ := x.done
  have hk₁ := x.toInCall.keep
  obtain ⟨cells, NC, Y⟩ := Cl.news (h₀ := hp) (Nat.le_refl _) fun n c hm => ⟨x.cell n c (lookup_of_mem_nodup (cellsFrom_names scope.names 0 (hp.objs.size + 1) [] [] rfl ▸ hnd) hm), x.above n c hm⟩
  have none₀ : ∀ b, hp.get? b = none → h₀.get? b = none := fun b e => by
    cases q : h₀.get? b with
    | none => rfl
    | some o => rw [u₀ _ _ q] at e; cases e
  refine (h hp.objs.size h₁ tk₁ cells ⟨⟨x.toInCall.ns, fun b o e => hk₁ b o (u₀ b o e), sz⟩, fun p hp' => ?_, ?_⟩ Y (hA.deeper _)).any
  · rcases List.mem_append.mp hp' with q | q
    · exact ⟨(NC p q).1, (NC p q).2.1, none₀ _ (NC p q).2.2⟩
    · exact ⟨hk₁ _ _ (N p q).1, fun e => absurd (Heap.lt_size (N p q).1) (e ▸ Nat.lt_irrefl _), (N p q).2⟩
  · rw [List.map_append]
    refine List.nodup_append.mpr ⟨cells_nodup Y x.apart, D, fun a ha b hb e => ?_⟩
    obtain ⟨p, hp1, rfl⟩ := List.mem_map.mp ha
    obtain ⟨q, hq1, rfl⟩ := List.mem_map.mp hb
    have h1 := (NC p hp1).2.2
    have h2 := (N q hq1).1
    rw [e, h2] at h1; cases h1

theorem CellsAre.seven {cm : Str → Option Value} {n1 n2 n3 n4 n5 n6 n7 : Str} {a1 a2 a3 a4 a5 a6 a7 : Addr} {cells : List (Addr × Obj)} (x : CellsAre cm [(n1, a1), (n2, a2), (n3, a3), (n4, a4), (n5, a5), (n6, a6), (n7, a7)] cells) :
    ∃ o1 o2 o3 o4 o5 o6 o7, cells = [(a1, o1), (a2, o2), (a3, o3), (a4, o4), (a5, o5), (a6, o6), (a7, o7)] ∧ o1.data = .cell (cm n1) ∧ o2.data = .cell (cm n2) ∧ o3.data = .cell (cm n3) ∧ o4.data = .cell (cm n4) ∧ o5.data = .cell (cm n5) ∧ o6.data = .cell (cm n6) ∧ o7.data = .cell (cm n7) := by
  cases x with | cons h1 x =>
  cases x with | cons h2 x =>
  cases x with | cons h3 x =>
  cases x with | cons h4 x =>
  cases x with | cons h5 x =>
  cases x with | cons h6 x =>
  cases x with | cons h7 x =>
  cases x
  exact ⟨_, _, _, _, _, _, _, rfl, h1, h2, h3, h4, h5, h6, h7⟩

def TriOk (ps : Array Value) : Prop := TriplesOk ps.toList
theorem TabOk.tri {h : Heap} {ps : Array Value} (t : TabOk h ps) : TriOk ps := by
  obtain ⟨⟨o, vs, file, tf, flags, tg, inF, text, tt, op, a, r1, r2, r3, r4, r5, r6, b, r, z, _⟩, _⟩ := t
  exact z
theorem TabOk.re {h h' : Heap} {ps₀ ps : Array Value} (t : TabOk h ps₀) (k93 : ∀ o, h.get? 93 = some o → h'.get? 93 = some o) (h89 : h'.get? 89 = some (tabO ps)) (z : TriOk ps) : TabOk h' ps := by
  obtain ⟨⟨o, vs, file, tf, flags, tg, inF, text, tt, op, a, r1, r2, r3, r4, r5, r6, b, r, z0, ne⟩, ⟨o2, vs2, e, r'⟩, t'⟩ := t
  exact ⟨⟨o, vs, file, tf, flags, tg, inF, text, tt, _, k93 _ a, r1, r2, r3, r4, r5, r6, h89, rfl, z, ne⟩, ⟨⟨o2, vs2, k93 _ e, r'⟩, h89⟩⟩

section
variable {w : World} {A : Around} {s : Shared} {h : Heap} {tk : Nat} {env : Env}
/-- a for over a list that is new -/
theorem iter_listN {h₀ : Heap} {l : Addr} {vs : List Value} {n : Nat} {m : Str → Option Value} {news : List (Addr × Obj)} {target : Expr} {body orelse : List Stmt} {Q : Flow → Shared → Prop} (Ok : Shared → Prop)
    (J : Nat → (Str → Option Value) → List (Addr × Obj) → Prop) (hh : A.handled = none) (ok : Ok s) (c : Cx h₀ env.locals h m ((l, listOf vs.toArray n) :: news)) (h0 : J 0 m news)
    (step : ∀ i v s m₁ nx h₁ tk₁ own, Ok s → vs[i]? = some v → J i m₁ nx → Cx h₀ env.locals h₁ m₁ (nx ++ own) →
      Wp w A (assign target env v) (fun _ s₂ => Wp w A (execs body env) (TurnE h₀ env.locals Ok (J (i + 1)) own (fun s₃ => Q .next s₃) (fun v s₃ => Q (.ret v) s₃)) s₂) (St s h₁ tk₁))
    (done : ∀ s h' tk' m' nx, Ok s → J vs.length m' nx → Cx h₀ env.locals h' m' nx → Wp w A (execs orelse env) Q (St s h' tk'))
    (ht : ∀ I v, letOwnedTupleGo target (.ref I) v = pure () := by intro _ _; rfl) :
    Wp w A (pyIter (.ref l)) (fun it s₂ => Co w A (.forLoop target it body orelse env) (fun r s' => match r with | .ok f => Q f s' | .error _ => False) s₂) (St s h tk) := by
  have hN := c.N _ (.head _)
  have hl : h.IsList l vs.toArray := ⟨_, hN.1, rfl, n, rfl⟩
  have hlh := hN.1
  refine ⟨wpAny_pyIter_list (s := St s h tk) hl ?_⟩
  have hne : l ≠ h.objs.size := Nat.ne_of_lt (Heap.lt_size hlh)
  have W := Walks.list (prog := PR) (w := w) hh h.objs.size l hne vs.toArray
  have nd := List.nodup_cons.mp c.D
  refine for_walk (s := s) Ok J W (by simp [Ne.symm hne]) (fun i h st b hb => by
    obtain ⟨⟨o1, e1, _⟩, ⟨o2, e2, _⟩⟩ := st
    rcases List.mem_cons.mp hb with rfl | hb
    · exact ⟨o1, e1⟩
    · rw [List.mem_singleton.mp hb]; exact ⟨o2, e2⟩) (fun hm => ?_) (fun b hb => ?_) (fun p hp hm => ?_) ⟨⟨_, Heap.get?_push_size _ rfl, rfl, rfl⟩, ⟨_, Heap.get?_push_of_some _ hlh, rfl, n, rfl⟩⟩ ok (c.tail.up fun b o e => Heap.get?_push_of_some _ e) h0
    (fun i v s' m₁ nx h₁ tk₁ own e _ hP => step i v s' m₁ nx h₁ tk₁ own e (by simpa using hP)) (fun s' h' tk' m' nx e hJ => done s' h' tk' m' nx e (by simpa using hJ)) (ht _)
  · rcases List.mem_cons.mp hm with e | hm
    · exact absurd c.F.ns.lt (e ▸ Nat.lt_irrefl _)
    · exact hN.2.1 (List.mem_singleton.mp hm).symm
  · rw [List.mem_singleton.mp hb]
    cases q : h₀.get? h.objs.size with
    | none => rfl
    | some o => exact absurd (Heap.lt_size (c.F.keep _ _ q)) (Nat.lt_irrefl _)
  · rcases List.mem_cons.mp hm with e | hm
    · exact absurd (Heap.lt_size (c.tail.N p hp).1) (e ▸ Nat.lt_irrefl _)
    · exact nd.1 (List.mem_map.mpr ⟨p, hp, List.mem_singleton.mp hm⟩)
end
theorem Cx.same {h₀ h h' : Heap} {L C : Addr} {m : Str → Option Value} {news : List (Addr × Obj)} (c : Cx h₀ L h m news) (hL : L ≠ C) (h0 : h₀.get? C = none) (hN : ∀ p ∈ news, p.1 ≠ C) (hs : Heap.SameBut C h h') : Cx h₀ L h' m news :=
  ⟨⟨c.F.ns.sameBut hs hL, fun b o e => (hs.2 b (fun q => by rw [q, h0] at e; cases e)).trans (c.F.keep b o e), c.F.above⟩, fun p hp => ⟨(hs.2 _ (hN p hp)).trans (c.N p hp).1, (c.N p hp).2⟩, c.D⟩
theorem Law.same {h₀ hU h h' : Heap} {L C : Addr} {m mU : Str → Option Value} {ps psU : Array Value} {c1 c2 c3 c4 c5 c6 c7 d1 d2 d3 d4 d5 d6 d7 : Option Value} {LS LSU : List (Addr × Obj)} (l : Law h₀ L h m ps c1 c2 c3 c4 c5 c6 c7 LS) (lU : Law h₀ L hU mU psU d1 d2 d3 d4 d5 d6 d7 LSU) (hC : hU.get? C = none)
    (hD : ∀ p ∈ LS, p ∈ LSU ∨ p.1 ≠ C) (hs : Heap.SameBut C h h') : Law h₀ L h' m ps c1 c2 c3 c4 c5 c6 c7 LS := by
  have hne : ∀ a, (∃ o, hU.get? a = some o) → a ≠ C := fun a ⟨o, ho⟩ e => by rw [e, hC] at ho; cases ho
  obtain ⟨o1, o2, o3, o4, o5, o6, o7, c, r⟩ := l.ex
  refine ⟨o1, o2, o3, o4, o5, o6, o7, c.same (hne _ (by obtain ⟨o, _, _, ho, _⟩ := lU.ns; exact ⟨o, ho⟩)) ?_ (fun p hp => ?_) hs, r⟩
  · cases q : h₀.get? C with
    | none => rfl
    | some o => have := lU.keep _ _ q; rw [hC] at this; cases this
  · rcases List.mem_append.mp hp with hp | hp
    · rcases hD p hp with q | q
      · exact hne _ ⟨_, lU.get q⟩
      · exact q
    · simp only [List.mem_cons, List.not_mem_nil, or_false] at hp
      rcases hp with rfl | rfl | rfl | rfl | rfl | rfl | rfl | rfl
      · exact hne _ ⟨_, lU.tab⟩
      · exact hne _ (by obtain ⟨o, ho, _⟩ := lU.cell1; exact ⟨o, ho⟩)
      · exact hne _ (by obtain ⟨o, ho, _⟩ := lU.cell2; exact ⟨o, ho⟩)
      · exact hne _ (by obtain ⟨o, ho, _⟩ := lU.cell3; exact ⟨o, ho⟩)
      · exact hne _ (by obtain ⟨o, ho, _⟩ := lU.cell4; exact ⟨o, ho⟩)
      · exact hne _ (by obtain ⟨o, ho, _⟩ := lU.cell5; exact ⟨o, ho⟩)
      · exact hne _ (by obtain ⟨o, ho, _⟩ := lU.cell6; exact ⟨o, ho⟩)
      · exact hne _ (by obtain ⟨o, ho, _⟩ := lU.cell7; exact ⟨o, ho⟩)
/-- a frame is no list -/
theorem ns_ne {h : Heap} {C D : Addr} {m : Str → Option Value} {ys : Array Value} {n : Nat} (hn : h.Ns C m) (hD : h.get? D = some (listOf ys n)) : D ≠ C := fun e => by
  obtain ⟨o, es, ep, ho, hd, _⟩ := hn
  rw [← e, hD] at ho; cases ho; cases hd

theorem xasgC {w : World} {A : Around} {s : Shared} {env : Env} {x : Str} {px pos : Pos} {e : Expr} {Q : Flow → Shared → Prop} (g : Wp w A (eval e env) (fun v s₁ => Wp w A (storeName env x v) (fun _ => Q .next) s₁) s) (hs : swapsWith e (some (.Name x px)) pos.line env = pure false := by kernel_rfl) : Wp w A (exec (.Assign [.Name x px] e pos) env) Q s :=
  ⟨wpAny_Assign_Name g.dn hs⟩
/-- the end of a comprehension that is a local's value -/
theorem Law.asgComp {w : World} {A : Around} {s : Shared} {h₀ hU h : Heap} {env : Env} {C D : Addr} {ys : Array Value} {nn tk : Nat} {m mU mC : Str → Option Value} {ps psU : Array Value} {c1 c2 c3 c4 c5 c6 c7 d1 d2 d3 d4 d5 d6 d7 : Option Value} {LS : List (Addr × Obj)} {x : Str} {P : Unit → Shared → Prop}
    (l : Law h₀ env.locals h m ps c1 c2 c3 c4 c5 c6 c7 ((D, listOf ys nn) :: LS)) (lU : Law h₀ env.locals hU mU psU d1 d2 d3 d4 d5 d6 d7 LS) (hC : hU.get? C = none) (hn : h.Ns C mC)
    (g : ∀ h₂ tk₂, (∃ m, h₂.Ns C m) → (∀ h', Heap.SameBut C h₂ h' → Law h₀ env.locals h' (fun y => if y = x then some (.ref D) else m y) ps c1 c2 c3 c4 c5 c6 c7 ((D, listOf ys nn) :: LS)) → P () (St s h₂ tk₂))
    (hx : env.kindOf x = some .local := by kernel_rfl) (hk : (env.scope.kind == .class || (env.scope.kind == .module && env.locals != env.globals)) = false := by rfl) :
    Wp w A (storeName env x (.ref D)) P (St s h tk) := by
  refine l.stS (fun h₂ tk₂ l₂ hs₂ => ?_) hx hk
  have hCL : C ≠ env.locals := fun e => by
    obtain ⟨o, _, _, ho, _⟩ := lU.ns
    rw [e, ho] at hC; cases hC
  have hn₂ := hn.sameBut hs₂ hCL
  refine g h₂ tk₂ ⟨_, hn₂⟩ fun h₃ hs₃ => l₂.same lU hC (fun p hp => ?_) hs₃
  rcases List.mem_cons.mp hp with rfl | hp
  · exact .inr (ns_ne hn₂ (l₂.get (.head _)))
  · exact .inl hp

/-! ## Law1 -/
theorem fill12_ (P : Params) : Challenge.rw_pg0178_01.prog = Challenge.rw_pg0178_01.prog ∧ hd.heap_39 P = hd.heap_39 P := by
  k_fill
  exact ⟨rfl, rfl⟩

theorem name_at {b : Int} {u : Int} {vs : List Value} (h : Paired StrV ((rng b 6).map nameI) vs) (h1 : 1 ≤ u) (h6 : u ≤ 6) : ∃ t, vs[(u - 1).toNat]? = some (.str (nameI (b + (u - 1))) t) := by
  have hl := h.length
  have hlt : (u - 1).toNat < vs.length := by rw [← hl]; simp [rng]; omega
  obtain ⟨a, ha, t, hv⟩ := Paired.get h (List.getElem?_eq_getElem hlt)
  refine ⟨t, ?_⟩
  rw [List.getElem?_eq_getElem hlt, hv]
  have hk : (u - 1).toNat < 6 := by omega
  rw [List.getElem?_map, rng_get hk] at ha
  rw [← Option.some.inj ha, show b + (((u - 1).toNat : Nat) : Int) = b + (u - 1) by omega]
theorem fmod_bd {a b : Int} (h : 0 < b) : 0 ≤ Int.fmod a b ∧ Int.fmod a b < b := ⟨Int.fmod_nonneg_of_pos a h, Int.fmod_lt_of_pos a h⟩
def scL (script : List Int) : List Int := pickNums script none (some 2) none
def baseI (script : List Int) : Int := Int.fmod (8 + ((scL script).map fun x => Int.fdiv x 64).sum) 27
def itQ : Nat → Nat → Nat
  | 0, q => q
  | i + 1, q => nextQ (itQ i q)
structure Facts (q : Nat) : Prop where
  told : toldL (bitsL q) = (sizesL (bitsL q)).map (rowL (bitsL q))
  odd : oddL (bitsL q) = nextL (bitsL q)
  next : bitsL (nextQ q) = nextL (bitsL q)
  lt : nextQ q < 64
  bits : ∀ u ∈ bitsL (q : Int), 1 ≤ u ∧ u ≤ 6
  len : (bitsL (q : Int)).length ≤ 6
  raw1 : rawOk (leadS (shortL (bitsL q))) = true
  raw2 : rawOk (leadS (wideL (bitsL q))) = true
  ws1 : wsOk (wsRun (leadS (shortL (bitsL q)))) = true
  ws2 : wsOk (wsRun (leadS (wideL (bitsL q)))) = true
  wide : ∀ u ∈ wideL (bitsL q), 0 ≤ u ∧ u ≤ 6
  wlen : (wideL (bitsL q)).length ≤ 6
  first : ∀ p ∈ toldL (bitsL q), 1 ≤ p.1 ∧ p.1 ≤ 6
  tlen : (toldL (bitsL q)).length ≤ 6
theorem facts_eq {q : Nat} (h : q < 64) : toldL (bitsL q) = (sizesL (bitsL q)).map (rowL (bitsL q)) ∧ oddL (bitsL q) = nextL (bitsL q) ∧ nextQ q = nextN q ∧ nextN q < 64 := by
  have f := facts_all q h
  simp only [factsOk, Bool.and_eq_true, decide_eq_true_eq, beq_iff_eq, List.all_eq_true] at f
  obtain ⟨⟨⟨⟨⟨⟨⟨⟨⟨⟨⟨⟨⟨f1, f2⟩, f3⟩, f4⟩, f5⟩, f6⟩, f7⟩, f8⟩, f9⟩, f10⟩, f11⟩, f12⟩, f13⟩, f14⟩ := f
  have ho : oddL (bitsL q) = nextL (bitsL q) := by unfold oddL; rw [f1]; exact f2
  exact ⟨f1, ho, by unfold nextQ nextN; rw [ho], f4⟩
theorem facts {q : Nat} (h : q < 64) : Facts q := by
  have f := facts_all q h
  simp only [factsOk, Bool.and_eq_true, decide_eq_true_eq, beq_iff_eq, List.all_eq_true] at f
  obtain ⟨⟨⟨⟨⟨⟨⟨⟨⟨⟨⟨⟨⟨f1, f2⟩, f3⟩, f4⟩, f5⟩, f6⟩, f7⟩, f8⟩, f9⟩, f10⟩, f11⟩, f12⟩, f13⟩, f14⟩ := f
  obtain ⟨g1, g2, g3, g4⟩ := facts_eq h
  exact ⟨f1, g2, by rw [g3]; exact f3, by rw [g3]; exact f4, f5, f6, f7, f8, f9, f10, f11, f12, by rw [f1]; exact f13, by rw [f1]; exact f14⟩
theorem next_four (q : Nat) (h : q < 64) : nextQ (nextQ (nextQ (nextQ q))) = q := by
  obtain ⟨_, _, e1, l1⟩ := facts_eq h
  obtain ⟨_, _, e2, l2⟩ := facts_eq l1
  obtain ⟨_, _, e3, l3⟩ := facts_eq l2
  obtain ⟨_, _, e4, _⟩ := facts_eq l3
  rw [e1, e2, e3, e4, next_fourN q h]
theorem raw_of {r : Str} (h : rawOk r = true) : (∀ c ∈ r.cps.toList, c = 32 ∨ c = 9) ∧ r.cps.size ≤ 60 := by
  simp only [rawOk, Bool.and_eq_true, decide_eq_true_eq, List.all_eq_true, Bool.or_eq_true, beq_iff_eq] at h
  exact ⟨h.1, by omega⟩
theorem ws_of {a : WsD} (h : wsOk a = true) : a.1.length ≤ 60 ∧ 0 ≤ a.2.1 ∧ a.2.1 ≤ 60 := by
  simp only [wsOk, Bool.and_eq_true, decide_eq_true_eq] at h
  exact ⟨h.1.1, h.1.2, h.2⟩
def headS (n : Nat) : Str := if (1 : Int) < n then "at tab sizes " else "at tab size "
theorem fmt_eq {ns : List Int} (h : toldL ns = (sizesL ns).map (rowL ns)) : fmtS (toldL ns) = headS (sizesL ns).length ++ Txt.join ", " ((sizesL ns).map strI) := by
  unfold fmtS headS
  rw [h, List.length_map, List.map_map]
  have e : (sizesL ns).map ((fun p : Int × Int × Int => strI p.1) ∘ rowL ns) = (sizesL ns).map strI := List.map_congr_left fun _ _ => rfl
  rw [e]
  have e1 : (("at tab size" : Str) ++ "s") ++ " " = "at tab sizes " := by decide +kernel
  have e2 : ("at tab size" : Str) ++ " " = "at tab size " := by decide +kernel
  split
  · rw [e1]
  · rw [e2]
def tripOf (h : Heap) (v : Value) : Option (Int × Int × Int) := match v with
  | .ref T => (h.get? T).bind fun o => match o.data with
    | .seq its _ => (match its.toList with | [.int a _, .int b _, .int c _] => some (a, b, c) | _ => none)
    | _ => none
  | _ => none
theorem TripV.of {h : Heap} {p : Int × Int × Int} {v : Value} (z : TripV h p v) : tripOf h v = some p := by
  obtain ⟨T, ta, tb, tc, k, rfl, f⟩ := z
  unfold tripOf
  simp [f]
theorem sum_pow {r b : Nat} (h : ∀ x ∈ oddL (bitsL (r : Int)), 1 ≤ x ∧ x ≤ 6) : ((oddL (bitsL (r : Int))).map fun x => (1 : Int) * 2 ^ ((b : Int) + x - 1).toNat).sum = ((nextQ r * 2 ^ b : Nat) : Int) := by
  unfold nextQ
  generalize oddL (bitsL (r : Int)) = l at h ⊢
  induction l with
  | nil => simp
  | cons x t ih =>
    have hx := h x (.head _)
    simp only [List.map_cons, List.sum_cons]
    have e : (1 : Int) * 2 ^ ((b : Int) + x - 1).toNat = ((2 ^ (x - 1).toNat * 2 ^ b : Nat) : Int) := by
      rw [show ((b : Int) + x - 1).toNat = (x - 1).toNat + b by omega, Int.one_mul, ← Nat.pow_add]
      push_cast
      rfl
    rw [ih fun y hy => h y (.tail _ hy), e, Nat.add_mul, Int.natCast_add]
theorem itQ_lt {q : Nat} (h : q < 64) : ∀ i, itQ i q < 64
  | 0 => h
  | i + 1 => by
    exact (facts (itQ_lt h i)).lt
theorem flags_bd {q b : Nat} (hq : q < 64) (hb : b < 27) : q * 2 ^ b < 2 ^ 32 := by
  have h1 : 2 ^ b ≤ 2 ^ 26 := Nat.pow_le_pow_right (by omega) (by omega)
  calc q * 2 ^ b ≤ 63 * 2 ^ 26 := Nat.mul_le_mul (by omega) h1
    _ < 2 ^ 32 := by omega
theorem bits_small : ∀ q : Nat, q < 64 → (q : Int).natAbs < 2 ^ 64 := fun q h => by omega
theorem pow_cast (q b : Nat) : (q : Int) * 2 ^ ((b : Int)).toNat = ((q * 2 ^ b : Nat) : Int) := by
  rw [show ((b : Int)).toNat = b by omega]; push_cast; rfl
section
variable {w : World} {A : Around} {s : Shared} {h : Heap} {tk : Nat}
theorem law_spec {k : Nat} {l : Addr} {vs : List Value} {script : List Int} {ps : Array Value} {R : Result → Shared → Prop} (G : Gd w h) (hA : Ao A (k + 8)) (tab : TabOk h ps) (hb : AllBare s.gens) (hl : h.IsList l vs.toArray) (hi : IntsAre vs script) (hz : script.length ≤ 63)
    (g : ∀ s' h' tk' ps', (∀ b o, b ≠ 89 → h.get? b = some o → h'.get? b = some o) → h'.get? 89 = some (tabO ps') → AllBare s'.gens → s'.os = s.os → R (.ok (.ret (.bool true))) (St s' h' tk')) :
    Co w A (.call (.ref 129) ⟨[.ref l], []⟩) R (St s h tk) := by
  have e89 := tab.tab.2
  have hl89 : l ≠ 89 := by
    rintro rfl
    obtain ⟨o, ho, hc, _⟩ := hl
    rw [e89] at ho; cases ho; cases hc
  have G₀ := G.hide e89
  refine' enterCW (h₀ := h.hide 89) [("script", .ref l)] [(89, tabO ps)] hide_up ?hsz ?hN ?hD G hA ?ho ?hcd ?hb ?hl ?_ ?hnd ?hco ?hgen ?hk
  case hsz => exact Nat.le_of_eq (Heap.hide_size h 89)
  case hN => intro p hp; rw [List.mem_singleton.mp hp]; exact ⟨e89, Heap.hide_self h 89⟩
  case hD => simp
  walk_at "enter"
  intro L h₁ tk₁ cells c₁ X a
  have hl₀ : (h.hide 89).IsList l vs.toArray := let ⟨o, e, r⟩ := hl; ⟨o, hide_get hl89 e, r⟩
  obtain ⟨o93, h93⟩ : ∃ o, (h.hide 89).get? 93 = some o := by
    obtain ⟨⟨o, vs, e, _⟩, _⟩ := tab.tab
    exact ⟨o, hide_get (by decide) e⟩
  have tabAt : ∀ {h' : Heap} {ps' : Array Value}, Up (h.hide 89) h' → h'.get? 89 = some (tabO ps') → TriOk ps' → TabOk h' ps' := fun u e z => tab.re (fun o q => by rw [hide_up _ _ h93] at q; cases q; exact u _ _ h93) e z
  have hvl : vs.length ≤ 63 := by rw [hi.length]; exact hz
  obtain ⟨o7, o6, o5, o4, o3, o2, o1, rfl, r7, r6, r5, r4, r3, r2, r1⟩ := CellsAre.seven (n1 := "wide") (n2 := "short") (n3 := "words") (n4 := "numbers") (n5 := "mask") (n6 := "names") (n7 := "base") (a1 := L + 7) (a2 := L + 6) (a3 := L + 5) (a4 := L + 4) (a5 := L + 3) (a6 := L + 2) (a7 := L + 1) X
  have l₁ : Law (h.hide 89) L h₁ _ ps none none none none none none none [] := ⟨o1, o2, o3, o4, o5, o6, o7, c₁.perm (List.reverse_perm _).symm, r1.trans (by with_unfolding_all rfl), r2.trans (by with_unfolding_all rfl), r3.trans (by with_unfolding_all rfl), r4.trans (by with_unfolding_all rfl), r5.trans (by with_unfolding_all rfl), r6.trans (by with_unfolding_all rfl), r7.trans (by with_unfolding_all rfl)⟩
  -- base
  refine xcons <| xasg <| eBin <| eBin <| cInt fun _ _ => callB (G₀.up l₁.keep) n_sum b_sum ?_
  refine' comp_ (cl := []) (fun _ => true) (fun _ v y => ∀ n t, v = .int n t → IntV (Int.fdiv n 64) y) (fun _ _ _ _ e _ => e) ?qclos ?qcell ?qkind ?qnames ?qx ?_
  walk_at "comp"
  have hl₁ : h₁.IsList l vs.toArray := Heap.IsList.up hl₀ l₁.keep
  refine l₁.cx fun T c back => sliceTo_ c hl₁ (by omega) (nmX c (by with_unfolding_all rfl) ⟨rfl, rfl⟩) fun D₂ h₂ tk₂ c₂ => ?_
  have l₂ := back _ _ (_ :: []) c₂
  have hpick := hi.pick none (some 2) none
  have hsc : IntsAre (slicePick vs.toArray none (some 2) none).toList (scL script) := hpick
  have hscl : (scL script).length ≤ 63 := Nat.le_trans (length_pickNums_le hi none (some 2) none) hz
  have hpl : (slicePick vs.toArray none (some 2) none).toList.length ≤ 63 := by rw [hsc.length]; exact hscl
  refine compAt_list (vs := (slicePick vs.toArray none (some 2) none).toList) a.hh ⟨_, l₂.get (.head _), rfl, 0, rfl⟩ (by rw [sizeLine_eq]; omega) (fun C v s' h₃ tk₃ m₃ hv hn hm u => tests0 ⟨rfl, _, _, rfl, Up.refl _⟩) ?_ ?_
  · intro C v s' h₃ tk₃ m₃ hv _ hnn hm u
    obtain ⟨n, hn', tn, rfl⟩ := Paired.mem (ints_paired hsc) hv
    exact eBin <| nmL (env := compEnvC _ _ C _) hnn hm <| cInt fun _ _ => fdiv_ (by omega) (by omega) fun _ t' => ⟨_, _, rfl, Up.refl _, fun n t e => by cases e; exact ⟨t', rfl⟩⟩
  intro D₃ h₃ tk₃ ys₃ nn₃ hD₃ hD₃' hP₃ u₃
  have hys₃ := paired_map (R := IntV) (R' := IntV) (fun _ => true) (fun x => Int.fdiv x 64) (by rintro n v ⟨t, rfl⟩; rfl) (ints_paired hsc) (by rintro n v y _ ⟨t, rfl⟩ e; exact e _ _ rfl) hP₃
  rw [List.filter_eq_self.mpr (fun _ _ => rfl)] at hys₃
  have l₃ := l₂.up u₃
  refine l₃.cx fun T c back => sumL_ a.hh c (isList_of hD₃') (paired_ints hys₃) fun h₄ tk₄ t₄ c₄ => ?_
  have l₄ := (back _ _ _ c₄).sub (List.nil_sublist _)
  refine add_ fun _ _ => cInt fun _ _ => fmod_ (by omega) fun _ tb => ?_
  obtain ⟨b, hbI⟩ : ∃ b : Nat, baseI script = (b : Int) := ⟨(baseI script).toNat, (Int.toNat_of_nonneg (fmod_bd (by omega)).1).symm⟩
  have hb27 : b < 27 := by have := (fmod_bd (a := 8 + ((scL script).map fun x => Int.fdiv x 64).sum) (b := 27) (by omega)).2; unfold baseI at hbI; omega
  rw [show Int.fmod (8 + ((scL script).map fun x => Int.fdiv x 64).sum) 27 = (b : Int) from hbI]
  refine l₄.st1 (by with_unfolding_all rfl) fun h₅ tk₅ l₅ => ?_
  -- names
  refine xcons <| xasg <| callD (G₀.up l₅.keep) (by k_is) (by k_is) <| l₅.nm1 (by with_unfolding_all rfl) ⟨(G₀.up l₅.keep).k, names_spec (G₀.up l₅.keep) a (by omega) (by omega) fun h₆ tk₆ Dn ysn nnn hDn hDn' hnames u₆ => ?_⟩
  have l₆ := l₅.add u₆ hDn hDn'
  refine l₆.st2 (by with_unfolding_all rfl) fun h₇ tk₇ l₇ => ?_
  -- the masks
  have l₇' := l₇.sub (LS' := [(Dn, listOf ysn nnn)]) (by simp)
  refine xcons <| for_ <| eBin ?_
  refine' comp_ (cl := []) (fun _ => true) (fun _ v y => ∀ n t, v = .int n t → IntV (Int.fmod n 64) y) (fun _ _ _ _ e _ => e) ?qclos ?qcell ?qkind ?qnames ?qx ?_
  walk_at "comp"
  have hl₇ : h₇.IsList l vs.toArray := Heap.IsList.up hl₀ l₇.keep
  refine l₇'.cx fun T c back => sliceTo_ c hl₇ (by omega) (nmX c (by with_unfolding_all rfl) ⟨rfl, rfl⟩) fun D₈ h₈ tk₈ c₈ => ?_
  have l₈ := back _ _ (_ :: [(Dn, listOf ysn nnn)]) c₈
  refine compAt_list (vs := (slicePick vs.toArray none (some 2) none).toList) a.hh ⟨_, l₈.get (.head _), rfl, 0, rfl⟩ (by rw [sizeLine_eq]; omega) (fun C v s' h₃ tk₃ m₃ hv hn hm u => tests0 ⟨rfl, _, _, rfl, Up.refl _⟩) ?_ ?_
  · intro C v s' h₃ tk₃ m₃ hv _ hnn hm u
    obtain ⟨n, hn', tn, rfl⟩ := Paired.mem (ints_paired hsc) hv
    exact eBin <| nmL (env := compEnvC _ _ C _) hnn hm <| cInt fun _ _ => fmod_ (by omega) fun _ t' => ⟨_, _, rfl, Up.refl _, fun n t e => by cases e; exact ⟨t', rfl⟩⟩
  intro D₉ h₉ tk₉ ys₉ nn₉ hD₉ hD₉' hP₉ u₉
  have hys₉ := paired_map (R := IntV) (R' := IntV) (fun _ => true) (fun x => Int.fmod x 64) (by rintro n v ⟨t, rfl⟩; rfl) (ints_paired hsc) (by rintro n v y _ ⟨t, rfl⟩ e; exact e _ _ rfl) hP₉
  rw [List.filter_eq_self.mpr (fun _ _ => rfl)] at hys₉
  have l₉ := (l₈.up u₉).sub (LS' := [(Dn, listOf ysn nnn)]) (by simp)
  refine eList <| items1 <| cInt fun _ t44 => items0 <| mkList_ (by simp) fun DA hA₁ hDA hDA' uA => ?_
  have lA := l₉.up uA
  have hmasks : ∀ v ∈ ys₉.toList ++ [Value.int 44 t44], ∃ (q : Nat) (t : Tok), v = .int (q : Int) t ∧ q < 64 := by
    intro v hv
    rcases List.mem_append.mp hv with hv | hv
    · obtain ⟨n, hn, t, rfl⟩ := Paired.mem hys₉ hv
      obtain ⟨x, _, rfl⟩ := List.mem_map.mp hn
      have hbd := fmod_bd (a := x) (b := 64) (by omega)
      exact ⟨(Int.fmod x 64).toNat, t, by rw [Int.toNat_of_nonneg hbd.1], by omega⟩
    · rw [List.mem_singleton.mp hv]; exact ⟨44, t44, rfl, by omega⟩
  have hl9 : ys₉.toList.length ≤ 63 := by rw [← hys₉.length, List.length_map]; exact hscl
  refine lA.cx fun T c back => addL_ (vs := ys₉.toList) (ws := [.int 44 t44]) c (Heap.IsList.up (isList_of hD₉') uA) ⟨_, hDA', rfl, 0, rfl⟩ (by rw [List.length_singleton]; omega) fun DB hB₁ cB => ?_
  have lB := back _ _ (_ :: [(Dn, listOf ysn nnn)]) cB
  obtain ⟨o1, o2, o3, o4, o5, o6, o7, cB', rr⟩ := lB.ex
  refine iter_listN (vs := ys₉.toList ++ [.int 44 t44]) (fun s' => AllBare s'.gens ∧ s'.os = s.os)
    (fun i m nx => ∃ ps c3 c4 c5 c6 c7 o1 o2 o3 o4 o5 o6 o7, nx = [(Dn, listOf ysn nnn)] ++ [(89, tabO ps), (L + 1, o1), (L + 2, o2), (L + 3, o3), (L + 4, o4), (L + 5, o5), (L + 6, o6), (L + 7, o7)] ∧ TriOk ps ∧
      (o1.data = .cell (some (.int (b : Int) tb)) ∧ o2.data = .cell (some (.ref Dn)) ∧ o3.data = .cell c3 ∧ o4.data = .cell c4 ∧ o5.data = .cell c5 ∧ o6.data = .cell c6 ∧ o7.data = .cell c7))
    a.hh ⟨hb, rfl⟩ cB' ⟨ps, none, none, none, none, none, o1, o2, o3, o4, o5, o6, o7, rfl, tab.tri, rr⟩ ?_ ?_
  · rintro i v sM m₁ nx h₁₀ tk₁₀ own ⟨hbM, hosM⟩ hv ⟨ps₁, c3, c4, c5, c6, c7, o1, o2, o3, o4, o5, o6, o7, rfl, tri₁, rr⟩ c₁₀
    obtain ⟨q, tq, rfl, hq⟩ := hmasks v (List.mem_of_getElem? hv)
    have l₁₀ : Law _ _ _ _ _ _ _ _ _ _ _ _ (own ++ [(Dn, listOf ysn nnn)]) := Law.into c₁₀ rr
    refine xname <| l₁₀.st3 (by with_unfolding_all rfl) fun h₁₁ tk₁₁ l₁₁ => ?_
    -- numbers, first
    refine xcons <| xasgT <| eTup <| items1 ?_
    refine' comp_ (cl := [("mask", L + 3)]) (fun v => match v with | .int u _ => Builtin.bitAnd (shrI (q : Int) (u - 1)) 1 != 0 | _ => false) (fun _ v y => y = v) (fun _ _ _ _ e _ => e) ?qclos ?qcell ?qkind ?qnames ?qx ?_
    walk_at "comp"
    refine callT2 (G₀.up l₁₁.keep) n_range b_range <| cInt fun _ _ => cInt fun _ _ => range2_ fun h₁₂ tk₁₂ rr₁ t' u' v' hr u₁₂ => ?_
    have l₁₂ := l₁₁.up u₁₂
    refine compAt_range (n := 6) a.hh hr (by omega) (by omega) rfl ?_ ?_ ?_
    · intro C u tz s' h₃ tk₃ m₃ hu hn hm up
      have hu' := mem_rng hu
      exact tests1 <| tPlain <| eBin <| eBin <| nmC (c := L + 3) (by with_unfolding_all rfl) (l₁₂.cell3.keeps up) <| eBin <| nmL (s := St s' h₃ _) (env := compEnvC _ _ C _) hn hm <| cInt fun _ _ => sub_ fun _ _ => shr_ (by omega) fun _ _ => cInt fun _ _ => band_ fun _ _ => tInt ⟨rfl, _, _, rfl, Up.refl _⟩
    · intro C u tz s' h₃ tk₃ m₃ hu _ hn hm up
      exact nmL (s := St s' h₃ tk₃) (env := compEnvC _ _ C _) hn hm ⟨_, _, rfl, Up.refl _, rfl⟩
    intro Dq h₁₃ tk₁₃ ysq nq vsR hDq hDq' hvsR hPq u₁₃
    have hysq := paired_map (R := IntV) (R' := IntV) (fun u => Builtin.bitAnd (shrI (q : Int) (u - 1)) 1 != 0) id (by rintro n v ⟨t, rfl⟩; rfl) hvsR (by rintro n v y _ ⟨t, rfl⟩ rfl; exact ⟨t, rfl⟩) hPq
    rw [List.map_id] at hysq
    have l₁₃ := l₁₂.add u₁₃ hDq hDq'
    refine items1 <| callD (G₀.up l₁₃.keep) (by k_is) (by k_is) <| eBin <| l₁₃.nm3 (by with_unfolding_all rfl) <| l₁₃.nm1 (by with_unfolding_all rfl) <| shl_ (by omega) (by omega) (bits_small q hq) fun _ _ => ?_
    rw [pow_cast]
    refine ⟨(G₀.up l₁₃.keep).k, flags_spec (G₀.up l₁₃.keep) a (flags_bd hq hb27) fun h₁₄ tk₁₄ t₁₄ u₁₄ => ?_⟩
    have l₁₄ := l₁₃.up u₁₄
    refine items0 <| mkTup_ (by simp) fun T₁₅ h₁₅ hT hT' u₁₅ => ?_
    have l₁₅ := l₁₄.up u₁₅
    refine asgTup2 a.hh ⟨_, hT', rfl, 0, rfl⟩ fun h₁₆ u₁₆ => ?_
    have l₁₆ := l₁₅.up u₁₆
    refine l₁₆.st4 (by with_unfolding_all rfl) fun h₁₇ tk₁₇ l₁₇ => l₁₇.stL fun h₁₈ tk₁₈ l₁₈ => ?_
    refine xcons <| xasg <| l₁₈.nm (by walk_at "lk") <| l₁₈.stL fun h₁₉ tk₁₉ l₁₉ => ?_
    -- the four turns
    refine xcons <| for_ <| callT (G₀.up l₁₉.keep) n_range b_range <| cInt fun _ _ => range1_ fun h₂₀ tk₂₀ rr₂ t₂ u₂ v₂ hr₂ u₂₀ => ?_
    have l₂₀ := l₁₉.up u₂₀
    obtain ⟨p1, p2, p3, p4, p5, p6, p7, c₂₀, rr₂₀⟩ := l₂₀.ex
    refine iter_range (n := 4) (fun s' => AllBare s'.gens ∧ s'.os = s.os)
      (fun i m nx => ∃ Dq ysq nq ps c3 c5 c6 c7 o1 o2 o3 o4 o5 o6 o7, nx = ((Dq, listOf ysq nq) :: (own ++ [(Dn, listOf ysn nnn)])) ++ [(89, tabO ps), (L + 1, o1), (L + 2, o2), (L + 3, o3), (L + 4, o4), (L + 5, o5), (L + 6, o6), (L + 7, o7)] ∧ TriOk ps ∧
        Paired IntV (bitsL (itQ i q : Nat)) ysq.toList ∧ (∃ t, m "text" = some (.str (textQ (itQ i q) b) t)) ∧ (∃ t, m "first" = some (.str (textQ q b) t)) ∧
        (o1.data = .cell (some (.int (b : Int) tb)) ∧ o2.data = .cell (some (.ref Dn)) ∧ o3.data = .cell c3 ∧ o4.data = .cell (some (.ref Dq)) ∧ o5.data = .cell c5 ∧ o6.data = .cell c6 ∧ o7.data = .cell c7))
      a.hh hr₂ (by omega) (by omega) rfl ⟨hbM, hosM⟩ c₂₀ ⟨Dq, ysq, nq, ps₁, _, _, _, _, p1, p2, p3, p4, p5, p6, p7, rfl, tri₁, hysq, ⟨t₁₄, by show _ = some (Value.str (textQ q b) t₁₄); walk_at "lk"⟩, ⟨t₁₄, by walk_at "lk"⟩, rr₂₀⟩ ?_ ?_
    · rintro i ti sN m₂ nx hA tkA own₂ ⟨hbN, hosN⟩ hi4 ⟨Dr, ysr, nr, ps₂, d3, d5, d6, d7, o1, o2, o3, o4, o5, o6, o7, rfl, tri₂, hr, ⟨tt, htext⟩, ⟨tf, hfirst⟩, rr'⟩ cI
      have lI : Law _ _ _ _ _ _ _ _ _ _ _ _ (own₂ ++ ((Dr, listOf ysr nr) :: (own ++ [(Dn, listOf ysn nnn)]))) := Law.into cI rr'
      have hr64 : itQ i q < 64 := itQ_lt hq i
      have fc := facts hr64
      show Wp _ _ _ _ _
      have enext : itQ (i + 1) q = nextQ (itQ i q) := rfl
      rw [enext]
      generalize itQ i q = r at hr htext hr64 fc ⊢
      have memQ : (Dr, listOf ysr nr) ∈ (own₂ ++ ((Dr, listOf ysr nr) :: (own ++ [(Dn, listOf ysn nnn)]))) := List.mem_append_right _ (.head _)
      have memN : (Dn, listOf ysn nnn) ∈ (own₂ ++ ((Dr, listOf ysr nr) :: (own ++ [(Dn, listOf ysn nnn)]))) := List.mem_append_right _ (.tail _ (List.mem_append_right _ (.head _)))
      generalize hLS : own₂ ++ ((Dr, listOf ysr nr) :: (own ++ [(Dn, listOf ysn nnn)])) = LS at lI memQ memN
      refine xname <| lI.stL fun hB tkB lB => ?_
      -- words
      refine xcons <| xasg <| meth1 <| lB.nm (by walk_at "lk") <| gSplit <| bi1 <| cStr fun _ _ => ?_
      refine lB.cx fun T c back => splitL_ c (by decide +kernel) (by have := text_len hr64 hb27; omega) fun DW hC tkC wsv cC hwsv => ?_
      rw [split_text hr64 hb27] at hwsv
      have lC := back _ _ (_ :: LS) cC
      refine lC.st5 (by with_unfolding_all rfl) fun hD tkD lD => ?_
      have hrl : ysr.toList.length ≤ 6 := by rw [← hr.length]; exact fc.len
      have nameElt : ∀ {hX : Heap} {pX : Array Value} {e3 e4 e5 e6 e7 : Option Value} {mX : Str → Option Value} {LX : List (Addr × Obj)}, Law (h.hide 89) L hX mX pX (some (.int (b : Int) tb)) (some (.ref Dn)) e3 e4 e5 e6 e7 LX → (Dn, listOf ysn nnn) ∈ LX → hX.IsCell (L + 2) (some (.ref Dn)) ∧ hX.IsList Dn ysn.toList.toArray :=
        fun lX hm => ⟨lX.cell2, isList_of (lX.get hm)⟩
      refine xcons ?_
      refine Wp.mono (P := fun f s' => f = .next ∧ ∃ hG tkG, s' = St sN hG tkG ∧ Law (h.hide 89) L hG lD.fr ps₂ (some (.int (b : Int) tb)) (some (.ref Dn)) d3 (some (.ref Dr)) (some (.ref DW)) d6 d7 ((DW, listOf wsv.toArray 0) :: LS)) ?_ ?_
      · refine xif <| tCmp <| lD.nm5 (by with_unfolding_all rfl) <| eOr ?_
        refine' comp_ (cl := [("names", L + 2)]) (fun _ => true) (fun _ v y => ∀ n t, v = .int n t → StrV (nameI ((b : Int) + (n - 1))) y) (fun _ _ _ _ e _ => e) ?qclos ?qcell ?qkind ?qnames ?qx ?_
        walk_at "comp"
        refine lD.nm4 (by with_unfolding_all rfl) <| compAt_list (vs := ysr.toList) a.hh (isList_of (lD.get (.tail _ memQ))) (by rw [sizeLine_eq]; omega) (fun C v s' h₃ tk₃ m₃ hv hn hm u => tests0 ⟨rfl, _, _, rfl, Up.refl _⟩) ?_ ?_
        · intro C v s' h₃ tk₃ m₃ hv _ hnn hm u
          obtain ⟨n, hn', tn, rfl⟩ := Paired.mem hr hv
          have hbd := fc.bits n hn'
          obtain ⟨t', ht'⟩ := name_at hnames hbd.1 hbd.2
          have z := nameElt lD (.tail _ memN)
          exact eSub <| nmC (c := L + 2) (by with_unfolding_all rfl) (z.1.keeps u) <| eBin <| nmL (env := compEnvC _ _ C _) hnn hm <| cInt fun _ _ => sub_ fun _ _ => itemL_ (vs := ysn.toList) (Heap.IsList.up z.2 u) (by omega) (by omega) ht' ⟨_, _, rfl, Up.refl _, fun n t e => by cases e; exact ⟨t', rfl⟩⟩
        intro DE hE tkE ysE nE hDE hDE' hPE uE
        have hysE := paired_map (R := IntV) (R' := StrV) (fun _ => true) (fun u => nameI ((b : Int) + (u - 1))) (by rintro n v ⟨t, rfl⟩; rfl) hr (by rintro n v y _ ⟨t, rfl⟩ e; exact e _ _ rfl) hPE
        rw [List.filter_eq_self.mpr (fun _ _ => rfl)] at hysE
        have lE := lD.up uE
        have hEl : ysE.toList.length ≤ 6 := by rw [← hysE.length, List.length_map]; exact fc.len
        refine truthyL_ (isList_of hDE') (by omega) fun tkF => ?_
        by_cases hz : bitsL (r : Int) = []
        · have hnil : ysE.toList = [] := List.eq_nil_of_length_eq_zero (by rw [← hysE.length, hz]; rfl)
          rw [hnil]
          simp only [List.isEmpty_nil, Bool.not_true, Bool.false_eq_true, if_false]
          rw [names_zero hr64 hz] at hwsv
          refine eList <| items1 <| cStr fun _ t0 => items0 <| mkList_ (by simp) fun DF hF hDF hDF' uF => ?_
          have lF := lE.up uF
          refine neStrs_ (ws := [.str "0x0" t0]) a.units ⟨_, lF.get (.head _), rfl, 0, rfl⟩ ⟨_, hDF', rfl, 0, rfl⟩ hwsv (.cons ⟨t0, rfl⟩ .nil) <| tBool ?_
          simp only [Bool.false_eq_true, if_false]
          exact xnil ⟨rfl, _, _, rfl, lF⟩
        · have hne : ysE.toList.isEmpty = false := by
            rw [List.isEmpty_eq_false_iff]
            intro e
            have := hysE.length
            rw [e, List.length_map] at this
            exact hz (List.eq_nil_of_length_eq_zero this)
          rw [hne]
          simp only [Bool.not_false, if_true]
          rw [names_bits hr64 hb27 hz] at hwsv
          refine neStrs_ (ws := ysE.toList) a.units ⟨_, lE.get (.head _), rfl, 0, rfl⟩ (isList_of hDE') hwsv hysE <| tBool ?_
          simp only [Bool.false_eq_true, if_false]
          exact xnil ⟨rfl, _, _, rfl, lE⟩
      rintro _ _ ⟨rfl, hG, tkG, rfl, lG⟩
      show Wp _ _ _ _ _
      -- read
      refine xcons ?_
      refine' compToU_ (cl := [("words", L + 5), ("names", L + 2)]) (fun v => match v with | .int u _ => (flagNames (r * 2 ^ b)).any (· == nameI ((b : Int) + (u - 1))) | _ => false) (fun _ v y => y = v) (fun _ _ _ _ e _ => e) ?qsw ?qclos ?qcell ?qkind ?qnames ?qx hG ?_
      case qsw => with_unfolding_all rfl
      walk_at "comp"
      refine callT2 (G₀.up lG.keep) n_range b_range <| cInt fun _ _ => cInt fun _ _ => range2_ fun hH tkH rr₃ t₃ u₃ v₃ hr₃ uH => ?_
      have lH := lG.up uH
      refine (compAtU_range (n := 6) a.hh hr₃ (by omega) (by omega) rfl ?_ ?_ ?_).mono fun it s₂ z => ⟨z.1, Up.trans uH z.2⟩
      · intro C u tz s' h₃ tk₃ m₃ hu hn hm up
        have hu' := mem_rng hu
        obtain ⟨t', ht'⟩ := name_at hnames (u := u) (by omega) (by omega)
        have z := nameElt lH (.tail _ memN)
        exact tests1 <| tCmp <| eSub <| nmC (c := L + 2) (by with_unfolding_all rfl) (z.1.keeps up) <| eBin <| nmL (env := compEnvC _ _ C _) hn hm <| cInt fun _ _ => sub_ fun _ _ => itemL_ (vs := ysn.toList) (Heap.IsList.up z.2 up) (by omega) (by omega) ht' <| nmC (c := L + 5) (by with_unfolding_all rfl) (lH.cell5.keeps up) <|
          inStrs_ (vs := wsv) ⟨_, up _ _ (lH.get (.head _)), rfl, 0, rfl⟩ hwsv <| tBool ⟨rfl, _, _, rfl, Up.refl _⟩
      · intro C u tz s' h₃ tk₃ m₃ hu _ hn hm up
        exact nmL (s := St s' h₃ tk₃) (env := compEnvC _ _ C _) hn hm ⟨_, _, rfl, Up.refl _, rfl⟩
      intro DR hJ tkJ ysR nR vsR' hDR hDR' hvsR' hPR uJ
      have hysR := paired_map (R := IntV) (R' := IntV) (fun u => (flagNames (r * 2 ^ b)).any (· == nameI ((b : Int) + (u - 1)))) id (by rintro n v ⟨t, rfl⟩; rfl) hvsR' (by rintro n v y _ ⟨t, rfl⟩ rfl; exact ⟨t, rfl⟩) hPR
      rw [List.map_id, read_bits hr64 hb27] at hysR
      intro C hC ⟨mC, hnC⟩
      have lJ := lH.add uJ hDR hDR'
      refine lJ.asgComp lG hC hnC fun hK tkK hns back => ⟨hns.choose, hns.choose_spec, fun hK' hsK => ?_⟩
      have lK := back hK' hsK
      show Wp _ _ _ _ (St sN hK' tkK)
      -- short, wide
      have hRl : ysR.toList.length ≤ 6 := by rw [← hysR.length]; exact fc.len
      refine xcons <| xasgT <| eTup <| items1 ?_
      refine' comp_ (cl := []) (fun _ => true) (fun _ v y => ∀ n t, v = .int n t → IntV (n - 1) y) (fun _ _ _ _ e _ => e) ?qclos ?qcell ?qkind ?qnames ?qx ?_
      walk_at "comp"
      refine lK.nm (by walk_at "lk") <| compAt_list (vs := ysR.toList) a.hh (isList_of (lK.get (.head _))) (by rw [sizeLine_eq]; omega) (fun C v s' h₃ tk₃ m₃ hv hn hm u => tests0 ⟨rfl, _, _, rfl, Up.refl _⟩) ?_ ?_
      · intro C v s' h₃ tk₃ m₃ hv _ hnn hm u
        obtain ⟨n, hn', tn, rfl⟩ := Paired.mem hysR hv
        exact eBin <| nmL (env := compEnvC _ _ C _) hnn hm <| cInt fun _ _ => sub_ fun _ t' => ⟨_, _, rfl, Up.refl _, fun n t e => by cases e; exact ⟨t', rfl⟩⟩
      intro D4 h4 tk4 ys4 n4 hD4 hD4' hP4 u4
      have hys4 := paired_map (R := IntV) (R' := IntV) (fun _ => true) (fun x => x - 1) (by rintro n v ⟨t, rfl⟩; rfl) hysR (by rintro n v y _ ⟨t, rfl⟩ e; exact e _ _ rfl) hP4
      rw [List.filter_eq_self.mpr (fun _ _ => rfl)] at hys4
      have l4 := lK.add u4 hD4 hD4'
      refine items1 <| l4.cx fun T c back => sliceRev_ c (isList_of (l4.get (.tail _ (.head _)))) (by omega) (nmX c (by walk_at "lk") ⟨rfl, rfl⟩) fun D5 h5 tk5 c5 => ?_
      have l5 := back _ _ (_ :: _) c5
      have hwide : IntsAre (slicePick ysR.toList.toArray none none (some (-1))).toList (wideL (bitsL (r : Int))) := (paired_ints hysR).pick none none (some (-1))
      refine items0 <| mkTup_ (by simp) fun T6 h6 hT6 hT6' u6 => ?_
      have l6 := l5.up u6
      refine asgTup2 a.hh ⟨_, hT6', rfl, 0, rfl⟩ fun h7 u7 => ?_
      have l7 := l6.up u7
      refine l7.st6 (by with_unfolding_all rfl) fun h8 tk8 l8 => l8.st7 (by with_unfolding_all rfl) fun h9 tk9 l9 => ?_
      -- told
      have hshort : IntsAre ys4.toList (shortL (bitsL (r : Int))) := paired_ints hys4
      have hsb : ∀ x ∈ shortL (bitsL (r : Int)), 0 ≤ x ∧ x ≤ 6 := by
        intro x hx
        obtain ⟨u, hu, rfl⟩ := List.mem_map.mp hx
        have := fc.bits u hu
        omega
      have hsl : (shortL (bitsL (r : Int))).length ≤ 6 := by unfold shortL; rw [List.length_map]; exact fc.len
      have hg5 : plainGet (hd.heap_39 w.params) 83 "not_equal_witness" = true := by k_is
      have hf5 : findIn (hd.heap_39 w.params) (.ref 83) "not_equal_witness" = some (some (.ref 66)) := by k_is
      have hi5 : isFn (hd.heap_39 w.params) (.ref 66) = true := by k_is
      have hk5 : keepIn (hd.heap_39 w.params) (.ref 66) = true := by k_is
      refine xcons <| xasg <| meth1 ?_
      refine callD (G₀.up l9.keep) (by k_is) (by k_is) <| callD (G₀.up l9.keep) (by k_is) (by k_is) <| l9.nm6 (by with_unfolding_all rfl) ⟨(G₀.up l9.keep).k, lead_spec (G₀.up l9.keep) a (isList_of (l9.get (.tail _ (.head _)))) hshort hsb hsl fun h10 tk10 t10 u10 => ?_⟩
      have l10 := l9.up u10
      refine ⟨(G₀.up l10.keep).k, make_spec (G₀.up l10.keep) a (raw_of fc.raw1).1 (raw_of fc.raw1).2 fun h11 tk11 X u11 W11 => ?_⟩
      have l11 := l10.up u11
      obtain ⟨dx, esX, nX, mA, TX, CX, vX, tbX, tnX, kx1, kx2, e1, e2, at_, e4, e5, e6, hiX, e8, e9, e10, e11⟩ := id W11
      refine gMeth (C := 83) (dx := dx) (G₀.up l11.keep) e1 e2 at_ e11 hg5 hf5 hi5 <| methD1 hk5 ?_
      refine callD (G₀.up l11.keep) (by k_is) (by k_is) <| callD (G₀.up l11.keep) (by k_is) (by k_is) <| l11.nm7 (by with_unfolding_all rfl) ⟨(G₀.up l11.keep).k, lead_spec (G₀.up l11.keep) a (isList_of (l11.get (.head _))) hwide fc.wide fc.wlen fun h12 tk12 t12 u12 => ?_⟩
      have l12 := l11.up u12
      refine ⟨(G₀.up l12.keep).k, make_spec (G₀.up l12.keep) a (raw_of fc.raw2).1 (raw_of fc.raw2).2 fun h13 tk13 Y u13 W13 => ?_⟩
      have l13 := l12.up u13
      have w1 := ws_of fc.ws1
      have w2 := ws_of fc.ws2
      refine ⟨(G₀.up l13.keep).k, wit_spec (p := wsRun (leadS (shortL (bitsL (r : Int))))) (q := wsRun (leadS (wideL (bitsL (r : Int))))) (G₀.up l13.keep) a (W11.up (Up.trans u12 u13)) W13 w1.1 w2.1 w1.2 w2.2 fun h14 tk14 Dt itt nt nx hnx hndx hmt hpt u14 => ?_⟩
      have l14 := l13.adds u14 hnx hndx
      refine l14.stL fun h15 tk15 l15 => ?_
      -- sizes
      have memT : (Dt, listOf itt nt) ∈ nx ++ ((D5, listOf (slicePick ysR.toList.toArray none none (some (-1))) 0) :: (D4, listOf ys4 n4) :: (DR, listOf ysR nR) :: (DW, listOf wsv.toArray 0) :: LS) := List.mem_append_left _ hmt
      have memQ' : (Dr, listOf ysr nr) ∈ nx ++ ((D5, listOf (slicePick ysR.toList.toArray none none (some (-1))) 0) :: (D4, listOf ys4 n4) :: (DR, listOf ysR nR) :: (DW, listOf wsv.toArray 0) :: LS) := List.mem_append_right _ (.tail _ (.tail _ (.tail _ (.tail _ memQ))))
      have mem4 : (D4, listOf ys4 n4) ∈ nx ++ ((D5, listOf (slicePick ysR.toList.toArray none none (some (-1))) 0) :: (D4, listOf ys4 n4) :: (DR, listOf ysR nR) :: (DW, listOf wsv.toArray 0) :: LS) := List.mem_append_right _ (.tail _ (.head _))
      have mem5 : (D5, listOf (slicePick ysR.toList.toArray none none (some (-1))) 0) ∈ nx ++ ((D5, listOf (slicePick ysR.toList.toArray none none (some (-1))) 0) :: (D4, listOf ys4 n4) :: (DR, listOf ysR nR) :: (DW, listOf wsv.toArray 0) :: LS) := List.mem_append_right _ (.head _)
      have memX : ∀ p ∈ nx, p ∈ nx ++ ((D5, listOf (slicePick ysR.toList.toArray none none (some (-1))) 0) :: (D4, listOf ys4 n4) :: (DR, listOf ysR nR) :: (DW, listOf wsv.toArray 0) :: LS) := fun p hp => List.mem_append_left _ hp
      have subL : LS.Sublist (nx ++ ((D5, listOf (slicePick ysR.toList.toArray none none (some (-1))) 0) :: (D4, listOf ys4 n4) :: (DR, listOf ysR nR) :: (DW, listOf wsv.toArray 0) :: LS)) := ((((List.Sublist.refl LS).cons _).cons _).cons _).cons _ |>.trans (List.sublist_append_right _ _)
      generalize nx ++ ((D5, listOf (slicePick ysR.toList.toArray none none (some (-1))) 0) :: (D4, listOf ys4 n4) :: (DR, listOf ysR nR) :: (DW, listOf wsv.toArray 0) :: LS) = LT at l15 memT memQ' mem4 mem5 memX subL
      refine xcons ?_
      refine' compToU_ (cl := [("numbers", L + 4)]) (fun v => match v with | .int n _ => decide (0 < multL (bitsL (r : Int)) n) | _ => false) (fun _ v y => y = v) (fun _ _ _ _ e _ => e) ?qsw ?qclos ?qcell ?qkind ?qnames ?qx h15 ?_
      case qsw => with_unfolding_all rfl
      walk_at "comp"
      refine callT2 (G₀.up l15.keep) n_range b_range <| cInt fun _ _ => cInt fun _ _ => range2_ fun h16 tk16 rr₄ t₄ u₄ v₄ hr₄ u16 => ?_
      have l16 := l15.up u16
      refine (compAtU_range (n := 6) a.hh hr₄ (by omega) (by omega) rfl ?_ ?_ ?_).mono fun it s₂ z => ⟨z.1, Up.trans u16 z.2⟩
      · intro C u tz s' h₃ tk₃ m₃ hu hn hm up
        have hu' := mem_rng hu
        have G₃ := (G₀.up l16.keep).up up
        exact tests1 <| tCmp <| callD2 G₃ (by k_is) (by k_is) <| nmC (c := L + 4) (by with_unfolding_all rfl) (l16.cell4.keeps up) <| nmL (s := St s' h₃ tk₃) (env := compEnvC _ _ C _) hn hm ⟨G₃.k, multiples_spec G₃ a (Heap.IsList.up (isList_of (l16.get memQ')) up) (paired_ints hr) fc.len (by omega) fun h' tk' t' u' => cInt fun _ _ => eGt <| tBool ⟨rfl, _, _, rfl, u'⟩⟩
      · intro C u tz s' h₃ tk₃ m₃ hu _ hn hm up
        exact nmL (s := St s' h₃ tk₃) (env := compEnvC _ _ C _) hn hm ⟨_, _, rfl, Up.refl _, rfl⟩
      intro DS h17 tk17 ysS nS vsS hDS hDS' hvsS hPS u17
      have hysS : Paired IntV (sizesL (bitsL (r : Int))) ysS.toList := by
        have := paired_map (R := IntV) (R' := IntV) (fun n => decide (0 < multL (bitsL (r : Int)) n)) id (by rintro n v ⟨t, rfl⟩; rfl) hvsS (by rintro n v y _ ⟨t, rfl⟩ rfl; exact ⟨t, rfl⟩) hPS
        rwa [List.map_id] at this
      intro C hC ⟨mC, hnC⟩
      have l17 := l16.add u17 hDS hDS'
      refine l17.asgComp l15 hC hnC fun h18 tk18 hns back => ⟨hns.choose, hns.choose_spec, fun h19 hs19 => ?_⟩
      have l19 := back h19 hs19
      show Wp _ _ _ _ (St sN h19 tk18)
      have hszB : ∀ x ∈ sizesL (bitsL (r : Int)), 1 ≤ x ∧ x ≤ 6 := fun x hx => by
        have := mem_rng (List.mem_filter.mp hx).1
        omega
      have hszl : (sizesL (bitsL (r : Int))).length ≤ 6 := Nat.le_trans (List.length_filter_le _ _) (Nat.le_of_eq (rng_length _ _))
      have hSl : ysS.toList.length ≤ 6 := by rw [← hysS.length]; exact hszl
      have toldV : ∀ {hX : Heap} {pX : Array Value} {e1 e2 e3 e4 e5 e6 e7 : Option Value} {mX : Str → Option Value} {LX : List (Addr × Obj)}, Law (h.hide 89) L hX mX pX e1 e2 e3 e4 e5 e6 e7 LX → (∀ p ∈ nx, p ∈ LX) → Paired (TripV hX) (toldL (bitsL (r : Int))) itt.toList :=
        fun lX hm => Paired.mono (fun p v z => by
          obtain ⟨T, ta, tb, tc, k, e, f⟩ := z
          exact ⟨T, ta, tb, tc, k, e, lX.get (hm _ f)⟩) hpt
      have htl : itt.toList.length ≤ 6 := by rw [← hpt.length]; exact fc.tlen
      -- told != ..
      refine xcons ?_
      refine Wp.mono (P := fun f s' => f = .next ∧ ∃ hG tkG, s' = St sN hG tkG ∧ Law (h.hide 89) L hG l19.fr ps₂ (some (.int (b : Int) tb)) (some (.ref Dn)) d3 (some (.ref Dr)) (some (.ref DW)) (some (.ref D4)) (some (.ref D5)) ((DS, listOf ysS nS) :: LT)) ?_ ?_
      · refine xif <| tCmp <| l19.nm (by walk_at "lk") ?_
        refine' comp_ (cl := [("wide", L + 7), ("short", L + 6)]) (fun _ => true) (fun hx v y => ∀ n t, v = .int n t → TripV hx (rowL (bitsL (r : Int)) n) y) (fun h1 h2 v y z tkk n t e => by
          obtain ⟨T, ta, tb, tc, k, e', f⟩ := z n t e
          exact ⟨T, ta, tb, tc, k, e', tkk _ _ _ f⟩) ?qclos ?qcell ?qkind ?qnames ?qx ?_
        walk_at "comp"
        refine l19.nm (by walk_at "lk") <| compAt_list (vs := ysS.toList) a.hh (isList_of (l19.get (.head _))) (by rw [sizeLine_eq]; omega) (fun C v s' h₃ tk₃ m₃ hv hn hm u => tests0 ⟨rfl, _, _, rfl, Up.refl _⟩) ?_ ?_
        · intro C v s' h₃ tk₃ m₃ hv _ hnn hm u
          obtain ⟨n, hn', tn, rfl⟩ := Paired.mem hysS hv
          have hbd := hszB n hn'
          have G₃ := (G₀.up l19.keep).up u
          refine eTup <| items1 <| nmL (env := compEnvC _ _ C _) hnn hm <| items1 <| callD2 G₃ (by k_is) (by k_is) <| nmC (c := L + 6) (by with_unfolding_all rfl) (l19.cell6.keeps u) <| nmL (s := St s' h₃ tk₃) (env := compEnvC _ _ C _) hnn hm ⟨G₃.k, column_spec G₃ a (Heap.IsList.up (isList_of (l19.get (.tail _ mem4))) u) hshort hsb hsl hbd.1 hbd.2 fun h' tk' t' u' => ?_⟩
          have G₄ := G₃.up u'
          refine items1 <| callD2 G₄ (by k_is) (by k_is) <| nmC (c := L + 7) (by with_unfolding_all rfl) ((l19.cell7.keeps u).keeps u') <| nmL (s := St s' h' tk') (env := compEnvC _ _ C _) (hnn.keeps u') hm ⟨G₄.k, column_spec G₄ a (Heap.IsList.up (Heap.IsList.up (isList_of (l19.get (.tail _ mem5))) u) u') hwide fc.wide fc.wlen hbd.1 hbd.2 fun h'' tk'' t'' u'' => items0 <| mkTup_ (by simp) fun TT hTT hT1 hT2 uT => ?_⟩
          refine ⟨_, _, rfl, Up.trans u' (Up.trans u'' uT), fun n t e => ?_⟩
          cases e
          exact ⟨TT, _, _, _, _, rfl, hT2⟩
        intro DZ h20 tk20 ysZ nZ hDZ hDZ' hPZ u20
        have hysZ := paired_map (R := IntV) (R' := TripV h20) (fun _ => true) (rowL (bitsL (r : Int))) (by rintro n v ⟨t, rfl⟩; rfl) hysS (by rintro n v y _ ⟨t, rfl⟩ e; exact e _ _ rfl) hPZ
        rw [List.filter_eq_self.mpr (fun _ _ => rfl)] at hysZ
        have l20 := l19.up u20
        have ht20 := toldV l20 (fun p hp => .tail _ (memX p hp))
        rw [fc.told] at ht20
        refine neTrips_ (by have := a.u; show _ < 9900; omega) (isList_of (l20.get (.tail _ memT))) (isList_of hDZ') ht20 hysZ <| tBool ?_
        simp only [Bool.false_eq_true, if_false]
        exact xnil ⟨rfl, _, _, rfl, l20⟩
      rintro _ _ ⟨rfl, h21, tk21, rfl, l21⟩
      show Wp _ _ _ _ _
      -- head
      refine xcons <| xasg ?_
      refine Wp.mono (P := fun v s' => (∃ t, v = .str (headS (sizesL (bitsL (r : Int))).length) t) ∧ ∃ tk', s' = St sN h21 tk') ?_ ?_
      · refine eIf <| tCmp <| callB (G₀.up l21.keep) n_len b_len <| l21.nm (by walk_at "lk") <| len_ (isList_of (l21.get (.head _))) (by omega) fun _ _ => cInt fun _ _ => eGt <| tBool ?_
        rw [← hysS.length]
        unfold headS
        by_cases hgt : (1 : Int) < (sizesL (bitsL (r : Int))).length
        · simp only [decide_eq_true hgt, if_true, if_pos hgt]
          exact cStr fun _ t' => ⟨⟨t', rfl⟩, _, rfl⟩
        · simp only [decide_eq_false hgt, Bool.false_eq_true, if_false, if_neg hgt]
          exact cStr fun _ t' => ⟨⟨t', rfl⟩, _, rfl⟩
      rintro _ _ ⟨⟨th, rfl⟩, tk22, rfl⟩
      refine l21.stL fun h22 tk23 l22 => ?_
      -- format_witnesses
      refine xcons ?_
      refine Wp.mono (P := fun f s' => f = .next ∧ ∃ sF hG tkG psF, s' = St sF hG tkG ∧ AllBare sF.gens ∧ sF.os = s.os ∧ TriOk psF ∧ Law (h.hide 89) L hG l22.fr psF (some (.int (b : Int) tb)) (some (.ref Dn)) d3 (some (.ref Dr)) (some (.ref DW)) (some (.ref D4)) (some (.ref D5)) ((DS, listOf ysS nS) :: LT)) ?_ ?_
      · refine xif <| tCmp <| callD (G₀.up l22.keep) (by k_is) (by k_is) <| l22.nm (by walk_at "lk") ⟨(G₀.up l22.keep).k, fmt_spec (G₀.up l22.keep) a (tabAt l22.keep l22.tab tri₂) hbN (isList_of (l22.get (.tail _ memT))) (toldV l22 (fun p hp => .tail _ (memX p hp))) (by have := fc.tlen; omega) (fun p hp => by have := fc.first p hp; omega) fun sF h23 tk24 t24 psF hk23 tab23 hbF hosF => ?_⟩
        have l23 := l22.table hk23 tab23.tab.2
        refine eBin <| l23.nm (by walk_at "lk") <| meth1 <| cStr fun _ _ => gJoin <| bi1 ?_
        refine' comp_ (cl := []) (fun _ => true) (fun _ v y => ∀ n t, v = .int n t → StrV (strI n) y) (fun _ _ _ _ e _ => e) ?qclos ?qcell ?qkind ?qnames ?qx ?_
        walk_at "comp"
        refine l23.nm (by walk_at "lk") <| compAt_list (vs := ysS.toList) a.hh (isList_of (l23.get (.head _))) (by rw [sizeLine_eq]; omega) (fun C v s' h₃ tk₃ m₃ hv hn hm u => tests0 ⟨rfl, _, _, rfl, Up.refl _⟩) ?_ ?_
        · intro C v s' h₃ tk₃ m₃ hv _ hnn hm u
          obtain ⟨n, hn', tn, rfl⟩ := Paired.mem hysS hv
          have hbd := hszB n hn'
          have hsm := (str_small n.toNat (by omega)).2
          rw [Int.toNat_of_nonneg (by omega)] at hsm
          exact callT ((G₀.up l23.keep).up u) n_str b_str <| nmL (env := compEnvC _ _ C _) hnn hm <| str_ hsm fun _ t' => ⟨_, _, rfl, Up.refl _, fun n t e => by cases e; exact ⟨t', rfl⟩⟩
        intro DY h24 tk25 ysY nY hDY hDY' hPY u24
        have hysY := paired_map (R := IntV) (R' := StrV) (fun _ => true) strI (by rintro n v ⟨t, rfl⟩; rfl) hysS (by rintro n v y _ ⟨t, rfl⟩ e; exact e _ _ rfl) hPY
        rw [List.filter_eq_self.mpr (fun _ _ => rfl)] at hysY
        have l24 := l23.up u24
        have hJ : ∀ x ∈ (sizesL (bitsL (r : Int))).map strI, x.length ≤ 3 := by
          intro x hx
          obtain ⟨n, hn, rfl⟩ := List.mem_map.mp hx
          have hbd := hszB n hn
          have := (str_small n.toNat (by omega)).1
          rwa [Int.toNat_of_nonneg (by omega)] at this
        have hsum := sum_le hJ
        rw [List.length_map] at hsum
        have hjl := StrLaws.join_length_le ", " ((sizesL (bitsL (r : Int))).map strI)
        rw [List.length_map, show (", " : Str).length = 2 by decide +kernel, ← tjoin] at hjl
        have hhl : (headS (sizesL (bitsL (r : Int))).length).length ≤ 20 := by unfold headS; split <;> decide +kernel
        refine join_ (isList_of hDY') hysY (by rw [List.length_map]; omega) (by decide +kernel) fun _ _ => addS (by omega) fun _ _ => eNeS <| tBool ?_
        rw [fmt_eq fc.told, show ∀ x : Str, (x != x) = false by intro x; simp]
        simp only [Bool.false_eq_true, if_false]
        exact xnil ⟨rfl, sF, _, _, psF, rfl, hbF, hosF.trans hosN, tab23.tri, l24⟩
      rintro _ _ ⟨rfl, sF, h25, tk26, psF, rfl, hbF, hosF, triF, l25⟩
      show Wp _ _ _ _ _
      -- odd
      have told25 := toldV l25 (fun p hp => .tail _ (memX p hp))
      refine xcons ?_
      refine' compToUT_ (cl := []) (fun v => (tripOf h25 v).any oddT) (fun _ v y => ∀ P, tripOf h25 v = some P → IntV P.1 y) (fun _ _ _ _ e _ => e) ?qsw ?qclos ?qcell ?qkind ?qnames a.hh (by decide +kernel) ?qx ?qx2 ?qx3 h25 ?_
      case qsw => with_unfolding_all rfl
      case qx2 => exact rfl
      case qx3 => exact rfl
      walk_at "comp"
      have tripEq : ∀ {T : Addr} {ya yb yc : Value} {k : Nat}, Value.ref T ∈ itt.toList → h25.get? T = some (tupO #[ya, yb, yc] k) → ∃ P ta tb tc, P ∈ toldL (bitsL (r : Int)) ∧ tripOf h25 (.ref T) = some P ∧ ya = .int P.1 ta ∧ yb = .int P.2.1 tb ∧ yc = .int P.2.2 tc := by
        intro T ya yb yc k hv hT
        obtain ⟨P, hP, z⟩ := Paired.mem told25 hv
        obtain ⟨T', ta, tb, tc, k', e, f⟩ := id z
        cases e
        have e2 := congrArg Obj.data (Option.some.inj (hT.symm.trans f))
        simp at e2
        exact ⟨P, ta, tb, tc, hP, z.of, e2.1.1, e2.1.2.1, e2.1.2.2⟩
      refine l25.nm (by walk_at "lk") <| compAtUT_list (vs := itt.toList) a.hh (isList_of (l25.get (.tail _ memT))) (by rw [sizeLine_eq]; omega) ?_ ?_ ?_ ?_
      · intro v hv
        obtain ⟨P, hP, T, ta, tb, tc, k', e, f⟩ := Paired.mem told25 hv
        exact ⟨T, _, _, _, _, e, f⟩
      · rintro C T s' h₃ tk₃ m₃ hv hn ⟨ya, yb, yc, kT, hT, m1, m2, m3⟩ up
        obtain ⟨P, ta, tb, tc, hP, ht, rfl, rfl, rfl⟩ := tripEq hv hT
        have hbd := fc.first P hP
        exact tests1 <| tCmp <| eBin <| eBin <| eBin <| nmL (s := St s' h₃ tk₃) (env := compEnvC _ _ C _) hn m3 <| nmL (s := St s' h₃ tk₃) (env := compEnvC _ _ C _) hn m2 <| sub_ fun tk4 _ => nmL (s := St s' h₃ tk4) (env := compEnvC _ _ C _) hn m1 <| fdiv_ (by omega) (by omega) fun _ _ => cInt fun _ _ => fmod_ (by omega) fun _ _ => cInt fun _ _ => eEq <| tBool ⟨by rw [ht]; rfl, _, _, rfl, Up.refl _⟩
      · rintro C T s' h₃ tk₃ m₃ hv _ hn ⟨ya, yb, yc, kT, hT, m1, m2, m3⟩ up
        obtain ⟨P, ta, tb, tc, hP, ht, rfl, rfl, rfl⟩ := tripEq hv hT
        exact nmL (s := St s' h₃ tk₃) (env := compEnvC _ _ C _) hn m1 ⟨_, _, rfl, Up.refl _, fun P' e => by rw [ht] at e; cases e; exact ⟨ta, rfl⟩⟩
      intro DO h26 tk27 ysO nO hDO hDO' hPO u26
      have hysO : Paired IntV (oddL (bitsL (r : Int))) ysO.toList := paired_map (R := TripV h25) (R' := IntV) oddT (·.1) (fun P v z => by show (tripOf h25 v).any oddT = oddT P; rw [z.of]; rfl) told25 (fun P v y _ z e => e P z.of) hPO
      intro C hC ⟨mC, hnC⟩
      have l26 := l25.add u26 hDO hDO'
      refine l26.asgComp l25 hC hnC fun h27 tk28 hns back => ⟨hns.choose, hns.choose_spec, fun h28 hs28 => ?_⟩
      have l28 := back h28 hs28
      show Wp _ _ _ _ (St sF h28 tk28)
      have hodB : ∀ x ∈ oddL (bitsL (r : Int)), 1 ≤ x ∧ x ≤ 6 := fun x hx => by
        rw [fc.odd] at hx
        exact hszB x (List.mem_filter.mp hx).1
      have hol : ysO.toList.length ≤ 6 := by
        rw [← hysO.length, fc.odd]; exact Nat.le_trans (List.length_filter_le _ _) hszl
      -- text
      refine xcons <| xasg <| callD (G₀.up l28.keep) (by k_is) (by k_is) <| callB (G₀.up l28.keep) n_sum b_sum ?_
      refine' comp_ (cl := [("base", L + 1)]) (fun _ => true) (fun _ v y => ∀ n t, v = .int n t → IntV ((1 : Int) * 2 ^ ((b : Int) + n - 1).toNat) y) (fun _ _ _ _ e _ => e) ?qclos ?qcell ?qkind ?qnames ?qx ?_
      walk_at "comp"
      refine l28.nm (by walk_at "lk") <| compAt_list (vs := ysO.toList) a.hh (isList_of (l28.get (.head _))) (by rw [sizeLine_eq]; omega) (fun C v s' h₃ tk₃ m₃ hv hn hm u => tests0 ⟨rfl, _, _, rfl, Up.refl _⟩) ?_ ?_
      · intro C v s' h₃ tk₃ m₃ hv _ hnn hm u
        obtain ⟨n, hn', tn, rfl⟩ := Paired.mem hysO hv
        have hbd := hodB n hn'
        exact eBin <| cInt fun _ _ => eBin <| eBin <| nmC (c := L + 1) (by with_unfolding_all rfl) (l28.cell1.keeps u) <| nmL (env := compEnvC _ _ C _) hnn hm <| add_ fun _ _ => cInt fun _ _ => sub_ fun _ _ => shl_ (by omega) (by omega) (by decide) fun _ t' => ⟨_, _, rfl, Up.refl _, fun n t e => by cases e; exact ⟨t', rfl⟩⟩
      intro DP h29 tk29 ysP nP hDP hDP' hPP u29
      have hysP := paired_map (R := IntV) (R' := IntV) (fun _ => true) (fun n : Int => (1 : Int) * 2 ^ ((b : Int) + n - 1).toNat) (by rintro n v ⟨t, rfl⟩; rfl) hysO (by rintro n v y _ ⟨t, rfl⟩ e; exact e _ _ rfl) hPP
      rw [List.filter_eq_self.mpr (fun _ _ => rfl)] at hysP
      have l29 := l28.up u29
      refine l29.cx fun T c back => sumL_ a.hh c (isList_of hDP') (paired_ints hysP) fun h30 tk30 t30 c30 => ?_
      have l30 := back _ _ _ c30
      rw [sum_pow hodB]
      refine ⟨(G₀.up l30.keep).k, flags_spec (G₀.up l30.keep) a (flags_bd fc.lt hb27) fun h31 tk31 t31 u31 => ?_⟩
      have l31 := l30.up u31
      refine l31.stL fun h32 tk32 l32 => ?_
      -- numbers
      refine xcons <| xasgC ?_
      refine' comp_ (cl := [("numbers", L + 4)]) (fun v => match v with | .int n _ => Int.fmod (multL (bitsL (r : Int)) n) 2 == 1 | _ => false) (fun _ v y => y = v) (fun _ _ _ _ e _ => e) ?qclos ?qcell ?qkind ?qnames ?qx ?_
      walk_at "comp"
      refine l32.nm (by walk_at "lk") <| compAt_list (vs := ysS.toList) a.hh (isList_of (l32.get (.tail _ (.head _)))) (by rw [sizeLine_eq]; omega) ?_ ?_ ?_
      · intro C v s' h₃ tk₃ m₃ hv hn hm up
        obtain ⟨n, hn', tn, rfl⟩ := Paired.mem hysS hv
        have hbd := hszB n hn'
        have G₃ := (G₀.up l32.keep).up up
        exact tests1 <| tCmp <| eBin <| callD2 G₃ (by k_is) (by k_is) <| nmC (c := L + 4) (by with_unfolding_all rfl) (l32.cell4.keeps up) <| nmL (s := St s' h₃ tk₃) (env := compEnvC _ _ C _) hn hm ⟨G₃.k, multiples_spec G₃ a (Heap.IsList.up (isList_of (l32.get (.tail _ (.tail _ memQ')))) up) (paired_ints hr) fc.len (by omega) fun h' tk' t' u' => cInt fun _ _ => fmod_ (by omega) fun _ _ => cInt fun _ _ => eEq <| tBool ⟨rfl, _, _, rfl, u'⟩⟩
      · intro C v s' h₃ tk₃ m₃ hv _ hn hm up
        exact nmL (s := St s' h₃ tk₃) (env := compEnvC _ _ C _) hn hm ⟨_, _, rfl, Up.refl _, rfl⟩
      intro DN h33 tk33 ysN nN hDN hDN' hPN u33
      have hysN : Paired IntV (nextL (bitsL (r : Int))) ysN.toList := by
        have := paired_map (R := IntV) (R' := IntV) (fun n => Int.fmod (multL (bitsL (r : Int)) n) 2 == 1) id (by rintro n v ⟨t, rfl⟩; rfl) hysS (by rintro n v y _ ⟨t, rfl⟩ rfl; exact ⟨t, rfl⟩) hPN
        rwa [List.map_id] at this
      rw [← fc.next] at hysN
      have l33 := l32.add u33 hDN hDN'
      refine l33.st4 (by with_unfolding_all rfl) fun h34 tk34 l34 => xnil ?_
      have l35 := l34.sub (LS' := (DN, listOf ysN nN) :: LS) (.cons_cons _ ((subL.cons _).cons _))
      subst hLS
      have l36 := l35.sub (LS' := (DN, listOf ysN nN) :: (own₂ ++ (own ++ [(Dn, listOf ysn nnn)]))) (.cons_cons _ ((List.Sublist.refl own₂).append (List.sublist_cons_self _ _)))
      have l37 := l36.perm (LS' := own₂ ++ ((DN, listOf ysN nN) :: (own ++ [(Dn, listOf ysn nnn)]))) List.perm_middle.symm
      obtain ⟨o1, o2, o3, o4, o5, o6, o7, c'', rr''⟩ := l37.out
      exact TurnE.intro ⟨hbF, hosF⟩ c'' ⟨DN, ysN, nN, psF, _, _, _, _, o1, o2, o3, o4, o5, o6, o7, rfl, triF, hysN, ⟨_, by walk_at "lk"⟩, ⟨_, by walk_at "lk"⟩, rr''⟩
    · rintro sN h' tk' m' nx ⟨hbN, hosN⟩ ⟨Dq', ysq', nq', ps₂, d3, d5, d6, d7, o1, o2, o3, o4, o5, o6, o7, rfl, tri₂, hq', ⟨tt, htext⟩, ⟨tf, hfirst⟩, rr'⟩ c'
      have lE : Law _ _ _ _ _ _ _ _ _ _ _ _ ((Dq', listOf ysq' nq') :: (own ++ [(Dn, listOf ysn nnn)])) := ⟨o1, o2, o3, o4, o5, o6, o7, c', rr'⟩
      have e4 : itQ 4 q = q := next_four q hq
      rw [e4] at htext
      refine xnil <| xcons <| xif <| tCmp <| lE.nm htext <| lE.nm hfirst <| eNeS <| tBool ?_
      rw [show (textQ q b != textQ q b) = false by simp]
      simp only [Bool.false_eq_true, if_false]
      refine xnil <| xnil ?_
      obtain ⟨o1, o2, o3, o4, o5, o6, o7, c'', rr''⟩ := (lE.sub (List.sublist_cons_self _ _)).out
      exact TurnE.intro ⟨hbN, hosN⟩ c'' ⟨ps₂, _, _, _, _, _, o1, o2, o3, o4, o5, o6, o7, rfl, tri₂, rr''⟩
  · rintro sM h' tk' m' nx ⟨hbM, hosM⟩ ⟨ps₁, c3, c4, c5, c6, c7, o1, o2, o3, o4, o5, o6, o7, rfl, tri₁, rr⟩ c'
    refine xnil <| xcons <| xret <| cBool ?_
    exact g _ _ _ ps₁ (fun b o hb e => c'.F.keep _ _ (hide_get hb e)) (c'.N.get (.tail _ (.head _))) hbM hosM
end

/-! ## Fin -/
theorem fill13_ (P : Params) : Challenge.rw_pg0178_01.prog = Challenge.rw_pg0178_01.prog ∧ hd.heap_39 P = hd.heap_39 P := by
  k_fill
  exact ⟨rfl, rfl⟩

theorem look94 (P : Params) : ∃ o fd, (hd.heap_39 P).lookup 94 = some o ∧ o.data = .func fd ∧ fd.code = .ref 93 := by
  apply Exists.intro
  apply Exists.intro
  apply And.intro
  · k_is
  · exact ⟨rfl, rfl⟩
theorem look93 (P : Params) : ∃ o vs, (hd.heap_39 P).lookup 93 = some o ∧ o.data = .fields vs ∧ vs.getD 11 .none = .ref 89 := by
  apply Exists.intro
  apply Exists.intro
  apply And.intro
  · k_is
  · exact ⟨rfl, rfl⟩
theorem n94 (P : Params) : nsIn (hd.heap_39 P) mainGlobals "format_witnesses" = some (some (.ref 94)) := by k_is
theorem n129 (P : Params) : nsIn (hd.heap_39 P) mainGlobals "law" = some (some (.ref 129)) := by k_is
theorem has_fmt : (recsOf hd.view_39).any (fun d => d.name == ("format_witnesses" : Str)) = true := by kernel_rfl
theorem ao_caller : Ao callerA 20 := ⟨rfl, by decide +kernel, by decide +kernel, rfl⟩
theorem tab_start {w : World} {loose : List Str} {mean : ExcName → Option Value} {mg mb : Str → Option Value} {h : Heap} (T : Top hd.view_39 loose mean mg mb h) (K : (hd.heap_39 w.params).In h) : TabOk h #[] := by
  obtain ⟨d, hd', hn⟩ := List.any_eq_true.mp has_fmt
  obtain ⟨a, o, fd, c, P, h1, h2, h3, h4, ok, tab⟩ := T.tab d hd'
  rw [eq_of_beq hn, mg_of K T.g (n94 w.params)] at h1
  cases h1
  obtain ⟨o', fd', e1, e2, e3⟩ := look94 w.params
  have e4 := K _ _ e1
  rw [h2] at e4; cases e4
  rw [h3] at e2; cases e2
  rw [h4] at e3; cases e3
  obtain ⟨o3, vs, f1, f2, f3⟩ := look93 w.params
  have f4 := K _ _ f1
  have ok' := ok
  obtain ⟨ox, vx, file, tf, flags, tg, inF, text, tt, op, k1, k2, k3, _⟩ := ok
  rw [k1] at f4; cases f4
  rw [k2] at f2; cases f2
  rw [k3] at f3; cases f3
  exact ⟨ok', tab⟩
theorem goodWG_own {c : ClaimW} {cl : Str → Option Addr} {mean : ExcName → Option Value} {args : List WData} {s₁ s' : Shared} {v : Value} {d : WData} {as : List Addr} (k : OldK s₁.heap s'.heap) (hg : AllBare s'.gens) (hn : ∀ cls, c.raises args cls = false) (hr : ReadsW c.records cl s'.heap v d as)
    (hu : c.unshared = true → as.Nodup ∧ ∀ a ∈ as, s₁.heap.get? a = none) (hp : c.post args d args = true) (hos : s'.os = s₁.os) : GoodWG c cl mean args s₁ (.ok (.ret v)) s' :=
  ⟨.inl ⟨v, d, as, rfl, hn, hr, hp, hu⟩, k, hos, hg⟩
theorem oldK_of {h h' : Heap} {ps : Array Value} (t : h.TableAt 93 89 #[]) (k : ∀ b o, b ≠ 89 → h.get? b = some o → h'.get? b = some o) (e : h'.get? 89 = some (tabO ps)) : OldK h h' := by
  refine ⟨fun b o q => ?_, fun b o q => ?_⟩
  · by_cases hb : b = 89
    · subst hb
      rw [t.2] at q; cases q
      exact .inr (.inl ⟨t.isCodeTable, rfl, #[], ps, rfl, by rw [e]; simp⟩)
    · exact .inl (k b o hb q)
  · by_cases hb : b = 89
    · exact ⟨_, hb ▸ e⟩
    · exact ⟨_, k b o hb q⟩
theorem final : PySem.Challenge.rw_pg0178_01.Holds := hd (by
  k_fill
  intro w s₀ s₁ mg mb G Y fa o pm cd doc dV kV ho hd hcd hD hmg hg args vals as hpre hlay hrd hwl hlo
  have KX := kIn_of Y
  refine Ground.open G ?_
  intro T B D TE TW
  obtain ⟨bm, ob, M⟩ := bmod_of_top T
  have TA := at_of_top T
  obtain ⟨_, _, he, B0⟩ := based_of_top T rfl hmg ho hd
  have he' : cd = _ := he
  subst he'
  clear he
  wrow_args hpre hlay hrd hwl hlo
  first | refine callC_kw (enter_call ?_) | refine enter_call ?_ | refine callC_kw (enter_callW ?_) | refine enter_callW ?_
  have hfa := mg_of KX T.g (n129 w.params)
  have hfa' : fa = 129 := by
    have e : some (Value.ref fa) = some (Value.ref 129) := hmg.symm.trans hfa
    cases e; rfl
  subst hfa'
  have GD : Gd w s₁.heap := ⟨KX, _, _, mg, mb, bm, ob, topRead_of T, T.nodigits, M⟩
  have t₀ := tab_start T KX
  rename_i script _ _ _ _ _ _ _ l vs _ hL _ _ _ hI _ hlen _
  have z := @law_spec w callerA s₁ s₁.heap s₁.toks 12 l vs script #[] (GoodWG Challenge.rw_pg0178_01.row.claim (classAt s₀.heap) (ExcName.means s₀.heap) [ofPy (PyData.list (List.map PyData.int script))] s₁) GD ao_caller t₀ (AllBare.of_eq hg) hL hI (by omega) ?_
  · exact z.h
  · intro s' h' tk' ps' hk e hb hos
    exact goodWG_own (oldK_of t₀.tab hk e) hb (raisesW_false (by wrow_none_raised)) (by w_reads; first | done | fail "a goal is left") (by first | exact unshared_nil | exact fun h => absurd h (by decide)) (postW_of (by wrow_shape) (by wtm_val) (by str_meet; first | done | w_fin)) hos)
end Mine

theorem PySem.Challenge.cw_pg0178_01_holds : PySem.Challenge.rw_pg0178_01.Holds := by
  exact Mine.final
