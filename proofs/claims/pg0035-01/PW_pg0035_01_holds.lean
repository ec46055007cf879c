import PyProof.Rows.All
import Wide.All
import OpenK.AllK
import Wide.FinOn
import PySem.Challenge.RW_pg0035_01
open PySem PySem.W PyProof.Rows
set_option Elab.async false
set_option maxRecDepth 100000
set_option maxHeartbeats 8000000
set_option linter.unusedVariables false

section
namespace Mine
open_top hd for PySem.Challenge.rw_pg0035_01
end Mine
end

section
namespace Mine
/-- what is known between the turns: the objects made and kept (lists), the frame's names, a word -/
def SJ {σ : Type} (Led : σ → List (Addr × Obj)) (ps : σ → List (Str × Value)) (x : Str) (stored : List Str) (m₀ : Str → Option Value) (P : Nat → σ → Prop) (i : Nat) (m : Str → Option Value) (tl : List (Addr × Obj)) : Prop :=
  ∃ c : σ, tl = Led c ∧ (∀ p ∈ ps c, m p.1 = some p.2) ∧ (∀ z, z ≠ x → (∀ p ∈ ps c, z ≠ p.1) → stored.contains z = false → m z = m₀ z) ∧ P i c
/-- what stands behind a turn that goes on -/
def TurnEnd (K : String) (h₀ : Heap) (L : Addr) (J : (Str → Option Value) → List (Addr × Obj) → Prop) (keep : List (Addr × Obj)) (s s₂ : Shared) : Prop :=
  ∃ h' tk m' tl, s₂ = { s with heap := h', toks := tk } ∧ Fr h₀ L h' m' ∧ News h₀ L h' (tl ++ keep) ∧ (∀ p ∈ tl, p.2.cls ≠ .type K) ∧ J m' tl
def TurnPost (K : String) (h₀ : Heap) (L : Addr) (J : (Str → Option Value) → List (Addr × Obj) → Prop) (keep : List (Addr × Obj)) (s : Shared) (Q : Flow → Shared → Prop) (f : Flow) (s₂ : Shared) : Prop :=
  match f with
  | .ret v => Q (.ret v) s₂
  | .brk => Q .next s₂
  | _ => TurnEnd K h₀ L J keep s s₂
theorem TurnEnd.intro {K : String} {σ : Type} {h₀ : Heap} {L : Addr} {Led : σ → List (Addr × Obj)} {ps : σ → List (Str × Value)} {x : Str} {stored : List Str} {m₀ : Str → Option Value} {P : Nat → σ → Prop} {i : Nat} {keep all : List (Addr × Obj)} {s : Shared} {h' : Heap} {tk : Nat} {m' : Str → Option Value}
    (c : σ) (F : Fr h₀ L h' m') (N : News h₀ L h' all) (hs : ∀ p ∈ Led c ++ keep, p ∈ all) (hc : ∀ p ∈ Led c, p.2.cls ≠ .type K)
    (hk : ∀ p ∈ ps c, m' p.1 = some p.2) (hr : ∀ z, z ≠ x → (∀ p ∈ ps c, z ≠ p.1) → stored.contains z = false → m' z = m₀ z) (hp : P i c) :
    TurnEnd K h₀ L (SJ Led ps x stored m₀ P i) keep s { s with heap := h', toks := tk } :=
  ⟨h', tk, m', Led c, rfl, F, fun p hp => N p (hs p hp), hc, c, rfl, hk, hr, hp⟩
section
variable {prog : Program} {w : World} {A : Around} {E : Value → Shared → Prop} {s : Shared} {env : Env} {h₀ : Heap} {x : Str} {body : List Stmt} {Q : Flow → Shared → Prop}
/-- a for over a list of ints of the ledger -/
theorem loopL {σ : Type} {l : Addr} {vs : List Value} {ns : List Int} {nn : Nat} {m₀ : Str → Option Value} {news : List (Addr × Obj)} (Led : σ → List (Addr × Obj)) (ps : σ → List (Str × Value)) (stored : List Str) (P : Nat → σ → Prop) (c₀ : σ)
    (hh : A.handled = none) (hl : (l, listOf vs.toArray nn) ∈ news) (hi : IntsAre vs ns) (F : Fr h₀ env.locals s.heap m₀) (N : News h₀ env.locals s.heap (Led c₀ ++ news)) (hk : ∀ p ∈ ps c₀, m₀ p.1 = some p.2) (hp : P 0 c₀)
    (turn : ∀ (c : σ) i n t (u : Str → Option Value) h tk I oI, ns[i]? = some n → P i c → oI.cls = .type "list_iterator" →
      Fr h₀ env.locals h (fun y => if y = x then some (.int n t) else kstB (fun z => if stored.contains z then u z else m₀ z) (ps c) y) → News h₀ env.locals h (Led c ++ (I, oI) :: news) →
      wpAny (model prog w) A (execs body env) (TurnPost "list_iterator" h₀ env.locals (SJ Led ps x stored m₀ P (i + 1)) ((I, oI) :: news) { s with heap := h, toks := tk } Q) E { s with heap := h, toks := tk })
    (done : ∀ (c : σ) (u : Str → Option Value) h tk, P ns.length c → Fr h₀ env.locals h (fun y => if y = x then u y else kstB (fun z => if stored.contains z then u z else m₀ z) (ps c) y) → News h₀ env.locals h (Led c ++ news) → Q .next { s with heap := h, toks := tk }) :
    wpAny (model prog w) A (pyIter (.ref l)) (fun it s₂ => LoopAtV prog w A h₀ env x body Q E it s₂) E s := by
  have hl' : (l, listOf vs.toArray nn) ∈ Led c₀ ++ news := List.mem_append.mpr (.inr hl)
  have hol : s.heap.get? l = some (listOf vs.toArray nn) := (N _ hl').1
  have hls : s.heap.IsList l vs.toArray := ⟨_, hol, rfl, nn, rfl⟩
  have hne : l ≠ s.heap.objs.size := Nat.ne_of_lt (Heap.lt_size hol)
  refine wpAny_pyIter_list hls ?_
  have W := Walks.list (prog := prog) (w := w) hh s.heap.objs.size l hne vs.toArray
  have hlen : vs.toArray.size = ns.length := by simp [hi.length]
  rw [hlen] at W
  refine ⟨_, _, _, ns.length, _, _, m₀, Led c₀ ++ news, (fun i m nx => ∃ tl, nx = tl ++ news ∧ SJ Led ps x stored m₀ P i m tl), rfl, W, ?_, ?_, ?_, ⟨⟨_, Heap.get?_push_size _ rfl, rfl, rfl⟩, hls.at fun o e => Heap.get?_push_of_some _ e⟩, F.push _, (fun p hp => ⟨Heap.get?_push_of_some _ (N p hp).1, (N p hp).2⟩), ⟨_, rfl, c₀, rfl, hk, fun _ _ _ _ => rfl, hp⟩, ?_, ?_⟩
  · intro hm
    rcases List.mem_cons.mp hm with e | hm
    · exact absurd F.ns.lt (e ▸ Nat.lt_irrefl _)
    · exact (N _ hl').2.1 ((List.mem_singleton.mp hm).symm)
  · intro b hb
    rw [List.mem_singleton.mp hb]
    exact next_is_new F
  · intro p hp hI
    exact absurd (Heap.lt_size (N p hp).1) ((List.mem_singleton.mp hI) ▸ Nat.lt_irrefl _)
  · rintro i v m₁ news₁ s₁ own ⟨hh', tk', rfl⟩ hin hP ⟨_, rfl, c, rfl, h1, h2, hp'⟩ hoff hown hget hfp hst F₁ N₁
    obtain ⟨⟨oI, hoI, hcI, hdI⟩, _⟩ := hst
    have hmem := hfp s.heap.objs.size (List.mem_cons_self ..) (next_is_new F) _ hoI
    have hlt' : i < ns.length := hin
    obtain ⟨t, hx⟩ := hi.get i ns[i] (by simp [hlt'])
    have hv : v = .int ns[i] t := by
      have hP' : vs[i]? = some v := by simpa using hP
      rw [hx] at hP'; exact (Option.some.inj hP').symm
    subst hv
    have hlo : hh'.get? l = some (listOf vs.toArray nn) := (N₁ _ (List.mem_append.mpr (.inr (List.mem_append.mpr (.inr hl))))).1
    have N₂ : News h₀ env.locals hh' (Led c ++ (s.heap.objs.size, oI) :: news) := fun p hp => by
      rcases List.mem_append.mp hp with h | h
      · exact N₁ p (List.mem_append.mpr (.inr (List.mem_append.mpr (.inl h))))
      · rcases List.mem_cons.mp h with rfl | h
        · exact N₁ _ (List.mem_append.mpr (.inl hmem))
        · exact N₁ p (List.mem_append.mpr (.inr (List.mem_append.mpr (.inr h))))
    refine wpAny_mono (turn c i ns[i] t m₁ hh' tk' s.heap.objs.size oI (by simp [hlt']) hp' hcI (kst_fr h1 h2 F₁) N₂) (fun f s₂ p => ?_) fun _ _ e => e
    have fin : TurnEnd "list_iterator" h₀ env.locals (SJ Led ps x stored m₀ P (i + 1)) ((s.heap.objs.size, oI) :: news) { s with heap := hh', toks := tk' } s₂ →
        LoopStepU h₀ env.locals [s.heap.objs.size] own (fun m nx => ∃ tl, nx = tl ++ news ∧ SJ Led ps x stored m₀ P (i + 1) m tl) { s with heap := hh', toks := tk' } .next s₂ := by
      rintro ⟨h', tk, m', tl', e, F', N', hc, hJ'⟩
      have hgI : h'.get? s.heap.objs.size = some oI := (N' _ (List.mem_append.mpr (.inr (List.mem_cons_self ..)))).1
      refine ⟨rfl, h', tk, m', tl' ++ news, e, F', fun p hp => ?_, fun p hp => ?_, tl', rfl, hJ'⟩
      · rcases List.mem_append.mp hp with h | h
        · have h2 : hh'.get? p.1 = some p.2 := hget p h
          rcases List.mem_cons.mp (hown p h) with h1 | h1
          · have h3 : p = (s.heap.objs.size, oI) := by
              rw [h1, hoI] at h2
              exact Prod.ext h1 (Option.some.inj h2).symm
            rw [h3]
            exact N' _ (List.mem_append.mpr (.inr (List.mem_cons_self ..)))
          · have h1 := List.mem_singleton.mp h1
            have h3 : p = (l, listOf vs.toArray nn) := by
              rw [h1, hlo] at h2
              exact Prod.ext h1 (Option.some.inj h2).symm
            rw [h3]
            exact N' _ (List.mem_append.mpr (.inr (List.mem_cons_of_mem _ hl)))
        · rcases List.mem_append.mp h with h | h
          · exact N' p (List.mem_append.mpr (.inl h))
          · exact N' p (List.mem_append.mpr (.inr (List.mem_cons_of_mem _ h)))
      · intro hI
        have hI := List.mem_singleton.mp hI
        rcases List.mem_append.mp hp with h | h
        · have h1 := (N' p (List.mem_append.mpr (.inl h))).1
          rw [hI, hgI] at h1
          have h2 := hc p h
          rw [← Option.some.inj h1] at h2
          exact absurd hcI h2
        · exact absurd (Heap.lt_size (N p (List.mem_append.mpr (.inr h))).1) (by rw [hI]; exact Nat.lt_irrefl _)
    cases f with
    | ret v => exact .ret p
    | brk => exact .brk p
    | next => exact .next (fin p)
    | cont => exact .cont (fin p)
  · rintro h' tk m' news' F' N' _ ⟨_, rfl, c, rfl, h1, h2, hp'⟩
    exact done c m' h' tk hp' (kst_frOut h1 h2 F') N'
/-- a for over a range by ones -/
theorem loopR {σ : Type} {r : Addr} {a₀ b₀ : Int} {t₀ u₀ v₀ : Tok} {n : Nat} {m₀ : Str → Option Value} {news : List (Addr × Obj)} (Led : σ → List (Addr × Obj)) (ps : σ → List (Str × Value)) (stored : List Str) (P : Nat → σ → Prop) (c₀ : σ)
    (hh : A.handled = none) (hr : IsRange s.heap r a₀ b₀ 1 t₀ u₀ v₀) (hsmall : Builtin.Range.small a₀ b₀ 1 = true) (hn : Builtin.Range.rangeSize a₀ b₀ 1 = (n : Int)) (F : Fr h₀ env.locals s.heap m₀) (N : News h₀ env.locals s.heap (Led c₀ ++ news)) (hk : ∀ p ∈ ps c₀, m₀ p.1 = some p.2) (hp : P 0 c₀)
    (turn : ∀ (c : σ) (i : Nat) t (u : Str → Option Value) h tk I oI, i < n → P i c → oI.cls = .type "range_iterator" → (∀ p ∈ Led c₀ ++ news, p.1 < I) →
      Fr h₀ env.locals h (fun y => if y = x then some (.int (a₀ + (i : Int)) t) else kstB (fun z => if stored.contains z then u z else m₀ z) (ps c) y) → News h₀ env.locals h (Led c ++ (I, oI) :: news) →
      wpAny (model prog w) A (execs body env) (TurnPost "range_iterator" h₀ env.locals (SJ Led ps x stored m₀ P (i + 1)) ((I, oI) :: news) { s with heap := h, toks := tk } Q) E { s with heap := h, toks := tk })
    (done : ∀ (c : σ) (u : Str → Option Value) h tk, P n c → Fr h₀ env.locals h (fun y => if y = x then u y else kstB (fun z => if stored.contains z then u z else m₀ z) (ps c) y) → News h₀ env.locals h (Led c ++ news) → Q .next { s with heap := h, toks := tk }) :
    wpAny (model prog w) A (pyIter (.ref r)) (fun it s₂ => LoopAtV prog w A h₀ env x body Q E it s₂) E s := by
  refine wpAny_pyIter_range hr hsmall ?_
  have W : Walks prog w A s.heap.objs.size [s.heap.objs.size] [s.heap.objs.size] n (fun i v => i < n ∧ ∃ t, v = .int (a₀ + i * 1) t)
      (fun i h => IsRangeIter h s.heap.objs.size (a₀ + (i : Nat) * 1) ((n : Int) - (i : Nat)) 1) := (Walks.range hh _ a₀ 1 n).bound
  refine ⟨_, _, _, n, _, _, m₀, Led c₀ ++ news, (fun i m nx => ∃ tl, nx = tl ++ news ∧ SJ Led ps x stored m₀ P i m tl), rfl, W, ?_, ?_, ?_, (by show IsRangeIter _ _ _ _ _; rw [hn]; simpa using Heap.get?_push_size _ rfl), F.push _, (fun p hp => ⟨Heap.get?_push_of_some _ (N p hp).1, (N p hp).2⟩), ⟨_, rfl, c₀, rfl, hk, fun _ _ _ _ => rfl, hp⟩, ?_, ?_⟩
  · intro hm
    exact absurd F.ns.lt ((List.mem_singleton.mp hm) ▸ Nat.lt_irrefl _)
  · intro b hb
    rw [List.mem_singleton.mp hb]
    exact next_is_new F
  · intro p hp hI
    exact absurd (Heap.lt_size (N p hp).1) ((List.mem_singleton.mp hI) ▸ Nat.lt_irrefl _)
  · rintro i v m₁ news₁ s₁ own ⟨hh', tk', rfl⟩ hin ⟨_, t, rfl⟩ ⟨_, rfl, c, rfl, h1, h2, hp'⟩ hoff hown hget hfp hst F₁ N₁
    have e1 : a₀ + (i : Int) * 1 = a₀ + (i : Int) := by omega
    rw [e1] at F₁
    obtain ⟨oI, hoI, hcI⟩ : ∃ oI, hh'.get? s.heap.objs.size = some oI ∧ oI.cls = .type "range_iterator" := ⟨_, hst, rfl⟩
    have hmem := hfp s.heap.objs.size (List.mem_cons_self ..) (next_is_new F) _ hoI
    have N₂ : News h₀ env.locals hh' (Led c ++ (s.heap.objs.size, oI) :: news) := fun p hp => by
      rcases List.mem_append.mp hp with h | h
      · exact N₁ p (List.mem_append.mpr (.inr (List.mem_append.mpr (.inl h))))
      · rcases List.mem_cons.mp h with rfl | h
        · exact N₁ _ (List.mem_append.mpr (.inl hmem))
        · exact N₁ p (List.mem_append.mpr (.inr (List.mem_append.mpr (.inr h))))
    refine wpAny_mono (turn c i t m₁ hh' tk' s.heap.objs.size oI hin hp' hcI (fun p hp => Heap.lt_size (N p hp).1) (kst_fr h1 h2 F₁) N₂) (fun f s₂ p => ?_) fun _ _ e => e
    have fin : TurnEnd "range_iterator" h₀ env.locals (SJ Led ps x stored m₀ P (i + 1)) ((s.heap.objs.size, oI) :: news) { s with heap := hh', toks := tk' } s₂ →
        LoopStepU h₀ env.locals [s.heap.objs.size] own (fun m nx => ∃ tl, nx = tl ++ news ∧ SJ Led ps x stored m₀ P (i + 1) m tl) { s with heap := hh', toks := tk' } .next s₂ := by
      rintro ⟨h', tk, m', tl', e, F', N', hc, hJ'⟩
      have hgI : h'.get? s.heap.objs.size = some oI := (N' _ (List.mem_append.mpr (.inr (List.mem_cons_self ..)))).1
      refine ⟨rfl, h', tk, m', tl' ++ news, e, F', fun p hp => ?_, fun p hp => ?_, tl', rfl, hJ'⟩
      · rcases List.mem_append.mp hp with h | h
        · have h2 : hh'.get? p.1 = some p.2 := hget p h
          have h1 := List.mem_singleton.mp (hown p h)
          have h3 : p = (s.heap.objs.size, oI) := by
            rw [h1, hoI] at h2
            exact Prod.ext h1 (Option.some.inj h2).symm
          rw [h3]
          exact N' _ (List.mem_append.mpr (.inr (List.mem_cons_self ..)))
        · rcases List.mem_append.mp h with h | h
          · exact N' p (List.mem_append.mpr (.inl h))
          · exact N' p (List.mem_append.mpr (.inr (List.mem_cons_of_mem _ h)))
      · intro hI
        have hI := List.mem_singleton.mp hI
        rcases List.mem_append.mp hp with h | h
        · have h1 := (N' p (List.mem_append.mpr (.inl h))).1
          rw [hI, hgI] at h1
          have h2 := hc p h
          rw [← Option.some.inj h1] at h2
          exact absurd hcI h2
        · exact absurd (Heap.lt_size (N p (List.mem_append.mpr (.inr h))).1) (by rw [hI]; exact Nat.lt_irrefl _)
    cases f with
    | ret v => exact .ret p
    | brk => exact .brk p
    | next => exact .next (fin p)
    | cont => exact .cont (fin p)
  · rintro h' tk m' news' F' N' _ ⟨_, rfl, c, rfl, h1, h2, hp'⟩
    exact done c m' h' tk hp' (kst_frOut h1 h2 F') N'
end
end Mine
end

section
namespace Mine
theorem whlIf_split {b : Bool} {T F : Prop} (t : b = true → T) (f : b = false → F) : WhlIf b T F := by
  cases b with
  | true => exact WhlIf.yes rfl (t rfl)
  | false => exact WhlIf.no rfl (f rfl)
/-- the frame and the ledger that c tells -/
def WJ {σ : Type} (Led : σ → List (Addr × Obj)) (ps : σ → List (Str × Value)) (stored : List Str) (m₀ : Str → Option Value) (P : σ → Prop) (h₀ : Heap) (L : Addr) (news : List (Addr × Obj)) (s : Shared) (c : σ) (s₂ : Shared) : Prop :=
  ∃ h' tk m', s₂ = { s with heap := h', toks := tk } ∧ Fr h₀ L h' m' ∧ News h₀ L h' (Led c ++ news) ∧ (∀ p ∈ ps c, m' p.1 = some p.2) ∧ (∀ z, (∀ p ∈ ps c, z ≠ p.1) → stored.contains z = false → m' z = m₀ z) ∧ P c
def WEnd {σ : Type} (Led : σ → List (Addr × Obj)) (ps : σ → List (Str × Value)) (stored : List Str) (m₀ : Str → Option Value) (P : σ → Prop) (mea : σ → Nat) (h₀ : Heap) (L : Addr) (news : List (Addr × Obj)) (s : Shared) (n : Nat) (s₂ : Shared) : Prop :=
  ∃ c, mea c < n ∧ WJ Led ps stored m₀ P h₀ L news s c s₂
def WPost {σ : Type} (Led : σ → List (Addr × Obj)) (ps : σ → List (Str × Value)) (stored : List Str) (m₀ : Str → Option Value) (P : σ → Prop) (mea : σ → Nat) (h₀ : Heap) (L : Addr) (news : List (Addr × Obj)) (s : Shared) (n : Nat) (Q : Flow → Shared → Prop) (f : Flow) (s₂ : Shared) : Prop :=
  match f with
  | .ret v => Q (.ret v) s₂
  | .brk => Q .next s₂
  | _ => WEnd Led ps stored m₀ P mea h₀ L news s n s₂
theorem WEnd.intro {σ : Type} {Led : σ → List (Addr × Obj)} {ps : σ → List (Str × Value)} {stored : List Str} {m₀ : Str → Option Value} {P : σ → Prop} {mea : σ → Nat} {h₀ : Heap} {L : Addr} {news all : List (Addr × Obj)} {s : Shared} {n : Nat} {h' : Heap} {tk : Nat} {m' : Str → Option Value}
    (c : σ) (F : Fr h₀ L h' m') (N : News h₀ L h' all) (hs : ∀ p ∈ Led c ++ news, p ∈ all) (hk : ∀ p ∈ ps c, m' p.1 = some p.2) (hr : ∀ z, (∀ p ∈ ps c, z ≠ p.1) → stored.contains z = false → m' z = m₀ z) (hp : P c) (hm : mea c < n) :
    WEnd Led ps stored m₀ P mea h₀ L news s n { s with heap := h', toks := tk } :=
  ⟨c, hm, h', tk, m', rfl, F, fun p hp => N p (hs p hp), hk, hr, hp⟩
section
variable {prog : Program} {w : World} {A : Around} {E : Value → Shared → Prop} {s : Shared} {env : Env} {h₀ : Heap} {test : PySem.Expr} {body orelse : List Stmt} {Q : Flow → Shared → Prop}
theorem whl_ind {σ : Type} {pos : Pos} {m₀ : Str → Option Value} {news : List (Addr × Obj)} (Led : σ → List (Addr × Obj)) (ps : σ → List (Str × Value)) (stored : List Str) (P : σ → Prop) (mea : σ → Nat) (c₀ : σ)
    (hE : PassesOwn (model prog w) A env E) (F : Fr h₀ env.locals s.heap m₀) (N : News h₀ env.locals s.heap (Led c₀ ++ news)) (hk : ∀ p ∈ ps c₀, m₀ p.1 = some p.2) (hp : P c₀)
    (turn : ∀ (c : σ) (u : Str → Option Value) h tk, P c → Fr h₀ env.locals h (kstB (fun z => if stored.contains z then u z else m₀ z) (ps c)) → News h₀ env.locals h (Led c ++ news) →
      wpAny (model prog w) A (isTrue test env (eval test env)) (fun b s₂ => WhlIf b (wpAny (model prog w) A (execs body env) (WPost Led ps stored m₀ P mea h₀ env.locals news s (mea c) Q) E s₂) (wpAny (model prog w) A (execs orelse env) Q E s₂)) E { s with heap := h, toks := tk }) :
    wpAny (model prog w) A (exec (.While test body orelse pos) env) Q E s := by
  refine whl_start 0 ?_
  have key : ∀ n, ∀ c s₂, mea c < n → WJ Led ps stored m₀ P h₀ env.locals news s c s₂ → ∀ k, WhlRest prog w A E env test body orelse Q k s₂ := by
    intro n
    induction n with
    | zero => intro c s₂ h; exact absurd h (Nat.not_lt_zero _)
    | succ n ih =>
      rintro c s₂ hlt ⟨h', tk, m', rfl, F', N', h1, h2, hp'⟩ k
      have em : kstB (fun z => if stored.contains z then m' z else m₀ z) (ps c) = m' := by
        funext y
        refine kstB_eq h1 fun hn => ?_
        cases h3 : stored.contains y with
        | true => simp
        | false => simp only [Bool.false_eq_true, if_false]; exact (h2 y hn h3).symm
      have T := turn c m' h' tk hp' (em.symm ▸ F') N'
      show WhlRest prog w A E env test body orelse Q 1 _
      refine whl_turn (k := 0) hE (wpAny_mono T (fun b s₂ hb => ?_) fun _ _ e => e)
      cases b with
      | false => exact WhlIf.no rfl (by simpa [WhlIf] using hb)
      | true =>
        refine WhlIf.yes rfl ?_
        have hb' : wpAny (model prog w) A (execs body env) (WPost Led ps stored m₀ P mea h₀ env.locals news s (mea c) Q) E s₂ := by simpa [WhlIf] using hb
        refine wpAny_mono hb' (fun f s₃ hf => ?_) fun _ _ e => e
        cases f with
        | ret v => exact hf
        | brk => exact hf
        | next => obtain ⟨c', hm, hj⟩ := hf; exact ih c' s₃ (Nat.lt_of_lt_of_le hm (Nat.le_of_lt_succ hlt)) hj 0
        | cont => obtain ⟨c', hm, hj⟩ := hf; exact ih c' s₃ (Nat.lt_of_lt_of_le hm (Nat.le_of_lt_succ hlt)) hj 0
  exact key _ c₀ s (Nat.lt_succ_self _) ⟨s.heap, s.toks, m₀, rfl, F, N, hk, fun _ _ _ => rfl, hp⟩ 0
end
end Mine
end

section
open PySem PySem.W PySem.Calls PyProof.Rows
namespace Mine
/-- the walk stops here -/
def Halt (P : Prop) : Prop := P
theorem Halt.out {P : Prop} (h : Halt P) : P := h
/-- a list's iterator at place i -/
abbrev iterO (l : Addr) (i : Nat) : Obj := { cls := .type "list_iterator", data := .fields #[.ref l, .int i 0] }
theorem own_stop (args : List Value) : ownMembersOf (.type "StopIteration") args = #[] := by
  unfold ownMembersOf
  split <;> first | rfl | (rename_i h; revert h; decide) | simp_all
section
variable {prog : Program} {w : World} {A : Around} {E : Value → Shared → Prop} {s : Shared} {h₀ : Heap} {L it l : Addr} {m : Str → Option Value} {news : List (Addr × Obj)} {vs : List Value} {cs : List Int} {nn i : Nat} {c : Int}
theorem next_item {Q : Value → Shared → Prop} (F : Fr h₀ L s.heap m) (N : News h₀ L s.heap ((it, iterO l i) :: news)) (hne : ∀ p ∈ news, p.1 ≠ it) (hl : (l, listOf vs.toArray nn) ∈ news) (hi : IntsAre vs cs) (hx : cs[i]? = some c)
    (h : ∀ t h', Fr h₀ L h' m → News h₀ L h' ((it, iterO l (i + 1)) :: news) → Q (.int c t) { s with heap := h' }) :
    wpAny (model prog w) A (call (.builtin "next") [.ref it]) Q E s := by
  have hm := N (it, iterO l i) (.head _)
  have hit : s.heap.IsListIter it l i := ⟨_, hm.1, rfl, rfl⟩
  have ho := hm.1
  have hol := (N _ (List.mem_cons_of_mem _ hl)).1
  obtain ⟨t, hv⟩ := hi.get i c hx
  have hxv : vs.toArray[i]? = some (Value.int c t) := by simpa using hv
  refine call_function_entry (by decide +kernel) (by decide +kernel) kdk_entry_next (kdk_args_next _) ?_
  unfold Builtin.«next»
  refine wpAny_bind (m := someArgs "next" 1 2 _) (wpAny_of_eq (a := [Value.ref it]) (by first | rfl | kernel_rfl!) ?_)
  dsimp only
  refine wpAny_bind (wpAny_specialOf (name := Str.ofString "__next__") hit.typeIs slot_listiter_next.lookup ?_)
  refine wpAny_ite_split (fun hab => absurd hab (by decide)) (fun _ => ?_)
  refine wpAny_bind (wpAny_callSpecial?_slot (name := Str.ofString "__next__") hit.typeIs slot_listiter_next
    (wpAny_call_entry slot_listiter_next hit.typeIs entry_listiter_next ?_ (args_listiter_next _)))
  show wpAny _ _ (field (.ref it) 0 >>= _) _ _ s
  refine wpAny_bind (wpAny_field ho rfl (x := .ref l) rfl ?_)
  show wpAny _ _ (if (Value.ref l == Value.none) = true then _ else _) _ _ s
  rw [if_neg (show ¬ ((Value.ref l == Value.none) = true) from Bool.false_ne_true)]
  show wpAny _ _ (field (.ref it) 1 >>= _) _ _ s
  refine wpAny_bind (wpAny_field ho rfl (x := .int i 0) rfl ?_)
  show wpAny _ _ (seqItems? (.ref l) >>= _) _ _ s
  refine wpAny_bind (wpAny_seqItems hol rfl ?_)
  simp only [Int.toNat_natCast, hxv]
  refine wpAny_bind (wpAny_setField ho rfl (by simp) (wpAny_pure ⟨_, rfl, wpAny_pure ⟨_, rfl, h t _ (F.change (Heap.SameBut.update ..) hm.2.1 hm.2.2) ?_⟩⟩))
  have hs : Heap.SameBut it s.heap (s.heap.update it (Obj.mapFields (·.setIfInBounds 1 (rawInt ((i : Int) + 1))))) := Heap.SameBut.update ..
  have hg : (s.heap.update it (Obj.mapFields (·.setIfInBounds 1 (rawInt ((i : Int) + 1))))).get? it = some (iterO l (i + 1)) := by
    rw [Heap.get?_update_self _ ho (Obj.isFreed_of_fields (Obj.data_mapFields rfl _))]
    simp [Obj.mapFields, iterO, rawInt]
  exact (show News h₀ L s.heap ([] ++ (it, iterO l i) :: news) from N).setIn (fun _ h => nomatch h) hne hs hg
theorem next_end {Q : Value → Shared → Prop} (hh : A.handled = none) (F : Fr h₀ L s.heap m) (N : News h₀ L s.heap ((it, iterO l i) :: news)) (hne : ∀ p ∈ news, p.1 ≠ it) (hl : (l, listOf vs.toArray nn) ∈ news) (hi : IntsAre vs cs) (hx : cs.length ≤ i)
    (h : ∀ h₁ h' e, Fr h₀ L h₁ m → News h₀ L h₁ news → Heap.NewExc h₁ h' e "StopIteration" → E (.ref e) { s with heap := h' }) :
    wpAny (model prog w) A (call (.builtin "next") [.ref it]) Q E s := by
  have hm := N (it, iterO l i) (.head _)
  have hit : s.heap.IsListIter it l i := ⟨_, hm.1, rfl, rfl⟩
  have ho := hm.1
  have hol := (N _ (List.mem_cons_of_mem _ hl)).1
  have hxv : vs.toArray[i]? = none := by simp [hi.length]; omega
  refine call_function_entry (by decide +kernel) (by decide +kernel) kdk_entry_next (kdk_args_next _) ?_
  unfold Builtin.«next»
  refine wpAny_bind (m := someArgs "next" 1 2 _) (wpAny_of_eq (a := [Value.ref it]) (by first | rfl | kernel_rfl!) ?_)
  dsimp only
  refine wpAny_bind (wpAny_specialOf (name := Str.ofString "__next__") hit.typeIs slot_listiter_next.lookup ?_)
  refine wpAny_ite_split (fun hab => absurd hab (by decide)) (fun _ => ?_)
  refine wpAny_bind (wpAny_callSpecial?_slot (name := Str.ofString "__next__") hit.typeIs slot_listiter_next
    (wpAny_call_entry slot_listiter_next hit.typeIs entry_listiter_next ?_ (args_listiter_next _)))
  show wpAny _ _ (field (.ref it) 0 >>= _) _ _ s
  refine wpAny_bind (wpAny_field ho rfl (x := .ref l) rfl ?_)
  show wpAny _ _ (if (Value.ref l == Value.none) = true then _ else _) _ _ s
  rw [if_neg (show ¬ ((Value.ref l == Value.none) = true) from Bool.false_ne_true)]
  show wpAny _ _ (field (.ref it) 1 >>= _) _ _ s
  refine wpAny_bind (wpAny_field ho rfl (x := .int i 0) rfl ?_)
  show wpAny _ _ (seqItems? (.ref l) >>= _) _ _ s
  refine wpAny_bind (wpAny_seqItems hol rfl ?_)
  simp only [Int.toNat_natCast, hxv]
  refine wpAny_bind (wpAny_rule (wpAny_bind (wpAny_setField ho rfl (by simp) ?_)))
  show wpAny _ _ (newExc (.type "StopIteration") [] >>= _) _ _ _
  refine wpAny_bind ?_
  simp only [newExc, newTuple]
  refine wpAny_bind (wpAny_newObj_type ?_ (by size_fits))
  refine wpAny_bind (m := firstArgMember _ _) (wpAny_of_eq (a := Value.none) (by first | rfl | (simp only [firstArgMember]; rfl)) ?_)
  rw [own_stop]
  refine wpAny_newObj_type ?_ (by size_fits)
  simp only [raiseNew]
  refine wpAny_bind (wpAny_handled ?_)
  first | rw [show A.in1.handled = none from hh] | rw [hh]
  refine wpAny_bind (wpAny_pure (wpAny_throw ?_))
  have hs : Heap.SameBut it s.heap (s.heap.update it (Obj.mapFields (·.setIfInBounds 0 Value.none))) := Heap.SameBut.update ..
  refine h _ _ _ (F.change hs hm.2.1 hm.2.2) ?_ ⟨fun b o hb => Heap.get?_push_of_some _ (Heap.get?_push_of_some _ hb), Heap.get?_none_of_le (by simp), _, _, Heap.get?_push_size _ rfl, rfl, by simp; rfl⟩
  · intro p hp
    have hp' := N p (List.mem_cons_of_mem _ hp)
    exact ⟨(hs.2 p.1 (hne p hp)).trans hp'.1, hp'.2⟩
theorem iter_list {Q : Value → Shared → Prop} (F : Fr h₀ L s.heap m) (N : News h₀ L s.heap news) (hl : (l, listOf vs.toArray nn) ∈ news)
    (h : ∀ I h', Fr h₀ L h' m → News h₀ L h' ((I, iterO l 0) :: news) → (∀ p ∈ news, p.1 < I) → Q (.ref I) { s with heap := h' }) :
    wpAny (model prog w) A (call (.builtin "iter") [.ref l]) Q E s := by
  have hls : s.heap.IsList l vs.toArray := ⟨_, (N _ hl).1, rfl, nn, rfl⟩
  refine call_function_entry (by decide +kernel) (by decide +kernel) kdk_entry_iter (kdk_args_iter _) ?_
  unfold Builtin.«iter»
  refine wpAny_bind (m := someArgs "iter" 1 2 _) (wpAny_of_eq (a := [Value.ref l]) (by first | rfl | kernel_rfl!) ?_)
  show wpAny _ _ (pyIter (.ref l) >>= _) _ _ _
  refine wpAny_bind (wpAny_pyIter_list hls ?_)
  exact wpAny_pure ⟨_, rfl, h _ _ (F.push _) (News.push F N _ rfl) (fun q hq => Heap.lt_size (N q hq).1)⟩
end
end Mine
end

section
namespace Mine
theorem and64_pos {b : Int} (h0 : 64 ≤ b) (h1 : b < 128) : (Builtin.bitAnd b 64 != 0) = true := by
  have h := kbt_bit b 6
  have e : b / 2 ^ 6 = 1 := by omega
  rw [e] at h
  have h' : Builtin.bitAnd b 64 = 64 := h
  rw [h']
  decide
theorem and64_neg {b : Int} (h0 : 0 ≤ b) (h1 : b < 64) : (Builtin.bitAnd b 64 != 0) = false := by
  have h := kbt_bit b 6
  have e : b / 2 ^ 6 = 0 := by omega
  rw [e] at h
  have h' : Builtin.bitAnd b 64 = 0 := h
  rw [h']
  decide
theorem or_low {v d : Int} (hv : 0 ≤ v) (h0 : 0 ≤ d) (h1 : d < 64) : Builtin.bitOr (v * 64) d = v * 64 + d := by
  rw [bitOr_and]
  have hz : Builtin.bitAnd (v * 64) d = 0 := by
    rw [bitAnd_pp (by omega) h0]
    obtain ⟨a, rfl⟩ := Int.eq_ofNat_of_zero_le hv
    obtain ⟨e, rfl⟩ := Int.eq_ofNat_of_zero_le h0
    have he : e < 64 := by omega
    have e1 : ((a : Int) * 64).toNat = a * 64 := by omega
    have e2 : ((e : Nat) : Int).toNat = e := by omega
    rw [e1, e2]
    have e3 : e = 63 &&& e := by
      rw [Nat.and_comm, show (63 : Nat) = 2 ^ 6 - 1 from rfl, Nat.and_two_pow_sub_one_eq_mod]
      omega
    have e4 : (a * 64) &&& 63 = 0 := by
      rw [show (63 : Nat) = 2 ^ 6 - 1 from rfl, Nat.and_two_pow_sub_one_eq_mod]
      omega
    rw [e3, ← Nat.and_assoc, e4, Nat.zero_and]
    rfl
  omega
theorem or_code {v c : Int} (hv : 0 ≤ v) (h0 : 0 ≤ c) : Builtin.bitOr (v * 2 ^ (6 : Int).toNat) (Builtin.bitAnd c 63) = v * 64 + c % 64 := by
  rw [bitAnd_m6]
  exact or_low hv (by omega) (by omega)
theorem bits_le {v : Int} {k : Nat} (h0 : 0 ≤ v) (h1 : v < 64 ^ k) (hk : k ≤ 1000) : (Builtin.Int.intBits v : Int) + 6 ≤ 2 ^ 27 := by
  have h2 : Builtin.Int.intBits v ≤ 6 * k := by
    unfold Builtin.Int.intBits
    split
    · omega
    · rename_i hz
      have hz' : v ≠ 0 := by simpa using hz
      have hn : v.natAbs ≠ 0 := by omega
      have : v.natAbs.log2 < 6 * k := by
        rw [Nat.log2_lt hn, Nat.pow_mul]
        have : ((v.natAbs : Nat) : Int) < ((2 ^ 6) ^ k : Nat) := by
          rw [Int.natAbs_of_nonneg h0]
          simpa using h1
        exact_mod_cast this
      omega
  omega
end Mine
end

section
namespace Mine
local macro_rules | `(tactic| walk_at "call builtin:next") => `(tactic| (k_here; (with_reducible show wpAny _ _ (call (Value.builtin "next") [Value.ref _]) _ _ _); k_dflt (refine' next_item ?F ?N ?hne ?hl ?hi ?hx ?_; (case F => k_asm); (case N => k_asm); (case hne => k_asm); (case hl => k_asm); (case hi => k_asm); (case hx => k_asm)); intro t9 h9 F9 N9))
local macro_rules | `(tactic| walk_at "inplaceOp LShift int int") => `(tactic| (k_here; k_dflt (refine' ilshift_int ?ha ?hb ?_; (case ha => decide); (case hb => k_asm))))
local macro_rules | `(tactic| walk_at "WPost") => `(tactic| (dsimp only [WPost]))
local macro_rules | `(tactic| walk_at "WhlIf") => `(tactic| (first | (refine WhlIf.yes rfl ?_) | (refine WhlIf.no rfl ?_) | (refine WhlIf.yes (by assumption) ?_) | (refine WhlIf.no (by assumption) ?_)))
local macro_rules | `(tactic| walk_at "exec While") => `(tactic| ((with_reducible show wpAny _ _ (exec (Stmt.While _ _ _ _) _) _ _ _); refine Halt.out ?_))
local macro_rules | `(tactic| walk_at "exec") => `(tactic| ((with_reducible show wpAny _ _ (exec (Stmt.While _ _ _ _) _) _ _ _); refine Halt.out ?_))

/-- what _parse_varint reads: the number and what is left -/
noncomputable def decI : Int → List Int → Option (Int × List Int)
  | _, [] => none
  | v, c :: r => if 64 ≤ c then decI (v * 64 + (c - 64)) r else some (v * 64 + c, r)
theorem dec_step {v c n : Int} {r rest : List Int} (h0 : 0 ≤ c) (h1 : c < 128) (h : decI v (c :: r) = some (n, rest)) :
    if 64 ≤ c then decI (v * 64 + c % 64) r = some (n, rest) else v * 64 + c % 64 = n ∧ r = rest := by
  rw [decI] at h
  by_cases hc : 64 ≤ c
  · rw [if_pos hc] at h ⊢
    rw [show c % 64 = c - 64 by omega]
    exact h
  · rw [if_neg hc] at h ⊢
    rw [show c % 64 = c by omega]
    have h2 := Option.some.inj h
    exact ⟨congrArg Prod.fst h2, congrArg Prod.snd h2⟩
theorem drop_next {cs r : List Int} {i : Nat} {c : Int} (h : cs.drop i = c :: r) : cs.drop (i + 1) = r ∧ cs[i]? = some c ∧ i + 1 ≤ cs.length := by
  refine ⟨?_, ?_, ?_⟩
  · rw [← List.drop_drop, h]; rfl
  · have := congrArg (fun l => l[0]?) h
    simpa using this
  · have := congrArg List.length h
    simp only [List.length_drop, List.length_cons] at this
    omega
theorem pow_step {v d : Int} {j : Nat} (h1 : v < 64 ^ j) (hd : d < 64) : v * 64 + d < 64 ^ (j + 1) := by
  rw [Int.pow_succ]
  omega

theorem c_varint {w : World} {mean : ExcName → Option Value} {mg mb : Str → Option Value} {dp un : Nat} {gd : Option (List Code)} {cn : Str} {sc : Scope} {a : Addr} {ccd : Value} {cl : List (Str × Addr)} {outer : List Env} {A₀ : Around} {base h₀ : Heap} {L : Addr} {m : Str → Option Value} {news : List (Addr × Obj)} {s : Shared} {it l : Addr} {vs : List Value} {cs : List Int} {nn i : Nat} {n : Int} {rest : List Int} {Q E : Value → Shared → Prop}
  (B : Below A₀ base outer h₀) (F : Fr h₀ L s.heap m) (X : (hd.heap_39 w.params).In h₀) (N : News h₀ L s.heap ((it, iterO l i) :: news)) (T : Top hd.view_39 (looseW hd.view_39 []) mean mg mb h₀) (hk : sc.kind = .function)
  (hne : ∀ p ∈ news, p.1 ≠ it) (hl : (l, listOf vs.toArray nn) ∈ news) (hi : IntsAre vs cs) (hlen : cs.length ≤ 100) (hb : ∀ c ∈ cs, 0 ≤ c ∧ c < 128) (hdec : decI 0 (cs.drop i) = some (n, rest)) (hd : dp + 1 < recursionLimit) (hu : un + 100 < cLine)
  (hret : ∀ j t h' tk', cs.drop j = rest → Fr h₀ L h' m → News h₀ L h' ((it, iterO l j) :: news) → Q (.int n t) {s with heap := h', toks := tk'}) :
  wpAny (model PySem.Challenge.rw_pg0035_01.row.prog w) (ktrTop dp un gd cn sc L a ccd cl outer) (call (.ref 21) [.ref it]) Q E s := by
  w_top off
  revert X
  k_fill
  intro X
  obtain ⟨c, r, hdr⟩ : ∃ c r, cs.drop i = c :: r := by
    cases hd : cs.drop i with
    | nil => rw [hd] at hdec; cases hdec
    | cons c r => exact ⟨c, r, rfl⟩
  obtain ⟨hdr1, hci, hle⟩ := drop_next hdr
  have hcb := hb c (List.mem_of_getElem? hci)
  rw [hdr] at hdec
  have hstep := dec_step hcb.1 hcb.2 hdec
  rw [← hdr1] at hstep
  refine wpAny_call ?_
  k_dflt cell_enter
  k_steps
  unfold Halt
  rename Fr _ _ _ _ => F1
  rename News _ _ _ _ => N1
  refine' whl_ind (news := news) (σ := Nat × Int × Tok × Int × Tok) (fun c => [(it, iterO l c.1)]) (fun c => [("b", .int c.2.1 c.2.2.1), ("val", .int c.2.2.2.1 c.2.2.2.2)]) []
    (fun c => c.1 ≤ cs.length ∧ 0 ≤ c.2.1 ∧ c.2.1 < 128 ∧ 0 ≤ c.2.2.2.1 ∧ c.2.2.2.1 < 64 ^ c.1 ∧ (if 64 ≤ c.2.1 then decI c.2.2.2.1 (cs.drop c.1) = some (n, rest) else c.2.2.2.1 = n ∧ cs.drop c.1 = rest)) (fun c => cs.length - c.1) (i + 1, c, ?T1, Builtin.bitAnd c 63, ?T2) (by with_unfolding_all passes_own) F1 N1 ?hk ?hp ?turn
  case hk => kst_all
  case hp =>
    dsimp only
    rw [bitAnd_m6]
    refine ⟨hle, hcb.1, hcb.2, by omega, ?_, ?_⟩
    · have := pow_step (v := 0) (d := c % 64) (j := i) (Int.pow_pos (by decide)) (by omega)
      simpa using this
    · simpa using hstep
  case turn =>
    rintro ⟨j, b, tb, v, tv⟩ u h tk ⟨hj, hb0, hb1, hv0, hv1, hd⟩ F2 N2
    dsimp only [kstB] at F2 N2 hj hb0 hb1 hv0 hv1 hd
    simp only [List.cons_append, List.nil_append] at N2
    by_cases hbig : 64 ≤ b
    · rw [if_pos hbig] at hd
      obtain ⟨c2, r2, hdr2⟩ : ∃ c r, cs.drop j = c :: r := by
        cases hd2 : cs.drop j with
        | nil => rw [hd2] at hd; cases hd
        | cons c r => exact ⟨c, r, rfl⟩
      obtain ⟨hdr3, hcj, hle2⟩ := drop_next hdr2
      have hcb2 := hb c2 (List.mem_of_getElem? hcj)
      rw [hdr2] at hd
      have hstep2 := dec_step hcb2.1 hcb2.2 hd
      rw [← hdr3] at hstep2
      have hgo := and64_pos hbig hb1
      have hbits := bits_le hv0 hv1 (by omega)
      k_steps
      refine' WEnd.intro (j + 1, c2, ?T3, Builtin.bitOr (v * 2 ^ (6 : Int).toNat) (Builtin.bitAnd c2 63), ?T4) ?F1 ?N1 ?hs1 ?hk1 ?hr1 ?hp1 ?hm1
      case F1 => k_asm
      case hk1 => kst_all
      case hp1 =>
        dsimp only
        rw [or_code hv0 hcb2.1]
        exact ⟨hle2, hcb2.1, hcb2.2, by omega, pow_step hv1 (by omega), hstep2⟩
      case N1 => k_asm
      case hs1 => kst_inAny
      case hr1 => (intro z h1 h3; (simp only [List.forall_mem_cons, List.not_mem_nil, false_implies, implies_true, and_true, ne_eq] at h1); (simp [h1]; done))
      case hm1 => dsimp only; omega
    · rw [if_neg hbig] at hd
      obtain ⟨rfl, hrest⟩ := hd
      have hgo := and64_neg hb0 (by omega)
      k_steps
      exact hret _ _ _ _ hrest (by k_asm) (by k_asm)
end Mine
end

section
namespace Mine

local macro_rules | `(tactic| walk_at "call builtin:next") => `(tactic| (k_here; (with_reducible show wpAny _ _ (call (Value.builtin "next") [Value.ref _]) _ _ _); k_dflt (refine' next_end ?hh ?F ?N ?hne ?hl ?hi ?hx ?_; (case hh => rfl); (case F => k_asm); (case N => k_asm); (case hne => k_asm); (case hl => k_asm); (case hi => k_asm); (case hx => k_asm)); intro h8 h9 e9 F9 N9 X9; refine Halt.out ?_))

theorem c_varint_end {w : World} {mean : ExcName → Option Value} {mg mb : Str → Option Value} {dp un : Nat} {gd : Option (List Code)} {cn : Str} {sc : Scope} {a : Addr} {ccd : Value} {cl : List (Str × Addr)} {outer : List Env} {A₀ : Around} {base h₀ : Heap} {L : Addr} {m : Str → Option Value} {news : List (Addr × Obj)} {s : Shared} {it l : Addr} {vs : List Value} {cs : List Int} {nn i : Nat} {Q E : Value → Shared → Prop}
  (B : Below A₀ base outer h₀) (F : Fr h₀ L s.heap m) (X : (hd.heap_39 w.params).In h₀) (N : News h₀ L s.heap ((it, iterO l i) :: news)) (T : Top hd.view_39 (looseW hd.view_39 []) mean mg mb h₀) (hk : sc.kind = .function)
  (hne : ∀ p ∈ news, p.1 ≠ it) (hl : (l, listOf vs.toArray nn) ∈ news) (hi : IntsAre vs cs) (hend : cs.length ≤ i) (hd : dp + 1 < recursionLimit) (hu : un + 100 < cLine)
  (hraise : ∀ G h' e tk', Fr h₀ L G m → RaisedSN base G (envX cn sc L a ccd cl :: outer) e (.type "StopIteration") news h' → G.UpToSlots h' → E (.ref e) {s with heap := h', toks := tk'}) :
  wpAny (model PySem.Challenge.rw_pg0035_01.row.prog w) (ktrTop dp un gd cn sc L a ccd cl outer) (call (.ref 21) [.ref it]) Q E s := by
  w_top off
  revert X
  k_fill
  intro X
  refine wpAny_call ?_
  k_dflt cell_enter
  k_steps
  unfold Halt
  rename Heap.NewExc _ _ _ _ => X9
  rename Below _ _ (_ :: _) _ => B9
  rename Fr _ _ _ _ => F9
  rename News _ _ _ _ => N9
  rename Fr h₀ L _ m => FG9
  refine leave_newS B9 X9 F9 N9 (fun h7 R7 _ U7 => ?_)
  exact hraise _ h7 _ _ FG9 R7 U7
end Mine
end

section
open PySem PySem.W PySem.Calls PyProof.Rows
namespace Mine
theorem ints_of_paired {f : Value → Value → Prop} : ∀ {vs ys : List Value} {cs : List Nat}, vs.length = cs.length → (∀ (j : Nat) v, vs[j]? = some v → ∃ c u, cs[j]? = some c ∧ v = .str ⟨#[c]⟩ u) →
    Paired (fun v r => ∃ c u t, v = Value.str ⟨#[c]⟩ u ∧ r = Value.int (c : Int) t) vs ys → IntsAre ys (cs.map fun c => ((c : Nat) : Int)) := by
  intro vs ys cs hl hP hF
  induction hF generalizing cs with
  | nil =>
    cases cs with
    | nil => exact .nil
    | cons _ _ => cases hl
  | @cons v r vs ys hr _ ih =>
    cases cs with
    | nil => cases hl
    | cons c cs =>
      obtain ⟨c', u', h1, h2⟩ := hP 0 v rfl
      simp only [List.getElem?_cons_zero, Option.some.injEq] at h1
      subst h1
      obtain ⟨c2, u2, t2, h3, h4⟩ := hr
      rw [h2] at h3
      have h5 : c = c2 := by
        have := (Value.str.inj h3).1
        have := congrArg Str.cps this
        simpa using this
      subst h5
      subst h4
      exact .cons _ _ (ih (by simpa using hl) fun j w hw => by simpa using hP (j + 1) w (by simpa using hw))
section
variable {prog : Program} {w : World} {A : Around} {E : Value → Shared → Prop} {s : Shared} {h₀ : Heap} {L : Addr} {m : Str → Option Value} {news : List (Addr × Obj)} {env : Env}
theorem comp_signs {elt iter : Expr} {x : Str} {px : Pos} {scope : Scope} {pos : Pos} {Q : Value → Shared → Prop} {y : Str} {t : Tok}
    (hh : A.handled = none) (hfree : ∀ y ∈ scope.names, y.2 ≠ .free) (hcell : ∀ y ∈ scope.names, y.2 ≠ .cell) (hkind : scope.kind = .function)
    (hnames : ∀ y ∈ scope.names, y.2 = .local → scope.names.lookup y.1 = some .local) (hx : scope.names.lookup x = some .local)
    (F : Fr h₀ L s.heap m) (N : News h₀ L s.heap news) (hsz : y.length ≤ sizeLine)
    (hsrc : wpAny (model prog w) A (eval iter env) (fun xv s₁ => xv = .str y t ∧ s₁ = s) E s)
    (helt : ∀ C c u s₂ m₂ E', c ∈ y.cps.toList → s₂.heap.Ns C m₂ → m₂ x = some (.str ⟨#[c]⟩ u) → (∀ b o, h₀.get? b = some o → s₂.heap.get? b = some o) → wpAny (model prog w) A (eval elt (compEnv scope C env)) (fun r s₃ => (∃ t, r = .int (c : Int) t) ∧ Keeps s₂ s₃) E' s₂)
    (h : ∀ D ys nn h' tk, Fr h₀ L h' m → News h₀ L h' ((D, listOf (List.toArray ys) nn) :: news) → (∀ p ∈ news, p.1 ≠ D) → IntsAre ys (y.cps.toList.map fun c => ((c : Nat) : Int)) → Q (.ref D) { s with heap := h', toks := tk })
    (hs : ∀ x, foldedSetIterable iter env x = pure x := by intro _; rfl) :
    wpAny (model prog w) A (eval (.ListComp elt [⟨.Name x px, iter, [], 0⟩] scope pos) env) Q E s := by
  refine wpAny_ListComp_walk (fun _ => true) (fun v r => ∃ c u t, v = Value.str ⟨#[c]⟩ u ∧ r = Value.int (c : Int) t) hfree hcell hkind hnames hx
    (wpAny_mono hsrc (fun xv s₁ h₁ => ?_) fun _ _ e => e) hs
  obtain ⟨rfl, rfl⟩ := h₁
  refine wpAny_pyIter_str fun o St W hst => ?_
  have up : ∀ (h' : Heap), (∀ b o', b ∉ [s₁.heap.objs.size] → (s₁.heap.push o).get? b = some o' → h'.get? b = some o') → ∀ b o', s₁.heap.get? b = some o' → h'.get? b = some o' :=
    fun h' hk b o' e => hk b o' (old_not_new e) (Heap.get?_push_of_some _ e)
  refine ⟨s₁.heap.objs.size, [s₁.heap.objs.size], [s₁.heap.objs.size], y.cps.size, SignAt y, St, rfl, W A hh, hsz, hst, ?_, ⟨?_, ?_⟩, ?_⟩
  · intro b hb
    show b < (s₁.heap.push o).objs.size
    rw [Heap.size_push, List.mem_singleton.mp hb]
    exact Nat.lt_succ_self _
  · intro C i v s₃ m₃ E' hP hn hm _ _
    exact wpAny_pure ⟨rfl, s₃.heap, s₃.toks, rfl, fun _ _ e => e⟩
  · intro C i v s₃ m₃ E' hP hp hn hm hk _
    obtain ⟨c, u, hc, rfl⟩ := hP
    refine wpAny_mono (helt C c u s₃ m₃ E' ?_ hn hm fun b o' e => up s₃.heap hk b o' (F.keep b o' e)) (fun r s₄ h₄ => ?_) fun _ _ e => e
    · rw [← Array.getElem?_toList] at hc
      exact List.mem_of_getElem? hc
    · obtain ⟨⟨t', rfl⟩, hK⟩ := h₄
      exact ⟨⟨c, u, t', rfl, rfl⟩, hK⟩
  · intro D h' tk ys vs hnew hlD hplD hlen hP hF hk
    obtain ⟨nn, hD⟩ := hplD
    have hff : vs.filter (fun _ => true) = vs := List.filter_eq_self.mpr fun _ _ => rfl
    rw [hff] at hF
    have hne : ∀ p ∈ news, p.1 ≠ D := fun p hp e => by
      rw [← e, Heap.get?_push_of_some _ (N p hp).1] at hnew; cases hnew
    have hD₀ : h₀.get? D = none := by
      cases e : h₀.get? D with
      | none => rfl
      | some o' => rw [Heap.get?_push_of_some _ (F.keep _ _ e)] at hnew; cases hnew
    have hDL : D ≠ L := by
      rintro rfl
      obtain ⟨oL, _, _, hL, _⟩ := F.ns
      rw [Heap.get?_push_of_some _ hL] at hnew; cases hnew
    refine h D ys.toList nn h' tk (F.keeps (up h' hk)) ?_ hne ?_
    · intro p hp
      rcases List.mem_cons.mp hp with rfl | hp
      · exact ⟨by rw [Array.toArray_toList]; exact hD, hDL, hD₀⟩
      · exact (N.grown (up h' hk)) p hp
    · refine ints_of_paired (f := fun _ _ => True) (cs := y.cps.toList) (by simpa using hlen) (fun j v hv => ?_) hF
      obtain ⟨c, u, hc, e⟩ := hP j v hv
      exact ⟨c, u, by rw [Array.getElem?_toList]; exact hc, e⟩
/-- ord of the sign, in the comprehension's own frame -/
theorem elt_ord {K : Frag} {p : Program} {loose : List Str} {mg mb : Str → Option Value} {C : Addr} {c : Nat} {u : Tok} {m₂ : Str → Option Value} {scope : Scope} {np ap pos : Pos}
    (hkind : scope.kind = .function) (hg : env.globals = mainGlobals) (hb : env.builtins = builtinsNs) (hK : K.In h₀) (T : TopRead p loose mg mb h₀) (e : nsIn K mainGlobals (Str.ofString "ord") = some none)
    (hn : s.heap.Ns C m₂) (hm : m₂ (Str.ofString "sign") = some (.str ⟨#[c]⟩ u)) (hk : ∀ b o, h₀.get? b = some o → s.heap.get? b = some o)
    (hxo : (compEnv scope C env).kindOf (Str.ofString "ord") = some .globalImplicit) (hxs : (compEnv scope C env).kindOf (Str.ofString "sign") = some .local) :
    wpAny (model prog w) A (eval (.Call (.Name (Str.ofString "ord") np) [.Name (Str.ofString "sign") ap] [] pos) (compEnv scope C env)) (fun r s₃ => (∃ t, r = .int (c : Int) t) ∧ Keeps s s₃) E s := by
  have hg' : s.heap.Ns (compEnv scope C env).globals mg := by
    show s.heap.Ns env.globals mg
    rw [hg]; exact T.g.keeps hk
  have hb' : s.heap.Ns (compEnv scope C env).builtins mb := by
    show s.heap.Ns env.builtins mb
    rw [hb]; exact T.b.keeps hk
  refine Call_Name1 (Name_function_global hkind hxo (loadGlobal_builtin hg' (mg_none_of hK T.g e) hb' ((T.builtins _ (by decide)).trans PyProof.Rows.Boot.«ord») ?_))
  refine PySem.callWith_builtin1 (wpAny_Name (wpAny_loadName_local hkind hxs hn hm ?_))
  refine ord_of_one rfl ?_
  exact ⟨⟨_, rfl⟩, s.heap, _, rfl, fun _ _ e => e⟩
end
end Mine
end

section
namespace Mine

/-- the codes are read as these numbers, to their end -/
noncomputable def readsTo : List Int → List Int → Prop
  | cs, [] => cs = []
  | cs, n :: r => ∃ rest, decI 0 cs = some (n, rest) ∧ readsTo rest r
theorem dec_len : ∀ {cs : List Int} {v n : Int} {rest : List Int}, decI v cs = some (n, rest) → rest.length < cs.length
  | [], _, _, _, h => by cases h
  | c :: r, v, n, rest, h => by
    rw [decI] at h
    split at h
    · have := dec_len h
      simp only [List.length_cons]
      omega
    · cases h
      simp
theorem reads_len : ∀ {ws cs : List Int}, readsTo cs ws → ws.length ≤ cs.length
  | [], _, _ => Nat.zero_le _
  | n :: r, cs, ⟨rest, h1, h2⟩ => by
    have := dec_len h1
    have := reads_len h2
    simp only [List.length_cons]
    omega
theorem append_two {prog : Program} {w : World} {A : Around} {E : Value → Shared → Prop} {s : Shared} {h₀ : Heap} {L D : Addr} {q : Addr × Obj} {m : Str → Option Value} {news : List (Addr × Obj)} {vs : List Value} {nn : Nat} {x : Value} {Q : Value → Shared → Prop}
    (F : Fr h₀ L s.heap m) (N : News h₀ L s.heap (q :: (D, listOf vs.toArray nn) :: news)) (h0 : q.1 ≠ D) (h1 : ∀ p ∈ news, p.1 ≠ D) (hz : vs.length ≤ sizeLine)
    (h : ∀ h', Fr h₀ L h' m → News h₀ L h' (q :: (D, listOf (vs ++ [x]).toArray (nn + 1)) :: news) → Q .none { s with heap := h' }) : wpAny (model prog w) A (call (.builtin "list.append") [.ref D, x]) Q E s := by
  have e : vs.toArray.push x = (vs ++ [x]).toArray := by simp
  refine append_K F N (.tail h0 (.head h1)) (fun h' F' N' => h h' F' ?_) (by simpa using hz)
  rw [← e]
  exact N'
theorem ints_snoc {n : Int} {t : Tok} : ∀ {vs : List Value} {ns : List Int}, IntsAre vs ns → IntsAre (vs ++ [.int n t]) (ns ++ [n])
  | _, _, .nil => .cons n t .nil
  | _, _, .cons z u r => .cons z u (ints_snoc r)
theorem stop_isExc : isSubtype (.type "StopIteration") (.type "BaseException") = pure true := owsi_raise.isExc
theorem stop_notTuple : isSubtype (.type ((Manifest.find? "StopIteration").elim "type" fun x => x.metatype)) (.type "tuple") = pure false := by rw [isSubtype_type]; kernel_rfl
local macro_rules | `(tactic| walk_at "eval ListComp") => `(tactic| k_extra "mine comp")
local macro_rules | `(tactic| walk_at "call builtin:iter") => `(tactic| k_extra "mine iter")
local macro_rules | `(tactic| walk_at "pyIter ref") => `(tactic| ((with_reducible show wpAny _ _ (pyIter (Value.ref _)) _ _ _); refine Halt.out ?_))
local macro_rules | `(tactic| walk_at "call ref") => `(tactic| (k_here; (with_reducible show wpAny _ _ (call (Value.ref 21) [Value.ref _]) _ _ _); k_dflt (refine' c_varint_end ?k1 ?k2 ?k3 ?k4 ?k5 ?kK ?hne ?hl ?hi ?hend ?kd ?ku ?_; (case k1 => k_asm); (case k2 => k_asm); (case k3 => k_asm); (case k4 => k_asm); (case k5 => k_asm); (case kK => first | exact rfl | assumption); (case hne => k_asm); (case hl => k_mem); (case hi => k_asm); (case hend => k_asm); (case kd => ktr_room); (case ku => ktr_units)); intro G9 h9 e9 tk9 FG9 R9 U9; refine Halt.out ?_))
local macro_rules | `(tactic| walk_at "call ref") => `(tactic| (k_here; (with_reducible show wpAny _ _ (call (Value.ref 21) [Value.ref _]) _ _ _); k_dflt (refine' c_varint ?k1 ?k2 ?k3 ?k4 ?k5 ?kK ?hne ?hl ?hi ?hlen ?hb ?hdec ?kd ?ku ?_; (case k1 => k_asm); (case k2 => k_asm); (case k3 => k_asm); (case k4 => k_asm); (case k5 => k_asm); (case kK => first | exact rfl | assumption); (case hne => k_asm); (case hl => k_mem); (case hi => k_asm); (case hdec => k_asm); (case hlen => k_asm); (case hb => k_asm); (case kd => ktr_room); (case ku => ktr_units)); intro j9 t9 h9 tk9 hj9 F9 N9; (try dsimp only); (try k_fold)))
local macro_rules | `(tactic| walk_at "call builtin:list.append") => `(tactic| (k_here; (with_reducible show wpAny _ _ (call (Value.builtin "list.append") [Value.ref _, Value.int _ _]) _ _ _); k_dflt (refine' append_two ?F ?N ?h0 ?h1 ?hz ?_; (case F => k_asm); (case N => k_asm); (case h0 => k_asm); (case h1 => k_asm); (case hz => (rw [sizeLine_eq]; omega))); intro h9 F9 N9))
local macro_rules | `(tactic| walk_at "TurnPost") => `(tactic| (dsimp only [TurnPost]))
local macro_rules | `(tactic| walk_at "exec For Name Call cons nil") => `(tactic| ((with_reducible show wpAny _ _ (exec (Stmt.For _ _ _ _ _) _) _ _ _); refine Halt.out ?_))
local macro_rules | `(tactic| walk_at "exec For Name Name cons nil") => `(tactic| ((with_reducible show wpAny _ _ (exec (Stmt.For _ _ _ _ _) _) _ _ _); refine Halt.out ?_))
local macro_rules | `(tactic| walk_at "exec For") => `(tactic| ((with_reducible show wpAny _ _ (exec (Stmt.For _ _ _ _ _) _) _ _ _); refine Halt.out ?_))

theorem c_read {w : World} {mean : ExcName → Option Value} {mg mb : Str → Option Value} {dp un : Nat} {gd : Option (List Code)} {cn : Str} {sc : Scope} {a : Addr} {ccd : Value} {A₀ : Around} {base h₀ : Heap} {L : Addr} {m : Str → Option Value} {news : List (Addr × Obj)} {s : Shared} {Q E : Value → Shared → Prop} {x : Str} {t : Tok} {ws : List Int}
  (B : Below A₀ base [] h₀) (F : Fr h₀ L s.heap m) (X : (hd.heap_39 w.params).In h₀) (N : News h₀ L s.heap news) (T : Top hd.view_39 (looseW hd.view_39 []) mean mg mb h₀) (hk : sc.kind = .function) (XB : (hd.heap_39 w.params).In base) (TB : Top hd.view_39 (looseW hd.view_39 []) mean mg mb base)
  (hlen : x.length ≤ 100) (hcb : ∀ c ∈ x.cps.toList, c < 128) (hrd : readsTo (x.cps.toList.map fun c => ((c : Nat) : Int)) ws) (hd : dp + 3 < recursionLimit) (hu : un + 300 < cLine)
  (hret : ∀ D ys nn h' tk', IntsAre ys ws → Fr h₀ L h' m → News h₀ L h' ((D, listOf (List.toArray ys) nn) :: news) → Q (.ref D) {s with heap := h', toks := tk'}) :
  wpAny (model PySem.Challenge.rw_pg0035_01.row.prog w) (ktrTop dp un gd cn sc L a ccd [] []) (call (.ref 54) [.str x t]) Q E s := by
  w_top off
  revert X
  k_fill
  intro X
  have hwl := reads_len hrd
  have hcl : (x.cps.toList.map fun c => ((c : Nat) : Int)).length = x.length := by simp [Str.length]
  have hcl2 : (x.cps.toList.map fun c => ((c : Nat) : Int)).length ≤ 100 := by omega
  have hbd : ∀ c ∈ (x.cps.toList.map fun c => ((c : Nat) : Int)), 0 ≤ c ∧ c < 128 := by
    intro c hc
    obtain ⟨k, hk, rfl⟩ := List.mem_map.mp hc
    have := hcb k hk
    omega
  k_with "mine comp" => (k_here; k_dflt (refine' comp_signs ?hh ?hf ?hc ?hkd ?hn ?hx ?F ?N ?hz ?hs ?he ?_ ?hfo; (case hh => rfl); (case hf => decide); (case hc => decide); (case hkd => rfl); (case hn => decide); (case hx => rfl); (case F => k_asm); (case N => k_asm); (case hs => exact ld (by k_asm) (by with_unfolding_all rfl) ⟨rfl, rfl⟩); (case hz => (rw [sizeLine_eq]; omega)); (case hfo => (intro _; rfl)); (case he => (intro C c u s₂ m₂ E' _ hn hm hk; exact elt_ord rfl rfl rfl (by k_asm) (topRead_of (by k_asm)) (by k_is) hn hm hk rfl rfl))); intro D9 ys9 nn9 h91 tk9 F9 N9 hne9 hI9)
  k_with "mine iter" => (k_here; (with_reducible show wpAny _ _ (call (Value.builtin "iter") [Value.ref _]) _ _ _); k_dflt (refine' iter_list ?F ?N ?hl ?_; (case F => k_asm); (case N => k_asm); (case hl => k_mem)); intro I9 h92 F9 N9 hlt9)
  refine wpAny_call ?_
  k_dflt (refine' code_defS0 ?k1 ?k2 ?k3 ?k4 ?k5 ?kA ?k6 ?k7 ?k8 ?k9 ?kB ?_ ?cK ?c2 ?c3 ?c4 ?c5; (case kA => exact rfl); (case k2 => k_asm); (case k1 => k_asm); (case k3 => k_asm); (case k4 => k_asm); (case k5 => k_asm); (case k6 => k_is); (case k7 => k_is); (case k8 => ktr_room); (case k9 => exact BindsTo.of_eq rfl); (case kB => exact locs rfl); (case cK => assumption); (case c2 => exact rfl); (case c3 => exact rfl); (case c4 => exact rfl); (case c5 => decide); k_whole; intro g' L' h' FG' F' N' B' X' T' D'; (try dsimp only); (try k_fold))
  k_steps
  rename_i lN h94 hl1 h95 F1 N1
  unfold Halt
  refine For_invVF F1 rfl rfl ?_ (by intro _; rfl) (by with_unfolding_all passes_own)
  k_steps
  unfold Halt
  rename IsRange _ _ _ _ _ _ _ _ => R1
  rename Fr _ _ _ _ => F2
  rename News _ _ _ _ => N2
  have hsz := rangeSize_nat 0 ((x.length : Int) + 1)
  have hsm : Builtin.Range.small 0 ((x.length : Int) + 1) 1 = true := small_one (by decide) (by decide) (by omega) (by omega)
  refine' loopR (news := (D9, listOf ys9.toArray nn9) :: news) (σ := Nat × List Value × Nat) (fun c => [(I9, iterO D9 c.1), (lN, listOf c.2.1.toArray c.2.2)]) (fun c => []) [] (fun i c => ∃ dn td, ws = dn ++ td ∧ dn.length = i ∧ IntsAre c.2.1 dn ∧ readsTo ((x.cps.toList.map fun c => ((c : Nat) : Int)).drop c.1) td) (0, [], 0) rfl R1 hsm hsz F2 (cb_drop N2 ?hs) ?hk ?hp ?turn ?done
  case hs => kst_inAny
  case hk => exact List.forall_mem_nil _
  case hp => exact ⟨[], ws, rfl, rfl, .nil, hrd⟩
  case turn =>
    rintro ⟨j, nvs, nnn⟩ i tk3 u h tk4 I oI hi ⟨dn, td, hws, hdl, hints, hrd2⟩ hcI hltI F3 N3
    dsimp only [kstB] at F3 N3 hints hrd2
    simp only [List.cons_append, List.nil_append] at N3
    have hneX : ∀ p ∈ (lN, listOf nvs.toArray nnn) :: (I, oI) :: (D9, listOf ys9.toArray nn9) :: news, p.1 ≠ I9 := by
      intro p hp
      have hI9 := hltI (I9, iterO D9 0) (by simp)
      rcases List.mem_cons.mp hp with rfl | hp
      · exact Nat.ne_of_gt hl1.1
      rcases List.mem_cons.mp hp with rfl | hp
      · exact Nat.ne_of_gt hI9
      · exact Nat.ne_of_lt (hlt9 p hp)
    have hI9l := hltI (I9, iterO D9 0) (by simp)
    have hlNl := hltI (lN, listOf ([] : List Value).toArray 0) (by simp)
    have h0X : I9 ≠ lN := Nat.ne_of_lt hl1.1
    have h1X : ∀ p ∈ (I, oI) :: (D9, listOf ys9.toArray nn9) :: news, p.1 ≠ lN := by
      intro p hp
      rcases List.mem_cons.mp hp with rfl | hp
      · exact Nat.ne_of_gt hlNl
      · exact Nat.ne_of_lt (Nat.lt_trans (hlt9 p hp) hl1.1)
    have hnl := hints.length
    rcases td with _ | ⟨n, r⟩
    · have hend : (x.cps.toList.map fun c => ((c : Nat) : Int)).length ≤ j := List.drop_eq_nil_iff.mp hrd2
      k_steps
      unfold Halt
      rename RaisedSN _ _ _ _ _ _ _ => R9
      rename Heap.UpToSlots _ _ => U9
      rename Fr _ _ _ _ => FG9
      have e1 : dn = ws := by simpa using hws.symm
      subst e1
      refine caught_SN0 (T' := "StopIteration") R9 FG9 B' U9 XB TB D' KtsTurn.refl (by k_is) PyProof.Rows.Boot.«StopIteration» (by decide) stop_isExc stop_notTuple owsi_facts.sub ?_
      intro h7 g7 T7 F7 N7 K7 X7 P7 D7
      k_steps
      exact hret _ _ _ _ _ hints (by k_asm) (cb_drop (by k_asm) (by kst_inAny))
    · obtain ⟨rest, hdec, hrest⟩ := hrd2
      k_steps
      rename (List.drop _ _ = rest) => hj9
      refine' TurnEnd.intro (?J1, ?V1, ?C1) ?F1 ?N1 ?hs1 ?hc1 ?hk1 ?hr1 ?hp1
      case F1 => k_asm
      case N1 => k_asm
      case hs1 => kst_inAny
      case hc1 => simp
      case hk1 => exact List.forall_mem_nil _
      case hr1 => kst_same
      case hp1 => exact ⟨dn ++ [n], r, by simp [hws], by simp [hdl], ints_snoc hints, hj9 ▸ hrest⟩
  case done =>
    rintro ⟨j, nvs, nnn⟩ u h tk ⟨dn, td, hws, hdl, _⟩ _ _
    exfalso
    have := congrArg List.length hws
    simp only [List.length_append] at this
    omega
end Mine
end

section
namespace Mine

local macro_rules | `(tactic| walk_at "TurnPost") => `(tactic| (dsimp only [TurnPost]))
local macro_rules | `(tactic| walk_at "binaryOp Add ref ref") => `(tactic| (k_here; (with_reducible show wpAny _ _ (binaryOp _ (Value.ref _) (Value.ref _)) _ _ _); k_dflt (refine' kmk_add_ints ?F ?N ?a ?b ?i ?j ?_ ?z; (case F => k_asm); (case N => k_asm); (case a => kmk_list); (case b => kmk_list); (case i => l_ints); (case j => l_ints); (case z => (simp only [sizeLine_eq, List.length_cons, List.length_nil, List.length_append]; omega))); intro D' ws' h' F' N' l1 hI'; (try k_lt l1); (try k_sweep)))

/-- what _law_named reckons -/
noncomputable def namedI : List Int → Int → List Int → List Int × Int
  | [], tn, kept => (kept, tn)
  | n :: r, tn, kept => if n.fmod 64 = 10 ∨ n.fmod 64 = 58 then (kept, n.fdiv 64) else namedI r tn (if n.fmod 64 = 46 then [] else kept ++ [n])
theorem drop_at {ns : List Int} {i : Nat} {n : Int} (h : ns[i]? = some n) : ns.drop i = n :: ns.drop (i + 1) := by
  have hi := (List.getElem?_eq_some_iff.mp h).1
  rw [List.drop_eq_getElem_cons hi]
  rw [(List.getElem?_eq_some_iff.mp h).2]

theorem c_named {w : World} {mean : ExcName → Option Value} {mg mb : Str → Option Value} {dp un : Nat} {gd : Option (List Code)} {cn : Str} {cs : Scope} {a : Addr} {ccd : Value} {cl : List (Str × Addr)} {outer : List Env} {A₀ : Around} {base h₀ : Heap} {L : Addr} {m : Str → Option Value} {news : List (Addr × Obj)} {s : Shared} {Q E : Value → Shared → Prop}
   {l : Addr} {vs : List Value} {ns : List Int} {nn : Nat} {tn : Int} {t : Tok}
  (B : Below A₀ base outer h₀) (F : Fr h₀ L s.heap m) (X : (hd.heap_39 w.params).In h₀) (N : News h₀ L s.heap news) (T : Top hd.view_39 (looseW hd.view_39 []) mean mg mb h₀) (hk : cs.kind = .function)
  (hl : (l, listOf vs.toArray nn) ∈ news) (hi : IntsAre vs ns) (hlen : ns.length ≤ 100) (hd : dp + 1 < recursionLimit) (hu : un + 8 < cLine)
  (hret : ∀ ta ka kvs kn t' h' tk', IntsAre kvs (namedI ns tn []).1 → Fr h₀ L h' m → News h₀ L h' ((ta, { cls := Value.type "tuple", data := Data.seq #[Value.ref ka, Value.int (namedI ns tn []).2 t'] }) :: (ka, listOf kvs.toArray kn) :: news) → Q (.ref ta) {s with heap := h', toks := tk'}) :
  wpAny (model PySem.Challenge.rw_pg0035_01.row.prog w) (ktrTop dp un gd cn cs L a ccd cl outer) (call (.ref 61) [.ref l, .int tn t]) Q E s := by
  w_top off
  revert X
  k_fill
  intro X
  refine wpAny_call ?_
  k_dflt cell_enter
  k_steps
  rename Fr _ _ _ _ => F1
  rename News _ _ _ _ => N1
  refine For_invVF F1 rfl rfl ?_ (by intro _; rfl) (by with_unfolding_all passes_own)
  refine ld F1 (by with_unfolding_all rfl) ?_
  refine loopL (σ := Addr × List Value × Nat) (fun c => [(c.1, listOf c.2.1.toArray c.2.2)]) (fun c => [("kept", .ref c.1)]) [] (fun i c => ∃ ks, IntsAre c.2.1 ks ∧ ks.length ≤ i ∧ namedI ns tn [] = namedI (ns.drop i) tn ks) (_, [], 0) rfl hl hi F1 N1 ?_ ?_ ?_ ?_
  · kst_all
  · exact ⟨[], .nil, Nat.le_refl _, rfl⟩
  · rintro ⟨ka, kvs, kn⟩ i n t u h tk I oI hni ⟨ks, hks, hkl, hnm⟩ hcI F2 N2
    dsimp only [kstB] at F2 N2 hks
    simp only [List.cons_append, List.nil_append] at N2
    have hlt := (List.getElem?_eq_some_iff.mp hni).1
    rw [drop_at hni, namedI] at hnm
    k_steps
    · rename (List.any _ _ = _) => ha
      simp only [List.any_cons, List.any_nil, Bool.or_false, Bool.or_eq_true, beq_iff_eq] at ha
      rw [if_pos (by omega)] at hnm
      rw [hnm] at hret
      rename News _ _ _ _ => N3
      exact hret _ _ _ _ _ _ _ hks (by k_asm) (cb_drop N3 (by kst_inAny))
    · rename (List.any _ _ = _) => ha
      rename (Int.fmod _ _ = 46) => hb
      simp only [List.any_cons, List.any_nil, Bool.or_false, Bool.or_eq_false_iff, beq_eq_false_iff_ne] at ha
      rw [if_neg (by omega), if_pos hb] at hnm
      refine' TurnEnd.intro (?D1, [], 0) ?F1 ?N1 ?hs1 ?hc1 ?hk1 ?hr1 ?hp1
      case F1 => k_asm
      case hk1 => kst_all
      case hp1 => exact ⟨[], (IntsAre.nil : IntsAre ([] : List Value) []), Nat.zero_le _, hnm⟩
      case N1 => k_asm
      case hs1 => kst_inAny
      case hc1 => simp
      case hr1 => kst_same
    · rename (List.any _ _ = _) => ha
      rename (¬ Int.fmod _ _ = 46) => hb
      simp only [List.any_cons, List.any_nil, Bool.or_false, Bool.or_eq_false_iff, beq_eq_false_iff_ne] at ha
      rw [if_neg (by omega), if_neg hb] at hnm
      refine' TurnEnd.intro (?D2, ?V2, 0) ?F2 ?N2 ?hs2 ?hc2 ?hk2 ?hr2 ?hp2
      case F2 => k_asm
      case hk2 => kst_all
      case hp2 => exact ⟨ks ++ [n], by k_asm, by simp only [List.length_append, List.length_cons, List.length_nil]; omega, hnm⟩
      case N2 => k_asm
      case hs2 => kst_inAny
      case hc2 => simp
      case hr2 => kst_same
  · rintro ⟨ka, kvs, kn⟩ u h tk ⟨ks, hks, hkl, hnm⟩ F2 N2
    dsimp only [kstB] at F2 N2 hks
    simp only [List.cons_append, List.nil_append] at N2
    rw [List.drop_length, namedI] at hnm
    k_steps
    rw [hnm] at hret
    exact hret _ _ _ _ _ _ _ hks (by k_asm) (by k_asm)
end Mine
end

section
namespace Mine
theorem last_item {prog : Program} {w : World} {A : Around} {E : Value → Shared → Prop} {s : Shared} {h₀ : Heap} {L l : Addr} {news : List (Addr × Obj)} {value slice : PySem.Expr} {vs : List Value} {r : List Int} {n : Int} {nn : Nat} {u : Tok} {Q : Value → Shared → Prop}
    (N : News h₀ L s.heap news) (hm : (l, listOf vs.toArray nn) ∈ news) (hi : IntsAre vs (r ++ [n])) (h : ∀ t, Q (.int n t) s)
    (hs : subscripted slice false (.ref l) (.int (-1) u) = operate [.ref l, .int (-1) u] (getItem (.ref l) (.int (-1) u)) := by with_unfolding_all rfl) :
    wpAny (model prog w) A (subscriptTail value slice (.ref l) (.int (-1) u)) Q E s := by
  have hl : s.heap.IsList l vs.toArray := ⟨_, (N _ hm).1, rfl, nn, rfl⟩
  have hlen := hi.length
  simp only [List.length_append, List.length_cons, List.length_nil] at hlen
  obtain ⟨t, ht⟩ := hi.get r.length n (by simp)
  refine tail_any hl.typeIs slot_list_getitem.lookup (wpAny_getItem_list_neg hl (by decide) (by simp; omega) (by decide) ?_ (h t)) hs
  have e : (-1 + ((vs.toArray.size : Nat) : Int)).toNat = r.length := by simp; omega
  rw [e]
  simpa using ht

local macro_rules | `(tactic| walk_at "WPost") => `(tactic| (dsimp only [WPost]))
local macro_rules | `(tactic| walk_at "WhlIf") => `(tactic| (first | (refine WhlIf.yes rfl ?_) | (refine WhlIf.no rfl ?_) | (refine whlIf_split (fun h => ?_) (fun h => ?_))))
local macro_rules | `(tactic| walk_at "subscriptTail") => `(tactic| (k_here; (with_reducible show wpAny _ _ (subscriptTail _ _ (Value.ref _) (Value.int (-1) _)) _ _ _); k_dflt (refine' last_item ?N ?hm ?hi ?_ ?hs; (case N => k_asm); (case hm => k_mem); (case hi => k_asm); (case hs => with_unfolding_all rfl)); intro t9))
local macro_rules | `(tactic| walk_at "binaryOp Add ref ref") => `(tactic| (k_here; (with_reducible show wpAny _ _ (binaryOp _ (Value.ref _) (Value.ref _)) _ _ _); k_dflt (refine' kmk_add_ints ?F ?N ?a ?b ?i ?j ?_ ?z; (case F => k_asm); (case N => k_asm); (case a => kmk_list); (case b => kmk_list); (case i => l_ints); (case j => l_ints); (case z => (simp only [sizeLine_eq, List.length_cons, List.length_nil, List.length_append]; omega))); intro D' ws' h' F' N' l1 hI'; (try k_lt l1); (try k_sweep)))
local macro_rules | `(tactic| walk_at "compareOp NotEq ref ref") => `(tactic| (k_here; (with_reducible show wpAny _ _ (compareOp CmpOp.NotEq (Value.ref _) (Value.ref _)) _ _ _); k_dflt (refine' ke_ne_ints ?a ?b ?i ?j ?u ?_; (case a => is_list); (case b => is_list); (case i => l_ints); (case j => l_ints); (case u => ktr_units)); (try simp only [List.append_eq_nil_iff, List.cons_ne_nil, and_false, decide_false, decide_true, Bool.not_false, Bool.not_true, eq_self])))
local macro_rules | `(tactic| walk_at "compareOp Eq ref ref") => `(tactic| (k_here; (with_reducible show wpAny _ _ (compareOp CmpOp.Eq (Value.ref _) (Value.ref _)) _ _ _); k_dflt (refine' ke_eq_ints ?a ?b ?i ?j ?u ?_; (case a => is_list); (case b => is_list); (case i => l_ints); (case j => l_ints); (case u => ktr_units)); (try simp only [List.append_eq_nil_iff, List.cons_ne_nil, and_false, decide_false, decide_true, Bool.not_false, Bool.not_true, eq_self])))

def blanks : List Int := [9, 10, 11, 12, 13, 28, 29, 30, 31, 32]
/-- the loop of _law_noted, the list from behind -/
noncomputable def trimI : List Int → Int → List Int × Int
  | [], tn => ([], tn)
  | n :: r, tn => if tn = 0 ∧ n.fmod 64 ∈ blanks then trimI r (n.fdiv 64) else (n :: r, tn)
theorem blank_yes {y : Int} (h : ([9, 10, 11, 12, 13, 28, 29, 30, 31, 32].any fun x => x == y) = true) : y ∈ blanks := by
  rw [List.any_eq_true] at h
  obtain ⟨x, hx, e⟩ := h
  rw [← (beq_iff_eq.mp e)]
  exact hx
theorem blank_no {y : Int} (h : ([9, 10, 11, 12, 13, 28, 29, 30, 31, 32].any fun x => x == y) = false) : ¬ y ∈ blanks := by
  intro hy
  rw [List.any_eq_false] at h
  exact h y hy (beq_self_eq_true y)
noncomputable def notedI (ns : List Int) (tn : Int) : List Int × Int :=
  let r := trimI ns.reverse tn
  if r.2 = 0 ∧ r.1 = [] then ([35], 0) else ([35, 32] ++ r.1.reverse, r.2)

theorem c_noted {w : World} {mean : ExcName → Option Value} {mg mb : Str → Option Value} {dp un : Nat} {gd : Option (List Code)} {cn : Str} {cs : Scope} {a : Addr} {ccd : Value} {cl : List (Str × Addr)} {outer : List Env} {A₀ : Around} {base h₀ : Heap} {L : Addr} {m : Str → Option Value} {news : List (Addr × Obj)} {s : Shared} {Q E : Value → Shared → Prop}
   {l : Addr} {vs : List Value} {ns : List Int} {nn : Nat} {tn : Int} {t : Tok}
  (B : Below A₀ base outer h₀) (F : Fr h₀ L s.heap m) (X : (hd.heap_39 w.params).In h₀) (N : News h₀ L s.heap news) (T : Top hd.view_39 (looseW hd.view_39 []) mean mg mb h₀) (hk : cs.kind = .function)
  (hl : (l, listOf vs.toArray nn) ∈ news) (hi : IntsAre vs ns) (hlen : ns.length ≤ 100) (hd : dp + 1 < recursionLimit) (hu : un + 100 < cLine)
  (hret : ∀ ta ka kvs kn t' h' tk', IntsAre kvs (notedI ns tn).1 → Fr h₀ L h' m → News h₀ L h' ((ta, { cls := Value.type "tuple", data := Data.seq #[Value.ref ka, Value.int (notedI ns tn).2 t'] }) :: (ka, listOf kvs.toArray kn) :: news) → Q (.ref ta) {s with heap := h', toks := tk'}) :
  wpAny (model PySem.Challenge.rw_pg0035_01.row.prog w) (ktrTop dp un gd cn cs L a ccd cl outer) (call (.ref 68) [.ref l, .int tn t]) Q E s := by
  w_top off
  revert X
  k_fill
  intro X
  refine wpAny_call ?_
  k_dflt cell_enter
  refine wpAny_execs_cons ?_
  rename Fr _ _ _ _ => F1
  rename News _ _ _ _ => N1
  refine whl_ind (news := news) (σ := Addr × List Value × Nat × List Int × Int × Tok) (fun c => [(c.1, listOf c.2.1.toArray c.2.2.1)]) (fun c => [("whole", .ref c.1), ("torn", .int c.2.2.2.2.1 c.2.2.2.2.2)]) [] (fun c => IntsAre c.2.1 c.2.2.2.1.reverse ∧ c.2.2.2.1.length ≤ 100 ∧ trimI ns.reverse tn = trimI c.2.2.2.1 c.2.2.2.2.1) (fun c => c.2.2.2.1.length) (l, vs, nn, ns.reverse, tn, t) (by with_unfolding_all passes_own) F1 (cb_drop (news' := news) N1 ?_) ?_ ?_ ?_
  · intro p hp
    simp only [List.cons_append, List.nil_append, List.mem_cons] at hp
    rcases hp with rfl | hp
    · exact hl
    · exact hp
  · kst_all
  · exact ⟨by simpa using hi, by simpa using hlen, rfl⟩
  · rintro ⟨ka, kvs, kn, rs, rt, tt⟩ u h tk ⟨hks, hkl, hnm⟩ F2 N2
    dsimp only [kstB] at F2 N2 hks hkl hnm
    simp only [List.cons_append, List.nil_append] at N2
    rcases rs with _ | ⟨n, r⟩
    · have hnil : kvs = [] := by
        cases hks
        rfl
      subst hnil
      rw [trimI] at hnm
      by_cases hrt : rt = 0
      · subst hrt
        k_steps
        have he : notedI ns tn = ([35], 0) := by simp [notedI, hnm]
        rw [he] at hret
        rename News _ _ _ _ => N3
        exact hret _ _ _ _ _ _ _ (.cons 35 _ .nil) (by k_asm) (cb_drop N3 (by kst_inAny))
      · have he : notedI ns tn = ([35, 32] ++ [], rt) := by simp [notedI, hnm, hrt]
        rw [he] at hret
        k_steps
        all_goals first
          | (exfalso; omega)
          | (rename News _ _ _ _ => N3
             refine hret _ _ _ _ _ _ _ ?_ (by k_asm) (cb_drop N3 (by kst_inAny))
             first | k_asm | exact .cons 35 _ (.cons 32 _ .nil))
    · simp only [List.length_cons] at hkl
      rw [List.reverse_cons] at hks
      rw [trimI] at hnm
      have hrl : r.reverse.length = r.length := by simp
      by_cases hrt : rt = 0
      · subst hrt
        by_cases hb : n.fmod 64 ∈ blanks
        · rw [if_pos ⟨rfl, hb⟩] at hnm
          k_steps
          · rename IntsAre _ _ => hI2
            rw [show List.take ((r.reverse ++ [n]).length - 1) (r.reverse ++ [n]) = r.reverse from by simp] at hI2
            refine' WEnd.intro (?D1, ?V1, 0, r, n.fdiv 64, ?T1) ?F1 ?N1 ?hs1 ?hk1 ?hr1 ?hp1 ?hm1
            case F1 => k_asm
            case hk1 => kst_all
            case hp1 => exact ⟨(by k_asm), (by show r.length ≤ 100; omega), hnm⟩
            case N1 => k_asm
            case hs1 => kst_inAny
            case hr1 => (intro z h1 h3; (simp only [List.forall_mem_cons, List.not_mem_nil, false_implies, implies_true, and_true, ne_eq] at h1); (simp [h1]; done))
            case hm1 => simp
          · rename (List.any _ _ = _) => ha
            exact absurd hb (blank_no ha)
        · rw [if_neg (fun h => hb h.2)] at hnm
          k_steps
          · rename (List.any _ _ = _) => ha
            exact absurd (blank_yes ha) hb
          · have he : notedI ns tn = ([35, 32] ++ (r.reverse ++ [n]), 0) := by simp [notedI, hnm]
            rw [he] at hret
            rename News _ _ _ _ => N3
            exact hret _ _ _ _ _ _ _ (by k_asm) (by k_asm) (cb_drop N3 (by kst_inAny))
      · rw [if_neg (fun h => hrt h.1)] at hnm
        have he : notedI ns tn = ([35, 32] ++ (r.reverse ++ [n]), rt) := by simp [notedI, hnm, hrt]
        rw [he] at hret
        k_steps
        all_goals first
          | (exfalso; omega)
          | (rename News _ _ _ _ => N3
             exact hret _ _ _ _ _ _ _ (by k_asm) (by k_asm) (cb_drop N3 (by kst_inAny)))
end Mine
end

section
namespace Mine

def sizeI (n : Int) : Int := if n < 64 then 1 else if n < 4096 then 2 else 3
local macro_rules | `(tactic| walk_at "exec While Compare") => `(tactic| (k_here; k_dflt (refine whl_start 100 ?_)))
local macro_rules | `(tactic| walk_at "WhlIf") => `(tactic| (first | (refine WhlIf.yes (by (simp; omega)) ?_) | (refine WhlIf.no (by (simp; omega)) ?_)))

theorem c_size {w : World} {mean : ExcName → Option Value} {mg mb : Str → Option Value} {dp un : Nat} {gd : Option (List Code)} {cn : Str} {cs : Scope} {a : Addr} {ccd : Value} {cl : List (Str × Addr)} {outer : List Env} {A₀ : Around} {base h₀ : Heap} {L : Addr} {m : Str → Option Value} {news : List (Addr × Obj)} {s : Shared} {Q E : Value → Shared → Prop}
   {n k : Int} {t : Tok}
  (B : Below A₀ base outer h₀) (F : Fr h₀ L s.heap m) (X : (hd.heap_39 w.params).In h₀) (N : News h₀ L s.heap news) (T : Top hd.view_39 (looseW hd.view_39 []) mean mg mb h₀) (hk : cs.kind = .function)
  (h0 : 0 ≤ n) (h1 : n < 262144) (hsz : sizeI n = k) (hd : dp + 1 < recursionLimit) (hu : un + 8 < cLine)
  (hret : ∀ t h' tk', Fr h₀ L h' m → News h₀ L h' news → Q (.int k t) {s with heap := h', toks := tk'}) :
  wpAny (model PySem.Challenge.rw_pg0035_01.row.prog w) (ktrTop dp un gd cn cs L a ccd cl outer) (call (.ref 42) [.int n t]) Q E s := by
  w_top off
  revert X
  k_fill
  intro X
  refine wpAny_call ?_
  rcases (by omega : n < 64 ∨ (64 ≤ n ∧ n < 4096) ∨ (4096 ≤ n)) with h2 | ⟨h2, h3⟩ | h2
  all_goals (k_dflt cell_enter; k_steps)
  all_goals exact cb_retI hret (by subst hsz; unfold sizeI; (repeat' split) <;> omega) (by k_asm) (by k_asm)
end Mine
end

section
open PySem PySem.W PySem.Calls PyProof.Rows
open PySem.Builtin PySem.Builtin.Str
namespace Mine
def findB (x y : Str) (i j : Int) : Int := match occurrences x y (fromIndex x.length i) (min (fromIndex x.length j) x.length) 1 with | k :: _ => (k : Int) | [] => -1
def rfindB (x y : Str) (i j : Int) : Int := match lastOccurrence x y (fromIndex x.length i) (min (fromIndex x.length j) x.length) with | some k => (k : Int) | none => -1
theorem gives_findB (x y : Str) (i j : Int) (t u v z : Tok) : Gives («str.find» ⟨[.str x t, .str y u, .int i v, .int j z], []⟩) (.int (findB x y i j)) := by
  show Gives (match occurrences x y (fromIndex x.length i) (min (fromIndex x.length j) x.length) 1 with | k :: _ => retInt k | [] => (do rule "str.find.not-found"; retInt (-1))) _
  unfold findB
  cases occurrences x y (fromIndex x.length i) (min (fromIndex x.length j) x.length) 1 with
  | nil => exact .rule (.of_eq rfl)
  | cons k _ => exact .of_eq rfl
theorem gives_rfindB (x y : Str) (i j : Int) (t u v z : Tok) : Gives («str.rfind» ⟨[.str x t, .str y u, .int i v, .int j z], []⟩) (.int (rfindB x y i j)) := by
  show Gives (match lastOccurrence x y (fromIndex x.length i) (min (fromIndex x.length j) x.length) with | some k => retInt k | none => (do rule "str.rfind.not-found"; retInt (-1))) _
  unfold rfindB
  cases lastOccurrence x y (fromIndex x.length i) (min (fromIndex x.length j) x.length) with
  | none => exact .rule (.of_eq rfl)
  | some k => exact .of_eq rfl
section
variable {prog : Program} {w : World} {A : Around} {E : Value → Shared → Prop} {s : Shared} {x y : Str} {t u v z : Tok} {i j : Int} {Q : Value → Shared → Prop}
theorem call_findB (hq : Q (.int (findB x y i j) s.toks) { s with toks := s.toks + 1 }) : wpAny (model prog w) A (call (.builtin "str.find") [.str x t, .str y u, .int i v, .int j z]) Q E s :=
  call_gives F.slot_str_find (typeIs_str _ _ _) F.entry_str_find (F.args_str_find_4 _ _ _ _) (gives_findB x y i j t u v z) hq
theorem call_rfindB (hq : Q (.int (rfindB x y i j) s.toks) { s with toks := s.toks + 1 }) : wpAny (model prog w) A (call (.builtin "str.rfind") [.str x t, .str y u, .int i v, .int j z]) Q E s :=
  call_gives F.slot_str_rfind (typeIs_str _ _ _) F.entry_str_rfind (F.args_str_rfind_4 _ _ _ _) (gives_rfindB x y i j t u v z) hq
end
end Mine
end

section
namespace Mine
local macro_rules | `(tactic| walk_at "call builtin:str.find") => `(tactic| (k_here; (with_reducible show wpAny _ _ (call (Value.builtin "str.find") [Value.str _ _, Value.str _ _, Value.int _ _, Value.int _ _]) _ _ _); k_dflt (refine call_findB ?_)))
local macro_rules | `(tactic| walk_at "call builtin:str.rfind") => `(tactic| (k_here; (with_reducible show wpAny _ _ (call (Value.builtin "str.rfind") [Value.str _ _, Value.str _ _, Value.int _ _, Value.int _ _]) _ _ _); k_dflt (refine call_rfindB ?_)))

def commentS (x : Str) : Str := if (Txt.rstrip x).length = 0 then Str.ofString "#" else Str.ofString "# " ++ Txt.rstrip x
theorem c_comment {w : World} {mean : ExcName → Option Value} {mg mb : Str → Option Value} {dp un : Nat} {gd : Option (List Code)} {cn : Str} {cs : Scope} {a : Addr} {ccd : Value} {cl : List (Str × Addr)} {outer : List Env} {A₀ : Around} {base h₀ : Heap} {L : Addr} {m : Str → Option Value} {news : List (Addr × Obj)} {s : Shared} {Q E : Value → Shared → Prop}
   {x : Str} {t : Tok}
  (B : Below A₀ base outer h₀) (F : Fr h₀ L s.heap m) (X : (hd.heap_39 w.params).In h₀) (N : News h₀ L s.heap news) (T : Top hd.view_39 (looseW hd.view_39 []) mean mg mb h₀) (hk : cs.kind = .function)
  (h0 : x.length ≤ 100) (hd : dp + 1 < recursionLimit) (hu : un + 100 < cLine)
  (hret : ∀ t h' tk', Fr h₀ L h' m → News h₀ L h' news → Q (.str (commentS x) t) {s with heap := h', toks := tk'}) :
  wpAny (model PySem.Challenge.rw_pg0035_01.row.prog w) (ktrTop dp un gd cn cs L a ccd cl outer) (call (.ref 28) [.str x t]) Q E s := by
  w_top off
  revert X
  k_fill
  intro X
  refine wpAny_call ?_
  k_dflt cell_enter
  k_steps
  · exact cb_retS hret (by unfold commentS; rw [if_neg (by omega)]) (by k_asm) (by k_asm)
  · exact cb_retS hret (by unfold commentS; rw [if_pos (by omega)]) (by k_asm) (by k_asm)
def endS (x : Str) : Int := if 0 ≤ Txt.find x (Str.ofString "\n") then Txt.find x (Str.ofString "\n") else (x.length : Int)
def colS (x : Str) : Int := if 0 ≤ findB x (Str.ofString ":") 0 (endS x) then findB x (Str.ofString ":") 0 (endS x) else endS x
def dotS (x : Str) : Int := if 0 ≤ rfindB x (Str.ofString ".") 0 (colS x) then rfindB x (Str.ofString ".") 0 (colS x) + 1 else 0
def stripS (x : Str) : Str := Txt.slice x (some (dotS x)) (some (colS x))
theorem c_strip {w : World} {mean : ExcName → Option Value} {mg mb : Str → Option Value} {dp un : Nat} {gd : Option (List Code)} {cn : Str} {cs : Scope} {a : Addr} {ccd : Value} {cl : List (Str × Addr)} {outer : List Env} {A₀ : Around} {base h₀ : Heap} {L : Addr} {m : Str → Option Value} {news : List (Addr × Obj)} {s : Shared} {Q E : Value → Shared → Prop}
   {x : Str} {t : Tok}
  (B : Below A₀ base outer h₀) (F : Fr h₀ L s.heap m) (X : (hd.heap_39 w.params).In h₀) (N : News h₀ L s.heap news) (T : Top hd.view_39 (looseW hd.view_39 []) mean mg mb h₀) (hk : cs.kind = .function)
  (h0 : x.length ≤ 100) (hd : dp + 1 < recursionLimit) (hu : un + 100 < cLine)
  (hret : ∀ t h' tk', Fr h₀ L h' m → News h₀ L h' news → Q (.str (stripS x) t) {s with heap := h', toks := tk'}) :
  wpAny (model PySem.Challenge.rw_pg0035_01.row.prog w) (ktrTop dp un gd cn cs L a ccd cl outer) (call (.ref 35) [.str x t]) Q E s := by
  w_top off
  revert X
  k_fill
  intro X
  refine wpAny_call ?_
  k_dflt cell_enter
  k_steps
  all_goals (
    rename (_ ∨ _) => hr
    rcases hr with ⟨h1, rfl⟩ | ⟨h1, rfl⟩)
  all_goals (
      refine cb_retS hret ?_ (by k_asm) (cb_drop (by k_asm) (by kst_inAny))
      unfold stripS dotS colS endS
      first | rw [if_pos h1] | rw [if_neg h1]
      first
        | (rename (¬ 0 ≤ findB _ _ _ _) => h2; rw [if_neg h2])
        | (rename (0 ≤ findB _ _ _ _) => h2; rw [if_pos h2])
      first
        | (rename (¬ 0 ≤ rfindB _ _ _ _) => h3; rw [if_neg h3])
        | (rename (0 ≤ rfindB _ _ _ _) => h3; rw [if_pos h3]))
end Mine
end

section
namespace Mine
/-- the octets of what is there of a torn number -/
noncomputable def cont (t : Nat) : List Nat := if h : t = 0 then [] else cont (t / 64) ++ [t % 64 + 64]
termination_by t
decreasing_by omega
/-- the octets of a number -/
noncomputable def enc (n : Nat) : List Nat := cont (n / 64) ++ [n % 64]
theorem cont_zero : cont 0 = [] := by rw [cont]; simp
theorem cont_pos {t : Nat} (h : t ≠ 0) : cont t = cont (t / 64) ++ [t % 64 + 64] := by rw [cont]; simp [h]
theorem cont_step {t d : Nat} (hd : d < 64) (h : t ≠ 0 ∨ d ≠ 0) : cont (t * 64 + d) = cont t ++ [d + 64] := by
  rw [cont_pos (by omega)]
  rw [show (t * 64 + d) / 64 = t by omega, show (t * 64 + d) % 64 = d by omega]
theorem cont_small {k : Nat} (h0 : k ≠ 0) (h1 : k < 64) : cont k = [k + 64] := by
  have := cont_step (t := 0) (d := k) h1 (.inr h0)
  simpa [cont_zero] using this
theorem cont_two {k : Nat} (h0 : 64 ≤ k) (h1 : k < 4096) : cont k = [k / 64 + 64, k % 64 + 64] := by
  rw [cont_pos (by omega), cont_small (by omega) (by omega)]
  rfl
theorem enc_one {n : Nat} (h : n < 64) : enc n = [n] := by
  unfold enc
  rw [show n / 64 = 0 by omega, cont_zero, show n % 64 = n by omega]
  rfl
theorem enc_two {n : Nat} (h0 : 64 ≤ n) (h1 : n < 4096) : enc n = [n / 64 + 64, n % 64] := by
  unfold enc
  rw [cont_small (by omega) (by omega)]
  rfl
theorem enc_three {n : Nat} (h0 : 4096 ≤ n) (h1 : n < 262144) : enc n = [n / 4096 + 64, n / 64 % 64 + 64, n % 64] := by
  unfold enc
  rw [cont_two (by omega) (by omega), show n / 64 / 64 = n / 4096 by omega]
  rfl
theorem enc_torn (t d : Nat) (hd : d < 64) : enc (t * 64 + d) = cont t ++ [d] := by
  unfold enc
  rw [show (t * 64 + d) / 64 = t by omega, show (t * 64 + d) % 64 = d by omega]
/-- a torn one and what is laid behind it are one number -/
theorem enc_join (t n : Nat) (hn : n < 262144) : cont t ++ enc n = enc (t * 64 ^ (sizeI n).toNat + n) := by
  unfold sizeI
  by_cases h1 : n < 64
  · rw [if_pos (by omega), enc_one h1]
    exact (enc_torn t n h1).symm
  · rw [if_neg (by omega)]
    by_cases h2 : n < 4096
    · rw [if_pos (by omega), enc_two (by omega) h2]
      show _ = enc (t * 4096 + n)
      unfold enc
      rw [show (t * 4096 + n) / 64 = t * 64 + n / 64 by omega, cont_step (by omega) (by omega), show (t * 4096 + n) % 64 = n % 64 by omega]
      simp
    · rw [if_neg (by omega), enc_three (by omega) hn]
      show _ = enc (t * 262144 + n)
      unfold enc
      rw [show (t * 262144 + n) / 64 = (t * 64 + n / 4096) * 64 + n / 64 % 64 by omega, cont_step (by omega) (by omega), cont_step (by omega) (by omega), show (t * 262144 + n) % 64 = n % 64 by omega]
      simp
theorem cont_ge (t : Nat) : ∀ c ∈ cont t, 64 ≤ c ∧ c < 128 := by
  induction t using Nat.strongRecOn with
  | _ t ih =>
    intro c hc
    by_cases h : t = 0
    · subst h; rw [cont_zero] at hc; cases hc
    · rw [cont_pos h] at hc
      rcases List.mem_append.mp hc with hc | hc
      · exact ih (t / 64) (by omega) c hc
      · have := List.mem_singleton.mp hc
        omega
theorem enc_lt (n : Nat) : ∀ c ∈ enc n, c < 128 := by
  intro c hc
  rcases List.mem_append.mp hc with hc | hc
  · exact (cont_ge _ c hc).2
  · have := List.mem_singleton.mp hc
    omega
theorem cont_nil {t : Nat} (h : cont t = []) : t = 0 := by
  by_cases h0 : t = 0
  · exact h0
  · rw [cont_pos h0] at h
    simp at h
theorem enc_ne (n : Nat) : enc n ≠ [] := by unfold enc; simp
/-- the text's octets -/
noncomputable def octs (ws : List Nat) (t : Nat) : List Nat := ws.flatMap enc ++ cont t
theorem octs_lt (ws : List Nat) (t : Nat) : ∀ c ∈ octs ws t, c < 128 := by
  intro c hc
  rcases List.mem_append.mp hc with hc | hc
  · obtain ⟨n, _, hc⟩ := List.mem_flatMap.mp hc
    exact enc_lt n c hc
  · exact (cont_ge _ c hc).2
theorem octs_join (ws : List Nat) (t n : Nat) (hn : n < 262144) : octs ws t ++ enc n = octs (ws ++ [t * 64 ^ (sizeI n).toNat + n]) 0 := by
  unfold octs
  rw [cont_zero, List.flatMap_append, List.append_nil, List.append_assoc, enc_join t n hn]
  simp
theorem octs_one (ws : List Nat) (t d : Nat) (hd : d < 64) : octs ws t ++ [d] = (ws ++ [t * 64 + d]).flatMap enc := by
  unfold octs
  rw [List.flatMap_append, List.append_assoc, ← enc_torn t d hd]
  simp
/-- what is read of the octets -/
theorem dec_cont (t : Nat) : ∀ (v : Int) (tl : List Int), decI v ((cont t).map (fun c => ((c : Nat) : Int)) ++ tl) = decI (v * 64 ^ (cont t).length + t) tl := by
  induction t using Nat.strongRecOn with
  | _ t ih =>
    intro v tl
    by_cases h : t = 0
    · subst h
      rw [cont_zero]
      simp
    · rw [cont_pos h, List.map_append, List.append_assoc, ih (t / 64) (by omega)]
      simp only [List.map_cons, List.map_nil, List.cons_append, List.nil_append, List.length_append, List.length_cons, List.length_nil]
      rw [decI, if_pos (by omega)]
      congr 1
      rw [Int.pow_succ, ← Int.mul_assoc]
      omega
theorem dec_enc (n : Nat) (tl : List Int) : decI 0 ((enc n).map (fun c => ((c : Nat) : Int)) ++ tl) = some ((n : Int), tl) := by
  unfold enc
  rw [List.map_append, List.append_assoc, dec_cont]
  simp only [List.map_cons, List.map_nil, List.cons_append, List.nil_append]
  rw [decI, if_neg (by omega)]
  congr 2
  omega
theorem reads_enc (ws : List Nat) : readsTo ((ws.flatMap enc).map fun c => ((c : Nat) : Int)) (ws.map fun n => ((n : Nat) : Int)) := by
  induction ws with
  | nil => exact rfl
  | cons n r ih =>
    refine ⟨_, ?_, ih⟩
    rw [List.flatMap_cons, List.map_append]
    exact dec_enc n _
end Mine
end

section
namespace Mine

noncomputable def signsS (n : Int) : Str := ⟨(enc n.toNat).toArray⟩
theorem unr_gen {h₀ : Heap} {L I : Addr} {it : Obj} {rest : (Str → Option Value) → List (Addr × Obj) → Prop} {s₁ : Shared} {h' : Heap} {tk : Nat} {m' : Str → Option Value} {news' : List (Addr × Obj)} (F : Fr h₀ L h' m') (N : News h₀ L h' ((I, it) :: news'))
    (hl : ∀ p ∈ news', p.1 < I) (r : rest m' news') : UnrEnd h₀ L s₁ I it rest { s₁ with heap := h', toks := tk } :=
  UnrEnd.intro F N news' (fun p hp => hp) (fun p hp => Nat.ne_of_lt (hl p hp)) r
theorem app0 (a : Nat) : (Str.ofString "" ++ (⟨#[a]⟩ : Str)) = ⟨#[a]⟩ := by
  apply Str.ext'
  rw [Str.cps_append]
  rfl
theorem app1 (xs : Array Nat) (a : Nat) : ((⟨xs⟩ : Str) ++ (⟨#[a]⟩ : Str)) = ⟨xs.push a⟩ := by
  apply Str.ext'
  rw [Str.cps_append]
  simp
theorem fdiv_pow (n : Int) (k : Nat) : n.fdiv (64 ^ k) = n / 64 ^ k := Int.fdiv_eq_ediv_of_nonneg _ (Int.le_of_lt (Int.pow_pos (by decide)))
theorem fmod64 (n : Int) : n.fmod 64 = n % 64 := Int.fmod_eq_emod_of_nonneg _ (by decide)
theorem fdiv64 (n : Int) : n.fdiv 64 = n / 64 := Int.fdiv_eq_ediv_of_nonneg _ (by decide)
local macro_rules | `(tactic| walk_at "UnrEnd") => `(tactic| (k_dflt (refine unr_gen (by assumption) (by assumption) (by assumption) ?_)))
local macro_rules | `(tactic| walk_at "call ref") => `(tactic| (k_here; (with_reducible show wpAny _ _ (call (Value.ref 42) [Value.int _ _]) _ _ _); k_dflt (refine' c_size ?k1 ?k2 ?k3 ?k4 ?k5 ?kK ?p0 ?p1 ?p2 ?kd ?ku ?_; (case k1 => k_asm); (case k2 => k_asm); (case k3 => k_asm); (case k4 => k_asm); (case k5 => k_asm); (case kK => first | exact rfl | assumption); (case p0 => omega); (case p1 => omega); (case p2 => assumption); (case kd => ktr_room); (case ku => ktr_units); intro t9 h9 tk9 F9 N9; (try dsimp only); (try k_fold))))

theorem c_signs {w : World} {mean : ExcName → Option Value} {mg mb : Str → Option Value} {dp un : Nat} {gd : Option (List Code)} {cn : Str} {cs : Scope} {a : Addr} {ccd : Value} {cl : List (Str × Addr)} {outer : List Env} {A₀ : Around} {base h₀ : Heap} {L : Addr} {m : Str → Option Value} {news : List (Addr × Obj)} {s : Shared} {Q E : Value → Shared → Prop}
   {n : Int} {t : Tok}
  (B : Below A₀ base outer h₀) (F : Fr h₀ L s.heap m) (X : (hd.heap_39 w.params).In h₀) (N : News h₀ L s.heap news) (T : Top hd.view_39 (looseW hd.view_39 []) mean mg mb h₀) (hk : cs.kind = .function)
  (h0 : 0 ≤ n) (h1 : n < 262144) (hd : dp + 2 < recursionLimit) (hu : un + 100 < cLine)
  (hret : ∀ t h' tk', Fr h₀ L h' m → News h₀ L h' news → Q (.str (signsS n) t) {s with heap := h', toks := tk'}) :
  wpAny (model PySem.Challenge.rw_pg0035_01.row.prog w) (ktrTop dp un gd cn cs L a ccd cl outer) (call (.ref 49) [.int n t]) Q E s := by
  w_top off
  revert X
  k_fill
  intro X
  obtain ⟨k, rfl⟩ := Int.eq_ofNat_of_zero_le h0
  refine wpAny_call ?_
  rcases (by omega : k < 64 ∨ (64 ≤ k ∧ k < 4096) ∨ (4096 ≤ k)) with h2 | ⟨h2, h3⟩ | h2
  · have hs : sizeI k = 1 := by unfold sizeI; (repeat' split) <;> omega
    have he : signsS k = ⟨#[k]⟩ := by unfold signsS; rw [show ((k : Nat) : Int).toNat = k by omega, enc_one h2]
    rw [he] at hret
    k_dflt cell_enter
    k_steps
    refine cb_retS hret ?_ (by k_asm) (by k_asm)
    rw [app0, fdiv_pow, fmod64]
    congr 3
    show ((k : Int) / 1 % 64 + 0).toNat = k
    omega
  · have hs : sizeI k = 2 := by unfold sizeI; (repeat' split) <;> omega
    have he : signsS k = ⟨#[k / 64 + 64, k % 64]⟩ := by unfold signsS; rw [show ((k : Nat) : Int).toNat = k by omega, enc_two h2 h3]
    rw [he] at hret
    k_dflt cell_enter
    k_steps
    refine cb_retS hret ?_ (by k_asm) (by k_asm)
    rw [app0, app1, fdiv_pow, fdiv_pow, fmod64, fmod64]
    show (⟨#[_, _]⟩ : Str) = _
    congr 3
    · show ((k : Int) / 64 % 64 + 64).toNat = k / 64 + 64
      omega
    · congr 1
      show ((k : Int) / 1 % 64 + 0).toNat = k % 64
      omega
  · have hs : sizeI k = 3 := by unfold sizeI; (repeat' split) <;> omega
    have he : signsS k = ⟨#[k / 4096 + 64, k / 64 % 64 + 64, k % 64]⟩ := by unfold signsS; rw [show ((k : Nat) : Int).toNat = k by omega, enc_three h2 (by omega)]
    rw [he] at hret
    k_dflt cell_enter
    k_steps
    refine cb_retS hret ?_ (by k_asm) (by k_asm)
    rw [app0, app1, app1, fdiv_pow, fdiv_pow, fdiv_pow, fmod64, fmod64, fmod64]
    show (⟨#[_, _, _]⟩ : Str) = _
    congr 3
    · show ((k : Int) / 4096 % 64 + 64).toNat = k / 4096 + 64
      omega
    · congr 1
      congr 1
      show ((k : Int) / 1 % 64 + 0).toNat = k % 64
      omega
end Mine
end

section
open PySem.Builtin PySem.Builtin.Str
namespace Mine
/-! one sign in a text -/
theorem sub_one (x : Str) (c i : Nat) : subAt x ⟨#[c]⟩ i = true ↔ x.cps.toList[i]? = some c := by
  unfold subAt
  show (x.cps.extract i (i + 1) == #[c]) = true ↔ _
  rw [beq_iff_eq]
  constructor
  · intro h
    have h2 := congrArg Array.toList h
    rw [Array.toList_extract] at h2
    have h3 := congrArg (fun l => l[0]?) h2
    simp [List.extract] at h3
    simpa using h3
  · intro h
    apply Array.ext'
    rw [Array.toList_extract]
    have hlt := (List.getElem?_eq_some_iff.mp h).1
    have hg := (List.getElem?_eq_some_iff.mp h).2
    simp only [List.extract, show i + 1 - i = 1 by omega]
    rw [List.drop_eq_getElem_cons hlt, hg]
    rfl
theorem at_one (x : Str) (c hi i : Nat) : StrLaws.At x ⟨#[c]⟩ hi i ↔ i < hi ∧ x.cps.toList[i]? = some c := by
  unfold StrLaws.At
  rw [sub_one]
  show i + 1 ≤ hi ∧ _ ↔ _
  constructor <;> (rintro ⟨a, b⟩; exact ⟨by omega, b⟩)
/-- the first place of a sign below hi -/
theorem occ_one (x : Str) (c hi : Nat) : (occurrences x ⟨#[c]⟩ 0 hi 1 = [] ∧ ∀ i, i < hi → x.cps.toList[i]? ≠ some c) ∨
    ∃ i r, occurrences x ⟨#[c]⟩ 0 hi 1 = i :: r ∧ i < hi ∧ x.cps.toList[i]? = some c ∧ ∀ k, k < i → x.cps.toList[k]? ≠ some c := by
  rw [StrLaws.occ_eq]
  rcases StrLaws.occ_first x ⟨#[c]⟩ hi 1 (Nat.le_refl 1) (List.range' 0 (hi + 1 - 0)) 0 (fun _ _ => Nat.zero_le _) with ⟨h0, hn⟩ | ⟨pre, a, post, e, h0, ha, hn⟩
  · refine .inl ⟨by rw [h0], fun i hi' hc => ?_⟩
    exact hn i (by simp [List.mem_range'] <;> omega) ((at_one x c hi i).mpr ⟨hi', hc⟩)
  · have ha' := (at_one x c hi a).mp ha
    refine .inr ⟨a, ((forIn (List.range' 0 (hi + 1 - 0)) ((#[] : Array Nat), 0) (StrLaws.occBody x ⟨#[c]⟩ hi 1)).run.fst.toList).tail, ?_, ha'.1, ha'.2, fun k hk hc => hn k (StrLaws.range'_split e k hk) ((at_one x c hi k).mpr ⟨by omega, hc⟩)⟩
    generalize (forIn (List.range' 0 (hi + 1 - 0)) ((#[] : Array Nat), 0) (StrLaws.occBody x ⟨#[c]⟩ hi 1)).run.fst = arr at h0
    have h1 : arr.toList[0]? = some a := by simpa using h0
    cases hL : arr.toList with
    | nil => rw [hL] at h1; cases h1
    | cons b t => rw [hL] at h1; simp at h1; rw [h1]; rfl
/-- the last place of a sign below hi -/
theorem last_one (x : Str) (c hi : Nat) : (lastOccurrence x ⟨#[c]⟩ 0 hi = none ∧ ∀ i, i < hi → x.cps.toList[i]? ≠ some c) ∨
    ∃ i, lastOccurrence x ⟨#[c]⟩ 0 hi = some i ∧ i < hi ∧ x.cps.toList[i]? = some c ∧ ∀ k, i < k → k < hi → x.cps.toList[k]? ≠ some c := by
  rw [StrLaws.last_eq]
  have key := StrLaws.last_run x ⟨#[c]⟩ hi (List.range' 0 (hi + 1 - 0)) [] none (fun _ h => nomatch h) (fun _ h => nomatch h) (by simpa using List.pairwise_lt_range' (s := 0) (n := hi + 1 - 0))
  have mem : ∀ i, i < hi → i ∈ [] ++ List.range' 0 (hi + 1 - 0) := fun i hi' => by simp [List.mem_range'] <;> omega
  cases hr : (forIn (List.range' 0 (hi + 1 - 0)) none (StrLaws.lastBody x ⟨#[c]⟩ hi)).run with
  | none => rw [hr] at key; exact .inl ⟨rfl, fun i hi' hc => key i (mem i hi') ((at_one x c hi i).mpr ⟨hi', hc⟩)⟩
  | some a =>
    rw [hr] at key
    have ha := (at_one x c hi a).mp key.1
    exact .inr ⟨a, rfl, ha.1, ha.2, fun k hk hk2 hc => key.2 k (mem k hk2) hk ((at_one x c hi k).mpr ⟨hk2, hc⟩)⟩
/-! _strip_exception_details on the codes -/
theorem col_is : (Str.ofString ":") = ⟨#[58]⟩ := by decide +kernel
theorem dot_is : (Str.ofString ".") = ⟨#[46]⟩ := by decide +kernel
theorem nl_is : (Str.ofString "\n") = ⟨#[10]⟩ := by decide +kernel
theorem from0 (n : Nat) : fromIndex n 0 = 0 := by simp [fromIndex]
theorem fromK (n k : Nat) : fromIndex n (k : Int) = k := by unfold fromIndex; split <;> omega
theorem end_spec (x : Str) : ∃ e : Nat, endS x = (e : Int) ∧ e ≤ x.cps.toList.length ∧ (∀ i, i < e → x.cps.toList[i]? ≠ some 10) ∧ (e < x.cps.toList.length → x.cps.toList[e]? = some 10) := by
  have hlen : x.length = x.cps.toList.length := by simp [Str.length]
  unfold endS Txt.find
  rw [nl_is]
  rcases occ_one x 10 x.length with ⟨h0, hn⟩ | ⟨i, r, h0, hi, hc, hn⟩
  · rw [h0]
    exact ⟨x.length, by simp, by omega, fun i hi => hn i hi, by omega⟩
  · rw [h0]
    exact ⟨i, by simp, by omega, fun k hk => hn k hk, fun _ => hc⟩
theorem col_spec (x : Str) : ∃ e : Nat, colS x = (e : Int) ∧ e ≤ x.cps.toList.length ∧ (∀ i, i < e → x.cps.toList[i]? ≠ some 10 ∧ x.cps.toList[i]? ≠ some 58) ∧ (e < x.cps.toList.length → x.cps.toList[e]? = some 10 ∨ x.cps.toList[e]? = some 58) := by
  have hlen : x.length = x.cps.toList.length := by simp [Str.length]
  obtain ⟨e, he, hle, h10, hat⟩ := end_spec x
  unfold colS findB
  rw [he, col_is, from0, fromK, show min e x.length = e by omega]
  rcases occ_one x 58 e with ⟨h0, hn⟩ | ⟨i, r, h0, hi, hc, hn⟩
  · rw [h0]
    exact ⟨e, by simp, hle, fun i hi => ⟨h10 i hi, hn i hi⟩, fun h => .inl (hat h)⟩
  · rw [h0]
    exact ⟨i, by simp, by omega, fun k hk => ⟨h10 k (by omega), hn k hk⟩, fun _ => .inr hc⟩
def okc (c : Nat) : Bool := c != 10 && c != 58
/-- what _strip_exception_details leaves, on the codes -/
def stripL (cs : List Nat) : List Nat := ((cs.takeWhile okc).reverse.takeWhile (· != 46)).reverse
theorem takeWhile_is {p : Nat → Bool} : ∀ {cs : List Nat} {e : Nat}, e ≤ cs.length → (∀ i c, i < e → cs[i]? = some c → p c = true) → (∀ c, cs[e]? = some c → p c = false) → cs.takeWhile p = cs.take e
  | [], e, _, _, _ => by simp
  | c :: r, 0, _, _, h => by
    have := h c rfl
    simp [this]
  | c :: r, e + 1, hle, h1, h2 => by
    have hc := h1 0 c (by omega) rfl
    rw [List.takeWhile_cons, if_pos hc, List.take_succ_cons]
    congr 1
    exact takeWhile_is (by simpa using hle) (fun i c' hi hc' => h1 (i + 1) c' (by omega) (by simpa using hc')) (fun c' hc' => h2 c' (by simpa using hc'))
theorem takeWhile_all {p : Nat → Bool} {l : List Nat} (h : ∀ c ∈ l, p c = true) : l.takeWhile p = l := by
  rw [takeWhile_is (e := l.length) (Nat.le_refl _) (fun i c _ hc => h c (List.mem_of_getElem? hc)) (fun c hc => by simp at hc)]
  simp
theorem afterDot_none {l : List Nat} (h : ∀ c ∈ l, c ≠ 46) : (l.reverse.takeWhile (· != 46)).reverse = l := by
  rw [takeWhile_all (fun c hc => by simpa using h c (by simpa using hc))]
  simp
theorem afterDot_some {a b : List Nat} (h : ∀ c ∈ b, c ≠ 46) : ((a ++ 46 :: b).reverse.takeWhile (· != 46)).reverse = b := by
  have e : (a ++ 46 :: b).reverse = b.reverse ++ (46 :: a.reverse) := by simp
  rw [e, List.takeWhile_append_of_pos (fun c hc => by simpa using h c (by simpa using hc))]
  simp
theorem strip_codes (x : Str) : (stripS x).cps.toList = stripL x.cps.toList := by
  have hlen : x.length = x.cps.toList.length := by simp [Str.length]
  obtain ⟨e, he, hle, hno, hat⟩ := col_spec x
  have htw : x.cps.toList.takeWhile okc = x.cps.toList.take e := by
    refine takeWhile_is hle (fun i c hi hc => ?_) (fun c hc => ?_)
    · have := hno i hi
      rw [hc] at this
      simp only [ne_eq, Option.some.injEq] at this
      simp [okc, this.1, this.2]
    · have hlt := (List.getElem?_eq_some_iff.mp hc).1
      have := hat hlt
      rw [hc] at this
      simp only [Option.some.injEq] at this
      rcases this with rfl | rfl <;> rfl
  unfold stripL
  rw [htw]
  have sl : ∀ st : Nat, st ≤ e → (Txt.slice x (some (st : Int)) (some (e : Int))).cps.toList = (x.cps.toList.take e).drop st := by
    intro st hst
    have h := slice_closes (x := x) (i := (st : Int)) (j := (e : Int)) ⟨by omega, by omega, by omega⟩
    rw [eq_of_beq h]
    show (x.cps.toList.drop ((st : Int)).toNat).take ((e : Int) - (st : Int)).toNat = _
    rw [List.drop_take]
    congr 1
    · omega
  unfold stripS dotS rfindB
  rw [he, dot_is, from0, fromK, show min e x.length = e by omega]
  rcases last_one x 46 e with ⟨h0, hn⟩ | ⟨i, h0, hi, hc, hn⟩
  · rw [h0]
    have hz := sl 0 (Nat.zero_le _)
    rw [afterDot_none]
    · simpa using hz
    · intro c hc' hd
      subst hd
      obtain ⟨k, hk⟩ := List.getElem?_of_mem hc'
      rw [List.getElem?_take] at hk
      split at hk
      · exact hn k (by assumption) hk
      · cases hk
  · rw [h0]
    have hz := sl (i + 1) (by omega)
    have e3 : x.cps.toList.take e = x.cps.toList.take i ++ 46 :: (x.cps.toList.take e).drop (i + 1) := by
      have hlt : i < (x.cps.toList.take e).length := by rw [List.length_take]; omega
      have h1 := (List.take_append_drop i (x.cps.toList.take e)).symm
      rw [List.drop_eq_getElem_cons hlt] at h1
      have h2 : (x.cps.toList.take e)[i] = 46 := by
        rw [List.getElem_take]
        exact (List.getElem?_eq_some_iff.mp hc).2
      rw [h2, List.take_take, show min i e = i by omega] at h1
      exact h1
    have e4 : (((x.cps.toList.take e).reverse).takeWhile (· != 46)).reverse = (x.cps.toList.take e).drop (i + 1) := by
      conv => lhs; rw [e3]
      refine afterDot_some ?_
      intro c hc' hd
      subst hd
      obtain ⟨k, hk⟩ := List.getElem?_of_mem hc'
      rw [List.getElem?_drop, List.getElem?_take] at hk
      split at hk
      · exact hn _ (by omega) (by assumption) hk
      · cases hk
    rw [e4, ← hz]
    dsimp only
    rw [if_pos (by omega)]
    rfl
end Mine
end

section
open PySem.Builtin PySem.Builtin.Str
namespace Mine
abbrev up (ws : List Nat) : List Int := ws.map fun n => ((n : Nat) : Int)
/-! _law_named -/
noncomputable def namedN : List Nat → Nat → List Nat → List Nat × Nat
  | [], t, ks => (ks, t)
  | n :: r, t, ks => if n % 64 = 10 ∨ n % 64 = 58 then (ks, n / 64) else namedN r t (if n % 64 = 46 then [] else ks ++ [n])
theorem named_cast : ∀ (ws : List Nat) (t : Nat) (ks : List Nat), namedI (up ws) (t : Int) (up ks) = (up (namedN ws t ks).1, ((namedN ws t ks).2 : Int))
  | [], t, ks => rfl
  | n :: r, t, ks => by
    show namedI ((n : Int) :: up r) (t : Int) (up ks) = _
    rw [namedI, namedN, fmod64, fdiv64]
    by_cases h : n % 64 = 10 ∨ n % 64 = 58
    · rw [if_pos (by omega), if_pos h]
      congr 1
    · rw [if_neg (by omega), if_neg h]
      by_cases h2 : n % 64 = 46
      · rw [if_pos (by omega), if_pos h2]
        exact named_cast r t []
      · rw [if_neg (by omega), if_neg h2]
        have := named_cast r t (ks ++ [n])
        simpa [up] using this
theorem enc_app (n : Nat) : enc n = cont (n / 64) ++ [n % 64] := rfl
theorem tw_mem {p : Nat → Bool} : ∀ (l : List Nat), ∀ c ∈ l.takeWhile p, p c = true
  | [], c, h => by cases h
  | a :: r, c, h => by
    rw [List.takeWhile_cons] at h
    split at h
    · rcases List.mem_cons.mp h with rfl | h
      · assumption
      · exact tw_mem r c h
    · cases h
theorem cont_ok {t : Nat} : ∀ c ∈ cont t, okc c = true := by
  intro c hc
  have := cont_ge t c hc
  simp [okc]
  omega
theorem cont_dot {t : Nat} : ∀ c ∈ cont t, c ≠ 46 := by
  intro c hc
  have := cont_ge t c hc
  omega
def Clean (ks : List Nat) : Prop := ∀ n ∈ ks, n % 64 ≠ 10 ∧ n % 64 ≠ 58 ∧ n % 64 ≠ 46
theorem clean_codes {ks : List Nat} (h : Clean ks) : ∀ c ∈ ks.flatMap enc, okc c = true ∧ c ≠ 46 := by
  intro c hc
  obtain ⟨n, hn, hc⟩ := List.mem_flatMap.mp hc
  rw [enc_app] at hc
  rcases List.mem_append.mp hc with hc | hc
  · exact ⟨cont_ok c hc, cont_dot c hc⟩
  · have := List.mem_singleton.mp hc
    subst this
    obtain ⟨h1, h2, h3⟩ := h n hn
    exact ⟨by simp [okc, h1, h2], h3⟩
theorem clean_part {ks : List Nat} (h : Clean ks) (t : Nat) : ∀ c ∈ ks.flatMap enc ++ cont t, okc c = true ∧ c ≠ 46 := by
  intro c hc
  rcases List.mem_append.mp hc with hc | hc
  · exact clean_codes h c hc
  · exact ⟨cont_ok c hc, cont_dot c hc⟩
theorem strip_named : ∀ (ws : List Nat) (t : Nat) (ks : List Nat), Clean ks → stripL (ks.flatMap enc ++ octs ws t) = octs (namedN ws t ks).1 (namedN ws t ks).2
  | [], t, ks, hk => by
    have hc := clean_part hk t
    show stripL (ks.flatMap enc ++ ([] ++ cont t)) = octs ks t
    rw [List.nil_append]
    unfold stripL
    rw [takeWhile_all (fun c h => (hc c h).1), afterDot_none (fun c h => (hc c h).2)]
    rfl
  | n :: r, t, ks, hk => by
    have hc := clean_part hk (n / 64)
    have e : ks.flatMap enc ++ octs (n :: r) t = (ks.flatMap enc ++ cont (n / 64)) ++ (n % 64) :: octs r t := by
      unfold octs
      rw [List.flatMap_cons, enc_app]
      simp
    rw [namedN]
    by_cases h : n % 64 = 10 ∨ n % 64 = 58
    · rw [if_pos h, e]
      unfold stripL
      rw [List.takeWhile_append_of_pos (fun c h => (hc c h).1), List.takeWhile_cons, if_neg (by rcases h with h | h <;> simp [okc, h]), List.append_nil, afterDot_none (fun c h => (hc c h).2)]
      rfl
    · rw [if_neg h]
      by_cases h2 : n % 64 = 46
      · rw [if_pos h2, e]
        have ih := strip_named r t [] (fun _ h => nomatch h)
        rw [← ih]
        show _ = stripL (octs r t)
        unfold stripL
        rw [List.takeWhile_append_of_pos (fun c h => (hc c h).1), List.takeWhile_cons, if_pos (by simp [okc, h2]), h2]
        have e2 : ((ks.flatMap enc ++ cont (n / 64)) ++ 46 :: (octs r t).takeWhile okc).reverse = ((octs r t).takeWhile okc).reverse ++ 46 :: (ks.flatMap enc ++ cont (n / 64)).reverse := by simp
        rw [e2]
        congr 1
        by_cases hall : ∀ c ∈ ((octs r t).takeWhile okc).reverse, (c != 46) = true
        · rw [List.takeWhile_append_of_pos hall, takeWhile_all hall]
          simp
        · rw [List.takeWhile_append]
          rw [if_neg]
          intro hl
          apply hall
          intro c hc'
          have h3 := List.takeWhile_prefix (p := fun c : Nat => c != 46) (l := ((octs r t).takeWhile okc).reverse)
          have h4 : (((octs r t).takeWhile okc).reverse).takeWhile (fun c => c != 46) = ((octs r t).takeWhile okc).reverse := h3.eq_of_length hl
          rw [← h4] at hc'
          exact tw_mem _ c hc'
      · rw [if_neg h2]
        have ih := strip_named r t (ks ++ [n]) (by
          intro k hk'
          rcases List.mem_append.mp hk' with hk' | hk'
          · exact hk k hk'
          · rw [List.mem_singleton.mp hk']
            omega)
        rw [← ih]
        congr 1
        unfold octs
        simp
/-! _law_noted -/
def blanksN : List Nat := [9, 10, 11, 12, 13, 28, 29, 30, 31, 32]
noncomputable def trimN : List Nat → Nat → List Nat × Nat
  | [], t => ([], t)
  | n :: r, t => if t = 0 ∧ n % 64 ∈ blanksN then trimN r (n / 64) else (n :: r, t)
theorem blanks_cast (k : Nat) : ((k : Int) ∈ blanks) ↔ k ∈ blanksN := by
  simp only [blanks, blanksN, List.mem_cons, List.not_mem_nil, or_false]
  omega
theorem trim_cast : ∀ (rs : List Nat) (t : Nat), trimI (up rs) (t : Int) = (up (trimN rs t).1, ((trimN rs t).2 : Int))
  | [], t => rfl
  | n :: r, t => by
    show trimI ((n : Int) :: up r) (t : Int) = _
    rw [trimI, trimN, fmod64, fdiv64]
    have hb := blanks_cast (n % 64)
    rw [Int.natCast_emod] at hb
    by_cases h : t = 0 ∧ n % 64 ∈ blanksN
    · rw [if_pos ⟨by omega, hb.mpr h.2⟩, if_pos h]
      exact trim_cast r (n / 64)
    · rw [if_neg (fun h' => h ⟨by omega, hb.mp h'.2⟩), if_neg h]
      rfl
noncomputable def notedN (ws : List Nat) (t : Nat) : List Nat × Nat :=
  if (trimN ws.reverse t).2 = 0 ∧ (trimN ws.reverse t).1 = [] then ([35], 0) else ([35, 32] ++ (trimN ws.reverse t).1.reverse, (trimN ws.reverse t).2)
theorem noted_cast (ws : List Nat) (t : Nat) : notedI (up ws) (t : Int) = (up (notedN ws t).1, ((notedN ws t).2 : Int)) := by
  unfold notedI notedN
  have e : (up ws).reverse = up ws.reverse := by simp [up]
  rw [e, trim_cast]
  dsimp only
  by_cases h : (trimN ws.reverse t).2 = 0 ∧ (trimN ws.reverse t).1 = []
  · rw [if_pos ⟨by omega, by simp [up, h.2]⟩, if_pos h]
    rfl
  · rw [if_neg (fun h' => h ⟨by omega, by simpa [up] using h'.2⟩), if_neg h]
    simp [up]
/-- rstrip on the codes -/
def rstL (l : List Nat) : List Nat := (l.reverse.dropWhile Unicode.isSpace).reverse
theorem rstL_snoc (l : List Nat) (c : Nat) : rstL (l ++ [c]) = if Unicode.isSpace c = true then rstL l else l ++ [c] := by
  unfold rstL
  rw [List.reverse_append]
  show ((c :: l.reverse).dropWhile Unicode.isSpace).reverse = _
  rw [List.dropWhile_cons]
  split
  · rfl
  · simp
theorem space_is : ∀ c, c < 128 → (Unicode.isSpace c = true ↔ c ∈ blanksN) := by decide +kernel
theorem rst_trim : ∀ (rs : List Nat) (t : Nat), rstL (octs rs.reverse t) = octs (trimN rs t).1.reverse (trimN rs t).2
  | [], t => by
    show rstL ([] ++ cont t) = [] ++ cont t
    rw [List.nil_append]
    by_cases h : t = 0
    · subst h; rw [cont_zero]; rfl
    · rw [cont_pos h, rstL_snoc, if_neg]
      rw [space_is _ (by omega)]
      simp only [blanksN, List.mem_cons, List.not_mem_nil, or_false]
      omega
  | n :: r, t => by
    rw [trimN]
    by_cases ht : t = 0
    · subst ht
      have e : octs (n :: r).reverse 0 = octs r.reverse (n / 64) ++ [n % 64] := by
        unfold octs
        rw [cont_zero, List.reverse_cons, List.flatMap_append]
        simp [enc]
      rw [e, rstL_snoc]
      have hs := space_is (n % 64) (by omega)
      by_cases hb : n % 64 ∈ blanksN
      · rw [if_pos (hs.mpr hb), if_pos ⟨rfl, hb⟩]
        exact rst_trim r (n / 64)
      · rw [if_neg (fun h => hb (hs.mp h)), if_neg (fun h => hb h.2)]
        exact e.symm
    · rw [if_neg (fun h => ht h.1)]
      unfold octs
      rw [cont_pos ht, ← List.append_assoc, rstL_snoc, if_neg]
      rw [space_is _ (by omega)]
      simp only [blanksN, List.mem_cons, List.not_mem_nil, or_false]
      omega
theorem rstrip_codes (x : Str) : (Txt.rstrip x).cps.toList = rstL x.cps.toList := by
  have hlen : x.length = x.cps.toList.length := by simp [Str.length]
  have key : x.cps.toList.take (x.length - (x.cps.toList.reverse.takeWhile Unicode.isSpace).length) = rstL x.cps.toList := by
    unfold rstL
    have h1 : x.cps.toList.reverse = x.cps.toList.reverse.takeWhile Unicode.isSpace ++ x.cps.toList.reverse.dropWhile Unicode.isSpace := (List.takeWhile_append_dropWhile ..).symm
    have h2 : x.cps.toList = (x.cps.toList.reverse.dropWhile Unicode.isSpace).reverse ++ (x.cps.toList.reverse.takeWhile Unicode.isSpace).reverse := by
      have := congrArg List.reverse h1
      rw [List.reverse_reverse, List.reverse_append] at this
      exact this
    have h3 := congrArg List.length h2
    rw [List.length_append, List.length_reverse, List.length_reverse] at h3
    have h4 : x.length - (x.cps.toList.reverse.takeWhile Unicode.isSpace).length = (x.cps.toList.reverse.dropWhile Unicode.isSpace).reverse.length := by rw [List.length_reverse]; omega
    have h5 : ∀ l a b : List Nat, l = a ++ b → l.take a.length = a := by rintro _ a b rfl; simp
    rw [h4]
    exact h5 _ _ _ h2
  unfold Txt.rstrip Txt.stripBy
  split
  · rename_i h
    simp only [stripSame, stripLo, stripHi, Bool.and_eq_true, beq_iff_eq, Bool.false_eq_true, if_false, if_true, List.drop_zero] at h
    rw [← key, h.2, hlen, List.take_length]
  · rw [← key]
    unfold PySem.stripped strSub
    rw [Array.toList_extract]
    simp [stripLo, stripHi, List.extract]
theorem comment_codes (x : Str) : (commentS x).cps.toList = if rstL x.cps.toList = [] then [35] else [35, 32] ++ rstL x.cps.toList := by
  unfold commentS
  have hl : (Txt.rstrip x).length = (rstL x.cps.toList).length := by
    rw [← rstrip_codes]; simp [Str.length]
  by_cases h : rstL x.cps.toList = []
  · rw [if_pos (by rw [hl, h]; rfl), if_pos h]
    decide +kernel
  · rw [if_neg (by rw [hl]; intro h0; exact h (List.length_eq_zero_iff.mp h0)), if_neg h, Str.cps_append, Array.toList_append, rstrip_codes]
    rfl
theorem octs_nil {ws : List Nat} {t : Nat} (h : octs ws t = []) : ws = [] ∧ t = 0 := by
  unfold octs at h
  have h' := List.append_eq_nil_iff.mp h
  refine ⟨?_, cont_nil h'.2⟩
  cases ws with
  | nil => rfl
  | cons n r =>
    have := h'.1
    rw [List.flatMap_cons] at this
    exact absurd (List.append_eq_nil_iff.mp this).1 (enc_ne n)
theorem comment_noted (ws : List Nat) (t : Nat) : (if rstL (octs ws t) = [] then [35] else [35, 32] ++ rstL (octs ws t)) = octs (notedN ws t).1 (notedN ws t).2 := by
  have h := rst_trim ws.reverse t
  rw [List.reverse_reverse] at h
  rw [h]
  unfold notedN
  by_cases h0 : (trimN ws.reverse t).2 = 0 ∧ (trimN ws.reverse t).1 = []
  · rw [if_pos h0, if_pos (by rw [h0.1, h0.2]; simp [octs, cont_zero])]
    simp [octs, cont_zero, enc_one]
  · rw [if_neg h0, if_neg (fun h' => h0 ⟨(octs_nil h').2, by simpa using (octs_nil h').1⟩)]
    unfold octs
    rw [List.flatMap_append]
    simp [enc_one]
/-! sizes -/
theorem cont_lt (t : Nat) : t < 64 ^ (cont t).length := by
  induction t using Nat.strongRecOn with
  | _ t ih =>
    by_cases h : t = 0
    · subst h; rw [cont_zero]; decide
    · rw [cont_pos h, List.length_append, List.length_singleton, Nat.pow_succ]
      have := ih (t / 64) (by omega)
      omega
theorem octs_len (ws : List Nat) (t : Nat) : ws.length + (cont t).length ≤ (octs ws t).length := by
  unfold octs
  rw [List.length_append]
  have : ws.length ≤ (ws.flatMap enc).length := by
    induction ws with
    | nil => simp
    | cons n r ih =>
      rw [List.flatMap_cons, List.length_append, List.length_cons]
      have : 0 < (enc n).length := List.length_pos_iff.mpr (enc_ne n)
      omega
  omega
theorem strip_len (cs : List Nat) : (stripL cs).length ≤ cs.length := by
  unfold stripL
  rw [List.length_reverse]
  refine Nat.le_trans (List.takeWhile_prefix _).length_le ?_
  rw [List.length_reverse]
  exact (List.takeWhile_prefix _).length_le
theorem rst_len (cs : List Nat) : (rstL cs).length ≤ cs.length := by
  unfold rstL
  rw [List.length_reverse]
  refine Nat.le_trans (List.dropWhile_suffix _).length_le ?_
  rw [List.length_reverse]
  exact Nat.le_refl _
theorem enc_len {n : Nat} (h : n < 262144) : (enc n).length ≤ 3 := by
  by_cases h1 : n < 64
  · rw [enc_one h1]; simp
  · by_cases h2 : n < 4096
    · rw [enc_two (by omega) h2]; simp
    · rw [enc_three (by omega) h]; simp
end Mine
end

section
namespace Mine

theorem c_named2 {w : World} {mean : ExcName → Option Value} {mg mb : Str → Option Value} {dp un : Nat} {gd : Option (List Code)} {cn : Str} {cs : Scope} {a : Addr} {ccd : Value} {cl : List (Str × Addr)} {outer : List Env} {A₀ : Around} {base h₀ : Heap} {L : Addr} {m : Str → Option Value} {news : List (Addr × Obj)} {s : Shared} {Q E : Value → Shared → Prop}
   {l : Addr} {vs : List Value} {ns kept : List Int} {nn : Nat} {tn tn' : Int} {t : Tok}
  (B : Below A₀ base outer h₀) (F : Fr h₀ L s.heap m) (X : (hd.heap_39 w.params).In h₀) (N : News h₀ L s.heap news) (T : Top hd.view_39 (looseW hd.view_39 []) mean mg mb h₀) (hk : cs.kind = .function)
  (hl : (l, listOf vs.toArray nn) ∈ news) (hi : IntsAre vs ns) (hlen : ns.length ≤ 100) (hres : namedI ns tn [] = (kept, tn')) (hd : dp + 1 < recursionLimit) (hu : un + 100 < cLine)
  (hret : ∀ ta ka kvs kn t' h' tk', IntsAre kvs kept → Fr h₀ L h' m → News h₀ L h' ((ta, { cls := Value.type "tuple", data := Data.seq #[Value.ref ka, Value.int tn' t'] }) :: (ka, listOf kvs.toArray kn) :: news) → Q (.ref ta) {s with heap := h', toks := tk'}) :
  wpAny (model PySem.Challenge.rw_pg0035_01.row.prog w) (ktrTop dp un gd cn cs L a ccd cl outer) (call (.ref 61) [.ref l, .int tn t]) Q E s := by
  refine c_named B F X N T hk hl hi hlen hd (by omega) ?_
  rw [hres]
  exact hret
theorem c_noted2 {w : World} {mean : ExcName → Option Value} {mg mb : Str → Option Value} {dp un : Nat} {gd : Option (List Code)} {cn : Str} {cs : Scope} {a : Addr} {ccd : Value} {cl : List (Str × Addr)} {outer : List Env} {A₀ : Around} {base h₀ : Heap} {L : Addr} {m : Str → Option Value} {news : List (Addr × Obj)} {s : Shared} {Q E : Value → Shared → Prop}
   {l : Addr} {vs : List Value} {ns kept : List Int} {nn : Nat} {tn tn' : Int} {t : Tok}
  (B : Below A₀ base outer h₀) (F : Fr h₀ L s.heap m) (X : (hd.heap_39 w.params).In h₀) (N : News h₀ L s.heap news) (T : Top hd.view_39 (looseW hd.view_39 []) mean mg mb h₀) (hk : cs.kind = .function)
  (hl : (l, listOf vs.toArray nn) ∈ news) (hi : IntsAre vs ns) (hlen : ns.length ≤ 100) (hres : notedI ns tn = (kept, tn')) (hd : dp + 1 < recursionLimit) (hu : un + 100 < cLine)
  (hret : ∀ ta ka kvs kn t' h' tk', IntsAre kvs kept → Fr h₀ L h' m → News h₀ L h' ((ta, { cls := Value.type "tuple", data := Data.seq #[Value.ref ka, Value.int tn' t'] }) :: (ka, listOf kvs.toArray kn) :: news) → Q (.ref ta) {s with heap := h', toks := tk'}) :
  wpAny (model PySem.Challenge.rw_pg0035_01.row.prog w) (ktrTop dp un gd cn cs L a ccd cl outer) (call (.ref 68) [.ref l, .int tn t]) Q E s := by
  refine c_noted B F X N T hk hl hi hlen hd (by omega) ?_
  rw [hres]
  exact hret
theorem c_strip2 {w : World} {mean : ExcName → Option Value} {mg mb : Str → Option Value} {dp un : Nat} {gd : Option (List Code)} {cn : Str} {cs : Scope} {a : Addr} {ccd : Value} {cl : List (Str × Addr)} {outer : List Env} {A₀ : Around} {base h₀ : Heap} {L : Addr} {m : Str → Option Value} {news : List (Addr × Obj)} {s : Shared} {Q E : Value → Shared → Prop}
   {x y : Str} {t : Tok}
  (B : Below A₀ base outer h₀) (F : Fr h₀ L s.heap m) (X : (hd.heap_39 w.params).In h₀) (N : News h₀ L s.heap news) (T : Top hd.view_39 (looseW hd.view_39 []) mean mg mb h₀) (hk : cs.kind = .function)
  (h0 : x.length ≤ 100) (hres : stripS x = y) (hd : dp + 1 < recursionLimit) (hu : un + 100 < cLine)
  (hret : ∀ t h' tk', Fr h₀ L h' m → News h₀ L h' news → Q (.str y t) {s with heap := h', toks := tk'}) :
  wpAny (model PySem.Challenge.rw_pg0035_01.row.prog w) (ktrTop dp un gd cn cs L a ccd cl outer) (call (.ref 35) [.str x t]) Q E s := by
  subst hres
  exact c_strip B F X N T hk h0 hd hu hret
theorem c_comment2 {w : World} {mean : ExcName → Option Value} {mg mb : Str → Option Value} {dp un : Nat} {gd : Option (List Code)} {cn : Str} {cs : Scope} {a : Addr} {ccd : Value} {cl : List (Str × Addr)} {outer : List Env} {A₀ : Around} {base h₀ : Heap} {L : Addr} {m : Str → Option Value} {news : List (Addr × Obj)} {s : Shared} {Q E : Value → Shared → Prop}
   {x y : Str} {t : Tok}
  (B : Below A₀ base outer h₀) (F : Fr h₀ L s.heap m) (X : (hd.heap_39 w.params).In h₀) (N : News h₀ L s.heap news) (T : Top hd.view_39 (looseW hd.view_39 []) mean mg mb h₀) (hk : cs.kind = .function)
  (h0 : x.length ≤ 100) (hres : commentS x = y) (hd : dp + 1 < recursionLimit) (hu : un + 100 < cLine)
  (hret : ∀ t h' tk', Fr h₀ L h' m → News h₀ L h' news → Q (.str y t) {s with heap := h', toks := tk'}) :
  wpAny (model PySem.Challenge.rw_pg0035_01.row.prog w) (ktrTop dp un gd cn cs L a ccd cl outer) (call (.ref 28) [.str x t]) Q E s := by
  subst hres
  exact c_comment B F X N T hk h0 hd hu hret
/-- one more sign behind the text, read -/
theorem tail_reads {y : Str} {nk : List Nat} {nt : Nat} {n : Int} (ho : y.cps.toList = octs nk nt) :
    readsTo ((y ++ (⟨#[(n.fmod 64).toNat]⟩ : Str)).cps.toList.map fun c => ((c : Nat) : Int)) (up nk ++ [(nt : Int) * 64 + n.fmod 64]) := by
  have hm : n.fmod 64 = n % 64 := fmod64 n
  have e : (y ++ (⟨#[(n.fmod 64).toNat]⟩ : Str)).cps.toList = (nk ++ [nt * 64 + (n.fmod 64).toNat]).flatMap enc := by
    rw [Str.cps_append, Array.toList_append, ho]
    exact octs_one nk nt _ (by omega)
  rw [e]
  have h := reads_enc (nk ++ [nt * 64 + (n.fmod 64).toNat])
  rw [List.map_append] at h
  have e2 : [nt * 64 + (n.fmod 64).toNat].map (fun n => ((n : Nat) : Int)) = [(nt : Int) * 64 + n.fmod 64] := by
    simp only [List.map_cons, List.map_nil]
    congr 1
    omega
  rw [e2] at h
  exact h
theorem tail_codes {y : Str} {nk : List Nat} {nt : Nat} {n : Int} (ho : y.cps.toList = octs nk nt) : ∀ c ∈ (y ++ (⟨#[(n.fmod 64).toNat]⟩ : Str)).cps.toList, c < 128 := by
  have hm : n.fmod 64 = n % 64 := fmod64 n
  intro c hc
  rw [Str.cps_append, Array.toList_append, ho] at hc
  rcases List.mem_append.mp hc with hc | hc
  · exact octs_lt _ _ c hc
  · have := List.mem_singleton.mp (show c ∈ [(n.fmod 64).toNat] from hc)
    omega
theorem tail_len {y : Str} {n : Int} (h : y.length ≤ 60) : (y ++ (⟨#[(n.fmod 64).toNat]⟩ : Str)).length ≤ 100 := by
  rw [strLen_append]
  show y.length + 1 ≤ 100
  omega
theorem str_len (x : Str) : x.length = x.cps.toList.length := by simp [Str.length]
theorem grow_octs {x : Str} {ws : List Nat} {t : Nat} {num : Int} (ho : x.cps.toList = octs ws t) (h0 : 0 ≤ num) (h1 : num < 262144) :
    (x ++ signsS num).cps.toList = octs (ws ++ [t * 64 ^ (sizeI num).toNat + num.toNat]) 0 ∧ (x ++ signsS num).length ≤ x.length + 3 ∧ up (ws ++ [t * 64 ^ (sizeI num).toNat + num.toNat]) = up ws ++ [(t : Int) * 64 ^ (sizeI num).toNat + num] := by
  obtain ⟨k, rfl⟩ := Int.eq_ofNat_of_zero_le h0
  have ek : ((k : Nat) : Int).toNat = k := by omega
  have ec : (signsS k).cps.toList = enc k := by unfold signsS; rw [ek]
  refine ⟨?_, ?_, ?_⟩
  · rw [Str.cps_append, Array.toList_append, ho, ec, ek]
    exact octs_join ws t k (by omega)
  · rw [strLen_append, str_len (signsS k), ec]
    have := enc_len (n := k) (by omega)
    omega
  · unfold up
    rw [List.map_append, ek]
    congr 1
theorem size_facts {num : Int} (h0 : 0 ≤ num) : 0 ≤ sizeI num ∧ sizeI num ≤ 3 := by unfold sizeI; (repeat' split) <;> omega
theorem mul_ok {a : Int} {k : Int} (h0 : 0 ≤ k) (h1 : k ≤ 3) : IntMulOk a (64 ^ k.toNat) := by
  refine IntMulOk.of_right (intBits_le_64 ?_ ?_)
  · have : (0 : Int) < 64 ^ k.toNat := Int.pow_pos (by decide)
    omega
  · have hk : k = 0 ∨ k = 1 ∨ k = 2 ∨ k = 3 := by omega
    rcases hk with rfl | rfl | rfl | rfl <;> decide
theorem mul_ok64 {a : Int} : IntMulOk a 64 := IntMulOk.of_right (intBits_le_64 (by decide) (by decide))
theorem ite_y {c : Prop} [Decidable c] {A B : Prop} (h : c) (a : A) : if c then A else B := by rw [if_pos h]; exact a
theorem ite_n {c : Prop} [Decidable c] {A B : Prop} (h : ¬ c) (b : B) : if c then A else B := by rw [if_neg h]; exact b
def menu (k : Int) : Int := if k = 0 then 46 else if k = 1 then 58 else if k = 2 then 10 else 32
theorem menu_bound (k : Int) : 0 ≤ menu k ∧ menu k ≤ 58 := by unfold menu; (repeat' split) <;> omega
theorem menu_item {prog : Program} {w : World} {A : Around} {E : Value → Shared → Prop} {s : Shared} {h₀ : Heap} {L l : Addr} {news : List (Addr × Obj)} {value slice : PySem.Expr} {a b c d : Tok} {k : Int} {nn : Nat} {u : Tok} {Q : Value → Shared → Prop}
    (N : News h₀ L s.heap news) (hm : (l, listOf #[.int 46 a, .int 58 b, .int 10 c, .int 32 d] nn) ∈ news) (h0 : 0 ≤ k) (h1 : k < 4) (h : ∀ t, Q (.int (menu k) t) s)
    (hs : subscripted slice false (.ref l) (.int k u) = operate [.ref l, .int k u] (getItem (.ref l) (.int k u)) := by with_unfolding_all rfl) :
    wpAny (model prog w) A (subscriptTail value slice (.ref l) (.int k u)) Q E s := by
  have hl : s.heap.IsList l #[.int 46 a, .int 58 b, .int 10 c, .int 32 d] := ⟨_, (N _ hm).1, rfl, nn, rfl⟩
  rcases (by omega : k = 0 ∨ k = 1 ∨ k = 2 ∨ k = 3) with rfl | rfl | rfl | rfl
  · exact tail_any hl.typeIs slot_list_getitem.lookup (wpAny_getItem_list hl (by decide) (by decide) rfl (h a)) hs
  · exact tail_any hl.typeIs slot_list_getitem.lookup (wpAny_getItem_list hl (by decide) (by decide) rfl (h b)) hs
  · exact tail_any hl.typeIs slot_list_getitem.lookup (wpAny_getItem_list hl (by decide) (by decide) rfl (h c)) hs
  · exact tail_any hl.typeIs slot_list_getitem.lookup (wpAny_getItem_list hl (by decide) (by decide) rfl (h d)) hs
theorem start_octs : octs [7, 174, 70, 224] 0 = [7, 66, 46, 65, 6, 67, 32] := by
  unfold octs
  rw [cont_zero]
  simp [enc_one, enc_two]
end Mine
end

open Mine
local macro_rules | `(tactic| walk_at "call ref") => `(tactic| (k_here; (with_reducible show wpAny _ _ (call (Value.ref 42) [Value.int _ _]) _ _ _); k_dflt (refine' c_size ?k1 ?k2 ?k3 ?k4 ?k5 ?kK ?p0 ?p1 ?p2 ?kd ?ku ?_; (case k1 => k_asm); (case k2 => k_asm); (case k3 => k_asm); (case k4 => k_asm); (case k5 => k_asm); (case kK => first | exact rfl | assumption); (case p0 => omega); (case p1 => omega); (case p2 => exact rfl); (case kd => ktr_room); (case ku => ktr_units)); intro t9 h9 tk9 F9 N9; (try dsimp only); (try k_fold)))
local macro_rules | `(tactic| walk_at "call ref") => `(tactic| (k_here; (with_reducible show wpAny _ _ (call (Value.ref 49) [Value.int _ _]) _ _ _); k_dflt (refine' c_signs ?k1 ?k2 ?k3 ?k4 ?k5 ?kK ?p0 ?p1 ?kd ?ku ?_; (case k1 => k_asm); (case k2 => k_asm); (case k3 => k_asm); (case k4 => k_asm); (case k5 => k_asm); (case kK => first | exact rfl | assumption); (case p0 => omega); (case p1 => omega); (case kd => ktr_room); (case ku => ktr_units)); intro t9 h9 tk9 F9 N9; (try dsimp only); (try k_fold)))
local macro_rules | `(tactic| walk_at "call ref") => `(tactic| (k_here; (with_reducible show wpAny _ _ (call (Value.ref 28) [Value.str _ _]) _ _ _); k_dflt (refine' c_comment2 ?k1 ?k2 ?k3 ?k4 ?k5 ?kK ?p0 ?p1 ?kd ?ku ?_; (case k1 => k_asm); (case k2 => k_asm); (case k3 => k_asm); (case k4 => k_asm); (case k5 => k_asm); (case kK => first | exact rfl | assumption); (case p0 => omega); (case p1 => k_asm); (case kd => ktr_room); (case ku => ktr_units)); intro t9 h9 tk9 F9 N9; (try dsimp only); (try k_fold)))
local macro_rules | `(tactic| walk_at "call ref") => `(tactic| (k_here; (with_reducible show wpAny _ _ (call (Value.ref 35) [Value.str _ _]) _ _ _); k_dflt (refine' c_strip2 ?k1 ?k2 ?k3 ?k4 ?k5 ?kK ?p0 ?p1 ?kd ?ku ?_; (case k1 => k_asm); (case k2 => k_asm); (case k3 => k_asm); (case k4 => k_asm); (case k5 => k_asm); (case kK => first | exact rfl | assumption); (case p0 => omega); (case p1 => k_asm); (case kd => ktr_room); (case ku => ktr_units)); intro t9 h9 tk9 F9 N9; (try dsimp only); (try k_fold)))
local macro_rules | `(tactic| walk_at "call ref") => `(tactic| (k_here; (with_reducible show wpAny _ _ (call (Value.ref 61) [Value.ref _, Value.int _ _]) _ _ _); k_dflt (refine' c_named2 ?k1 ?k2 ?k3 ?k4 ?k5 ?kK ?p0 ?p1 ?p2 ?p3 ?kd ?ku ?_; (case k1 => k_asm); (case k2 => k_asm); (case k3 => k_asm); (case k4 => k_asm); (case k5 => k_asm); (case kK => first | exact rfl | assumption); (case p0 => k_mem); (case p1 => k_asm); (case p2 => k_asm); (case p3 => k_asm); (case kd => ktr_room); (case ku => ktr_units)); intro ta9 ka9 kvs9 kn9 t9 h9 tk9 hI9 F9 N9; (try dsimp only); (try k_fold)))
local macro_rules | `(tactic| walk_at "call ref") => `(tactic| (k_here; (with_reducible show wpAny _ _ (call (Value.ref 68) [Value.ref _, Value.int _ _]) _ _ _); k_dflt (refine' c_noted2 ?k1 ?k2 ?k3 ?k4 ?k5 ?kK ?p0 ?p1 ?p2 ?p3 ?kd ?ku ?_; (case k1 => k_asm); (case k2 => k_asm); (case k3 => k_asm); (case k4 => k_asm); (case k5 => k_asm); (case kK => first | exact rfl | assumption); (case p0 => k_mem); (case p1 => k_asm); (case p2 => k_asm); (case p3 => k_asm); (case kd => ktr_room); (case ku => ktr_units)); intro ta9 ka9 kvs9 kn9 t9 h9 tk9 hI9 F9 N9; (try dsimp only); (try k_fold)))
local macro_rules | `(tactic| walk_at "call ref") => `(tactic| (k_here; (with_reducible show wpAny _ _ (call (Value.ref 54) [Value.str _ _]) _ _ _); k_dflt (refine' c_read ?k1 ?k2 ?k3 ?k4 ?k5 ?kK ?p0 ?p1 ?p2 ?p3 ?p4 ?kd ?ku ?_; (case k1 => k_asm); (case k2 => k_asm); (case k3 => k_asm); (case k4 => k_asm); (case k5 => k_asm); (case kK => first | exact rfl | assumption); (case p0 => k_asm); (case p1 => k_asm); (case p2 => k_asm); (case p3 => k_asm); (case p4 => k_asm); (case kd => ktr_room); (case ku => ktr_units)); intro D9 ys9 nn9 h9 tk9 hI9 F9 N9; (try dsimp only); (try k_fold)))
local macro_rules | `(tactic| walk_at "exec For Name Call cons nil") => `(tactic| ((with_reducible show wpAny _ _ (exec (Stmt.For _ _ _ _ _) _) _ _ _); refine Halt.out ?_))
local macro_rules | `(tactic| walk_at "exec For Name Name cons nil") => `(tactic| ((with_reducible show wpAny _ _ (exec (Stmt.For _ _ _ _ _) _) _ _ _); refine Halt.out ?_))
local macro_rules | `(tactic| walk_at "exec For") => `(tactic| ((with_reducible show wpAny _ _ (exec (Stmt.For _ _ _ _ _) _) _ _ _); refine Halt.out ?_))
local macro_rules | `(tactic| walk_at "binaryOp Add ref ref") => `(tactic| (k_here; (with_reducible show wpAny _ _ (binaryOp _ (Value.ref _) (Value.ref _)) _ _ _); k_dflt (refine' kmk_add_ints ?F ?N ?a ?b ?i ?j ?_ ?z; (case F => k_asm); (case N => k_asm); (case a => kmk_list); (case b => kmk_list); (case i => l_ints); (case j => l_ints); (case z => (simp only [sizeLine_eq, List.length_cons, List.length_nil, List.length_append]; omega))); intro D' ws' h' F' N' l1 hI'; (try k_lt l1); (try k_sweep)))
local macro_rules | `(tactic| walk_at "compareOp NotEq ref ref") => `(tactic| (k_here; (with_reducible show wpAny _ _ (compareOp CmpOp.NotEq (Value.ref _) (Value.ref _)) _ _ _); k_dflt (refine' ke_ne_ints ?a ?b ?i ?j ?u ?_; (case a => is_list); (case b => is_list); (case i => l_ints); (case j => l_ints); (case u => ktr_units)); (try simp only [List.append_eq_nil_iff, List.cons_ne_nil, and_false, decide_false, decide_true, Bool.not_false, Bool.not_true, eq_self])))
local macro_rules | `(tactic| walk_at "compareOp Eq ref ref") => `(tactic| (k_here; (with_reducible show wpAny _ _ (compareOp CmpOp.Eq (Value.ref _) (Value.ref _)) _ _ _); k_dflt (refine' ke_eq_ints ?a ?b ?i ?j ?u ?_; (case a => is_list); (case b => is_list); (case i => l_ints); (case j => l_ints); (case u => ktr_units)); (try simp only [List.append_eq_nil_iff, List.cons_ne_nil, and_false, decide_false, decide_true, Bool.not_false, Bool.not_true, eq_self])))
local macro_rules | `(tactic| walk_at "ite") => `(tactic| (first | (refine ite_y (by first | assumption | (simp only [beq_iff_eq, decide_eq_true_eq]; assumption)) ?_) | (refine ite_n (by first | assumption | (simp only [beq_iff_eq, decide_eq_true_eq]; assumption)) ?_)))
local macro_rules | `(tactic| walk_at "subscriptTail") => `(tactic| (k_here; (with_reducible show wpAny _ _ (subscriptTail _ _ (Value.ref _) (Value.int _ _)) _ _ _); k_dflt (refine' menu_item ?N ?hm ?h0 ?h1 ?_ ?hs; (case N => k_asm); (case hm => k_mem); (case h0 => k_asm); (case h1 => k_asm); (case hs => with_unfolding_all rfl)); intro t9))
local macro_rules | `(tactic| walk_at "pyIter ref") => `(tactic| ((with_reducible show wpAny _ _ (pyIter (Value.ref _)) _ _ _); refine Halt.out ?_))
local macro_rules | `(tactic| walk_at "call builtin:chr") => `(tactic| (k_here; k_dflt (refine chr_of_range (by assumption) (by assumption) ?_)))
local macro_rules | `(tactic| walk_at "TurnPost") => `(tactic| (dsimp only [TurnPost]))
local macro_rules | `(tactic| walk_at "binaryOp Mult int int") => `(tactic| (k_here; k_dflt (refine mul_int ?_ (by first | exact mul_ok64 | exact mul_ok (by omega) (by omega)))))

set_option maxRecDepth 100000 in
set_option maxHeartbeats 8000000 in
theorem PySem.Challenge.cw_pg0035_01_holds : PySem.Challenge.rw_pg0035_01.Holds := by
  refine Mine.hd ?_
  k_go0
  (all_goals try k_fold)
  k_steps
  unfold Halt
  rename Fr _ _ _ _ => F1
  rename (¬ _ < _) => hc63
  refine For_invVF F1 rfl rfl ?_ (by intro _; rfl) (by with_unfolding_all passes_own)
  k_steps
  unfold Halt
  rename_i D8 ws8 h8 F8 N8 hI8 hl8
  refine' loopL (news := [(D8, PySem.W.listOf ws8.toArray 0)]) (σ := Addr × List Value × Nat × Str × Tok × List Nat × Nat × Tok) (fun c => [(c.1, PySem.W.listOf c.2.1.toArray c.2.2.1)]) (fun c => [("text", .str c.2.2.2.1 c.2.2.2.2.1), ("torn", .int (c.2.2.2.2.2.2.1 : Int) c.2.2.2.2.2.2.2), ("whole", .ref c.1)]) ["rest", "number"]
    (fun i c => IntsAre c.2.1 (up c.2.2.2.2.2.1) ∧ c.2.2.2.1.cps.toList = octs c.2.2.2.2.2.1 c.2.2.2.2.2.2.1 ∧ c.2.2.2.1.length ≤ 7 + 3 * i) ⟨?ka, ?kvs, ?kn, ?x, ?tx, [7, 174, 70, 224], 0, ?tt⟩ rfl (.head _) hI8 F8 (cb_drop N8 ?hs) ?hk ?hp ?turn ?done
  case hk => kst_all
  case hs => kst_inAny
  case hp =>
    dsimp only
    refine ⟨.cons 7 _ (.cons 174 _ (.cons 70 _ (.cons 224 _ .nil))), ?_, by decide +kernel⟩
    rw [start_octs]
    decide +kernel
  case turn =>
    rintro ⟨ka, kvs, kn, x, tx, ws, t, tt⟩ i n tn u h tk I oI hni ⟨hints, hoct, hxl⟩ hcI F2 N2
    dsimp only [kstB] at F2 N2 hints hoct hxl
    simp only [List.cons_append, List.nil_append] at N2
    have hi12 : i < 12 := by
      have h1 := (List.getElem?_eq_some_iff.mp hni).1
      rw [List.length_append, List.length_take] at h1
      simp only [List.length_cons, List.length_nil] at h1
      omega
    have hwl : (up ws).length ≤ 100 := by
      have h1 := octs_len ws t
      rw [← hoct, ← str_len] at h1
      simp only [up, List.length_map]
      omega
    have hx100 : x.length ≤ 100 := by omega
    have hch0 : 0 ≤ n.fmod 64 := by have h := fmod64 n; omega
    have hch1 : n.fmod 64 ≤ 1114111 := by have h := fmod64 n; omega
    rcases (by have h := fmod64 n; have h2 : n.fmod 4 = n % 4 := Int.fmod_eq_emod_of_nonneg _ (by decide); omega : n.fmod 4 = 2 ∨ n.fmod 4 = 3 ∨ n.fmod 4 = 0 ∨ n.fmod 4 = 1) with h4 | h4 | h4 | h4
    · obtain ⟨y, hy⟩ : ∃ y, stripS x = y := ⟨_, rfl⟩
      obtain ⟨nk, nt, hnk⟩ : ∃ nk nt, namedN ws t [] = (nk, nt) := ⟨_, _, rfl⟩
      have hnm : namedI (up ws) (t : Int) [] = (up nk, (nt : Int)) := by
        have := named_cast ws t []
        rw [hnk] at this
        exact this
      have hyo : y.cps.toList = octs nk nt := by
        have := strip_named ws t [] (fun _ h => nomatch h)
        rw [hnk] at this
        rw [← hy, strip_codes, hoct]
        exact this
      have hyl : y.length ≤ x.length := by
        rw [← hy, str_len, str_len, strip_codes]
        exact strip_len _
      have hy60 : y.length ≤ 60 := by omega
      have hr1 := tail_reads (n := n) hyo
      have hr2 := tail_codes (n := n) hyo
      have hr3 := tail_len (n := n) hy60
      have hnkl : (up nk).length ≤ 100 := by
        have h1 := octs_len nk nt
        rw [← hyo, ← str_len] at h1
        simp only [up, List.length_map]
        omega
      k_steps
      refine' TurnEnd.intro ⟨?ka1, ?kvs1, ?kn1, y, ?tx1, nk, nt, ?tt1⟩ ?F1 ?N1 ?hs1 ?hc1 ?hk1 ?hr1 ?hp1
      case F1 => k_asm
      case hk1 => kst_all
      case N1 => k_asm
      case hs1 => kst_inAny
      case hc1 => simp
      case hr1 => kst_same
      case hp1 => exact ⟨by k_asm, hyo, by dsimp only; omega⟩
    · obtain ⟨y, hy⟩ : ∃ y, commentS x = y := ⟨_, rfl⟩
      obtain ⟨nk, nt, hnk⟩ : ∃ nk nt, notedN ws t = (nk, nt) := ⟨_, _, rfl⟩
      have hnm : notedI (up ws) (t : Int) = (up nk, (nt : Int)) := by
        have := noted_cast ws t
        rw [hnk] at this
        exact this
      have hyo : y.cps.toList = octs nk nt := by
        have := comment_noted ws t
        rw [hnk] at this
        rw [← hy, comment_codes, hoct]
        exact this
      have hyl : y.length ≤ x.length + 2 := by
        rw [← hy, str_len, str_len, comment_codes]
        have h1 := rst_len x.cps.toList
        split
        · simp only [List.length_cons, List.length_nil]; omega
        · simp only [List.length_append, List.length_cons, List.length_nil]; omega
      have hy60 : y.length ≤ 60 := by omega
      have hr1 := tail_reads (n := n) hyo
      have hr2 := tail_codes (n := n) hyo
      have hr3 := tail_len (n := n) hy60
      have hnkl : (up nk).length ≤ 100 := by
        have h1 := octs_len nk nt
        rw [← hyo, ← str_len] at h1
        simp only [up, List.length_map]
        omega
      have hN2 : ¬ n.fmod 4 = 2 := by omega
      k_steps
      refine' TurnEnd.intro ⟨?ka2, ?kvs2, ?kn2, y, ?tx2, nk, nt, ?tt2⟩ ?F2 ?N2 ?hs2 ?hc2 ?hk2 ?hr2 ?hp2
      case F2 => k_asm
      case hk2 => kst_all
      case N2 => k_asm
      case hs2 => kst_inAny
      case hc2 => simp
      case hr2 => kst_same
      case hp2 => exact ⟨by k_asm, hyo, by dsimp only; omega⟩
    · have hN2 : ¬ n.fmod 4 = 2 := by omega
      have hN3 : ¬ n.fmod 4 = 3 := by omega
      have hm0 : (n.fdiv 4).fmod 4096 = (n.fdiv 4) % 4096 := Int.fmod_eq_emod_of_nonneg _ (by decide)
      have hn0 : 0 ≤ (n.fdiv 4).fmod 4096 := by omega
      have hn1 : (n.fdiv 4).fmod 4096 < 262144 := by omega
      obtain ⟨hyo, hyl, hup⟩ := grow_octs hoct hn0 hn1
      have hsf := size_facts hn0
      have hs0 := hsf.1
      have hs1 := hsf.2
      have hy60 : (x ++ signsS ((n.fdiv 4).fmod 4096)).length ≤ 60 := by omega
      have hr1 := tail_reads (n := n) hyo
      rw [hup] at hr1
      have hr1' : readsTo (((x ++ signsS ((n.fdiv 4).fmod 4096)) ++ (⟨#[(n.fmod 64).toNat]⟩ : Str)).cps.toList.map fun c => ((c : Nat) : Int)) ((up ws ++ [(t : Int) * 64 ^ (sizeI ((n.fdiv 4).fmod 4096)).toNat + ((n.fdiv 4).fmod 4096)]) ++ [0 * 64 + n.fmod 64]) := hr1
      have hr2 := tail_codes (n := n) hyo
      have hr3 := tail_len (n := n) hy60
      have hupl : (up ws ++ [(t : Int) * 64 ^ (sizeI ((n.fdiv 4).fmod 4096)).toNat + ((n.fdiv 4).fmod 4096)]).length ≤ 200 := by
        simp only [List.length_append, List.length_cons, List.length_nil]; omega
      k_steps
      refine' TurnEnd.intro ⟨?ka3, ?kvs3, ?kn3, x ++ signsS ((n.fdiv 4).fmod 4096), ?tx3, ws ++ [t * 64 ^ (sizeI ((n.fdiv 4).fmod 4096)).toNat + ((n.fdiv 4).fmod 4096).toNat], 0, ?tt3⟩ ?F3 ?N3 ?hs3 ?hc3 ?hk3 ?hr3 ?hp3
      case F3 => k_asm
      case hk3 => kst_all
      case N3 => k_asm
      case hs3 => kst_inAny
      case hc3 => simp
      case hr3 => kst_same
      case hp3 => exact ⟨by (dsimp only; rw [hup]; k_asm), hyo, by dsimp only; omega⟩
    · have hN2 : ¬ n.fmod 4 = 2 := by omega
      have hN3 : ¬ n.fmod 4 = 3 := by omega
      have hN0 : ¬ n.fmod 4 = 0 := by omega
      have hm0 : (n.fdiv 4).fmod 4096 = (n.fdiv 4) % 4096 := Int.fmod_eq_emod_of_nonneg _ (by decide)
      have hm1 : ((n.fdiv 4).fmod 4096).fdiv 4 = ((n.fdiv 4).fmod 4096) / 4 := Int.fdiv_eq_ediv_of_nonneg _ (by decide)
      have hm2 : ((n.fdiv 4).fmod 4096).fmod 4 = ((n.fdiv 4).fmod 4096) % 4 := Int.fmod_eq_emod_of_nonneg _ (by decide)
      have hk0 : 0 ≤ ((n.fdiv 4).fmod 4096).fmod 4 := by omega
      have hk1 : ((n.fdiv 4).fmod 4096).fmod 4 < 4 := by omega
      have hmb := menu_bound (((n.fdiv 4).fmod 4096).fmod 4)
      have hmb0 := hmb.1
      have hmb1 := hmb.2
      have hn0 : 0 ≤ ((n.fdiv 4).fmod 4096).fdiv 4 * 64 + menu (((n.fdiv 4).fmod 4096).fmod 4) := by omega
      have hn1 : ((n.fdiv 4).fmod 4096).fdiv 4 * 64 + menu (((n.fdiv 4).fmod 4096).fmod 4) < 262144 := by omega
      obtain ⟨hyo, hyl, hup⟩ := grow_octs hoct hn0 hn1
      have hsf := size_facts hn0
      have hs0 := hsf.1
      have hs1 := hsf.2
      have hy60 : (x ++ signsS (((n.fdiv 4).fmod 4096).fdiv 4 * 64 + menu (((n.fdiv 4).fmod 4096).fmod 4))).length ≤ 60 := by omega
      have hr1 := tail_reads (n := n) hyo
      rw [hup] at hr1
      have hr1' : readsTo (((x ++ signsS (((n.fdiv 4).fmod 4096).fdiv 4 * 64 + menu (((n.fdiv 4).fmod 4096).fmod 4))) ++ (⟨#[(n.fmod 64).toNat]⟩ : Str)).cps.toList.map fun c => ((c : Nat) : Int)) ((up ws ++ [(t : Int) * 64 ^ (sizeI (((n.fdiv 4).fmod 4096).fdiv 4 * 64 + menu (((n.fdiv 4).fmod 4096).fmod 4))).toNat + (((n.fdiv 4).fmod 4096).fdiv 4 * 64 + menu (((n.fdiv 4).fmod 4096).fmod 4))]) ++ [0 * 64 + n.fmod 64]) := hr1
      have hr2 := tail_codes (n := n) hyo
      have hr3 := tail_len (n := n) hy60
      have hupl : (up ws ++ [(t : Int) * 64 ^ (sizeI (((n.fdiv 4).fmod 4096).fdiv 4 * 64 + menu (((n.fdiv 4).fmod 4096).fmod 4))).toNat + (((n.fdiv 4).fmod 4096).fdiv 4 * 64 + menu (((n.fdiv 4).fmod 4096).fmod 4))]).length ≤ 200 := by
        simp only [List.length_append, List.length_cons, List.length_nil]; omega
      k_steps
      refine' TurnEnd.intro ⟨?ka4, ?kvs4, ?kn4, x ++ signsS (((n.fdiv 4).fmod 4096).fdiv 4 * 64 + menu (((n.fdiv 4).fmod 4096).fmod 4)), ?tx4, ws ++ [t * 64 ^ (sizeI (((n.fdiv 4).fmod 4096).fdiv 4 * 64 + menu (((n.fdiv 4).fmod 4096).fmod 4))).toNat + (((n.fdiv 4).fmod 4096).fdiv 4 * 64 + menu (((n.fdiv 4).fmod 4096).fmod 4)).toNat], 0, ?tt4⟩ ?F4 ?N4 ?hs4 ?hc4 ?hk4 ?hr4 ?hp4
      case F4 => k_asm
      case hk4 => kst_all
      case N4 => k_asm
      case hs4 => kst_inAny
      case hc4 => simp
      case hr4 => kst_same
      case hp4 => exact ⟨by (dsimp only; rw [hup]; k_asm), hyo, by dsimp only; omega⟩
  case done =>
    rintro ⟨ka, kvs, kn, x, tx, ws, t, tt⟩ u h tk _ F2 N2
    dsimp only [kstB] at F2 N2
    k_steps

