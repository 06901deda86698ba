import PyProof.Rows.All
import Wide.All
import OpenK.AllK
import Wide.FinOn
import PySem.Challenge.RW_wc0009_01
section
open PySem PySem.W PyProof.Rows
set_option Elab.async false
set_option maxRecDepth 100000
set_option maxHeartbeats 8000000
namespace Mine
open_top hd for PySem.Challenge.rw_wc0009_01
end Mine
end
section
open PySem PySem.W PyProof.Rows
set_option Elab.async false
set_option maxRecDepth 100000
set_option maxHeartbeats 8000000
namespace Mine
noncomputable abbrev PR : Program := (OpenLaw.row PySem.Challenge.rw_wc0009_01).toRowW.prog
noncomputable abbrev LO : List Str := looseW Mine.hd.view_39 [Str.ofString "Whitespace"]
def qs (n : Nat) : Str := ⟨Array.replicate n 34⟩
theorem qs_len (n : Nat) : (qs n).length = n := by simp [qs, Str.length]
theorem qs_succ (n : Nat) : qs n ++ Str.ofString "\"" = qs (n + 1) := by
  apply Str.ext'
  show (qs n).cps ++ (Str.ofString "\"").cps = _
  rw [show (Str.ofString "\"").cps = #[34] from by decide +kernel]
  simp [qs, Array.replicate_succ]
theorem qs_zero : qs 0 = Str.ofString "" := by decide +kernel

/-- parse257's loop: k marks are taken, half of them kept -/
def PInv (n : Nat) (i : Int) (d : Str) : Prop := 5 ≤ i ∧ i ≤ n + 5 ∧ ∃ k : Nat, i = 5 + 2 * k ∧ d = qs k ∧ 2 * k ≤ n
theorem PInv.start (n : Nat) : PInv n 5 (Str.ofString "") := ⟨by omega, by omega, 0, by omega, qs_zero.symm, by omega⟩
theorem PInv.lo {n : Nat} {i : Int} {d : Str} (h : PInv n i d) : 5 ≤ i := h.1
theorem PInv.hi {n : Nat} {i : Int} {d : Str} (h : PInv n i d) : i ≤ n + 5 := h.2.1
theorem PInv.step {n : Nat} {i : Int} {d : Str} (h : PInv n i d) (h2 : i + 1 < n + 5) : PInv n (i + 1 + 1) (d ++ Str.ofString "\"") := by
  obtain ⟨h3, h4, k, rfl, rfl, h5⟩ := h
  exact ⟨by omega, by omega, k + 1, by omega, qs_succ k, by omega⟩
theorem PInv.fin {n : Nat} {i : Int} {d : Str} (h : PInv n i d) (h2 : (n : Int) + 5 ≤ i + 1) : d = qs (n / 2) := by
  obtain ⟨h3, h4, k, rfl, rfl, h5⟩ := h
  congr 1; omega
theorem PInv.len {n : Nat} {i : Int} {d : Str} (h : PInv n i d) : d.length ≤ n := by
  obtain ⟨h3, h4, k, rfl, rfl, h5⟩ := h
  rw [qs_len]; omega
end Mine
end
section
open PySem PySem.W PyProof.Rows PySem.Calls PySem.Spec
set_option Elab.async false
set_option maxRecDepth 100000
set_option maxHeartbeats 8000000
namespace Mine

def JEnd {σ : Type} (h₀ : Heap) (L : Addr) (s : Shared) (x : Str) (Led : σ → List (Addr × Obj)) (ps : σ → List (Str × Value)) (stored : List Str) (m₀ : Str → Option Value) (P : σ → Array GenState → Prop) (I : Addr) (o : Obj) (s₂ : Shared) : Prop :=
  ∃ (c' : σ) (h' : Heap) (tk : Nat) (gs : Array GenState) (m' : Str → Option Value) (news' : List (Addr × Obj)), s₂ = { s with heap := h', toks := tk, gens := gs } ∧ Fr h₀ L h' m' ∧ News h₀ L h' news' ∧ (I, o) ∈ news' ∧
    (∀ p ∈ Led c', p ∈ news' ∧ p.1 ≠ I) ∧ (∀ p ∈ ps c', m' p.1 = some p.2) ∧ (∀ z, z ≠ x → (∀ p ∈ ps c', z ≠ p.1) → stored.contains z = false → m' z = m₀ z) ∧ P c' gs
/-- what holds ahead of the turn i, in n + 1 - i turns to go -/
inductive LInv {σ : Type} (h₀ : Heap) (L I : Addr) (s : Shared) (x : Str) (Led : σ → List (Addr × Obj)) (ps : σ → List (Str × Value)) (stored : List Str) (m₀ : Str → Option Value) (P : Nat → σ → Array GenState → Prop) (St : Nat → Heap → Prop) (n k : Nat) (s' : Shared) : Prop
  | mk (h' : Heap) (tk : Nat) (gs : Array GenState) (m' : Str → Option Value) (c : σ) (i : Nat) (e : s' = { s with heap := h', toks := tk, gens := gs }) (st : St i h') (F : Fr h₀ L h' m') (N : News h₀ L h' (Led c)) (hnI : ∀ p ∈ Led c, p.1 ≠ I) (hps : ∀ p ∈ ps c, m' p.1 = some p.2)
    (hr : ∀ z, z ≠ x → (∀ p ∈ ps c, z ≠ p.1) → stored.contains z = false → m' z = m₀ z) (hP : P i c gs) (hi : i ≤ n) (hk : k = n + 1 - i) : LInv h₀ L I s x Led ps stored m₀ P St n k s'
def JPost {σ : Type} (h₀ : Heap) (L : Addr) (s : Shared) (x : Str) (Led : σ → List (Addr × Obj)) (ps : σ → List (Str × Value)) (stored : List Str) (m₀ : Str → Option Value) (P : σ → Array GenState → Prop) (I : Addr) (o : Obj) (Q : Flow → Shared → Prop) (f : Flow) (s₂ : Shared) : Prop :=
  match f with
  | .ret v => Q (.ret v) s₂
  | .brk => Q .next s₂
  | _ => JEnd h₀ L s x Led ps stored m₀ P I o s₂
theorem JEnd.intro {σ : Type} {h₀ : Heap} {L : Addr} {s : Shared} {x : Str} {Led : σ → List (Addr × Obj)} {ps : σ → List (Str × Value)} {stored : List Str} {m₀ m' : Str → Option Value} {P : σ → Array GenState → Prop} {I : Addr} {o : Obj}
    {h' : Heap} {tk : Nat} {gs : Array GenState} {news' : List (Addr × Obj)} (c' : σ) (F : Fr h₀ L h' m') (N : News h₀ L h' news') (hI : (I, o) ∈ news') (hn : ∀ p ∈ Led c', p ∈ news' ∧ p.1 ≠ I) (hk : ∀ p ∈ ps c', m' p.1 = some p.2)
    (hr : ∀ z, z ≠ x → (∀ p ∈ ps c', z ≠ p.1) → stored.contains z = false → m' z = m₀ z) (hp : P c' gs) : JEnd h₀ L s x Led ps stored m₀ P I o { s with heap := h', toks := tk, gens := gs } :=
  ⟨c', h', tk, gs, m', news', rfl, F, N, hI, hn, hk, hr, hp⟩

section
variable {prog : Program} {w : World} {A : Around} {E : Value → Shared → Prop} {env : Env} {h₀ : Heap} {x : Str} {body : List Stmt} {Q : Flow → Shared → Prop}

/-- a loop by an invariant over a state σ; generators may be made in a turn -/
inductive LoopG {σ : Type} (prog : Program) (w : World) (A : Around) (h₀ : Heap) (env : Env) (x : Str) (body : List Stmt) (Led : σ → List (Addr × Obj)) (ps : σ → List (Str × Value)) (stored : List Str) (P : Nat → σ → Array GenState → Prop) (m₀ : Str → Option Value) (Q : Flow → Shared → Prop) (E : Value → Shared → Prop) (it : Value) (s : Shared) : Prop
  | mk (I : Addr) (fp wr : List Addr) (n : Nat) (Pv : Nat → Value → Prop) (St : Nat → Heap → Prop) (c₀ : σ)
    (hit : it = .ref I) (W : Walks prog w A I fp wr n Pv St) (hIf : I ∈ fp) (hI0 : h₀.get? I = none) (hLf : env.locals ∉ fp)
    (hfp : ∀ b ∈ fp, b = I ∨ (∃ q, h₀.get? b = some q) ∨ (∃ o, ∀ c, (b, o) ∈ Led c)) (hwr : ∀ b ∈ wr, b = I) (hob : ∀ i h, St i h → ∃ o, h.get? I = some o)
    (hst : St 0 s.heap) (F : Fr h₀ env.locals s.heap m₀) (N : News h₀ env.locals s.heap (Led c₀)) (hnI : ∀ p ∈ Led c₀, p.1 ≠ I) (hps : ∀ p ∈ ps c₀, m₀ p.1 = some p.2) (hP : P 0 c₀ s.gens)
    (turn : ∀ i c v (u : Str → Option Value) h tk gs o, i < n → Pv i v → P i c gs → Fr h₀ env.locals h (fun y => if y = x then some v else kstB (fun z => if stored.contains z then u z else m₀ z) (ps c) y) →
      News h₀ env.locals h ((I, o) :: Led c) → (∀ p ∈ Led c, p.1 ≠ I) →
      wpAny (model prog w) A (execs body env) (JPost h₀ env.locals s x Led ps stored m₀ (P (i + 1)) I o Q) E { s with heap := h, toks := tk, gens := gs })
    (done : ∀ c (u : Str → Option Value) h tk gs, P n c gs → Fr h₀ env.locals h (fun y => if y = x then u y else kstB (fun z => if stored.contains z then u z else m₀ z) (ps c) y) → News h₀ env.locals h (Led c) →
      Q .next { s with heap := h, toks := tk, gens := gs }) : LoopG prog w A h₀ env x body Led ps stored P m₀ Q E it s

theorem codeAny_forG {R : Result → Shared → Prop} {σ : Type} {Led : σ → List (Addr × Obj)} {ps : σ → List (Str × Value)} {stored : List Str} {P : Nat → σ → Array GenState → Prop} {m₀ : Str → Option Value} {s : Shared} {px : Pos} {it : Value}
    (hx : env.kindOf x = some .local) (hp : (env.scope.kind == .class || (env.scope.kind == .module && env.locals != env.globals)) = false)
    (H : LoopG prog w A h₀ env x body Led ps stored P m₀ (fun f s' => R (.ok f) s') (notedBy (model prog w) A env fun e s' => R (.error e) s') it s) :
    codeAny (model prog w) A (.forLoop (.Name x px) it body [] env) R s := by
  obtain ⟨I, fp, wr, n, Pv, St, c₀, rfl, W, hIf, hI0, hLf, hfp, hwr, hob, hst, F, N, hnI, hps, hP, turn, done⟩ := H
  have hLI : env.locals ≠ I := fun e => hLf (e ▸ hIf)
  have old : ∀ b o, h₀.get? b = some o → b ∉ wr := fun b o e hb => by rw [hwr b hb, hI0] at e; cases e
  refine codeAny_forLoop
    (LInv h₀ env.locals I s x Led ps stored m₀ P St n) ?_ (n + 1)
    ⟨s.heap, s.toks, s.gens, m₀, c₀, 0, rfl, hst, F, N, hnI, hps, fun _ _ _ _ => rfl, hP, Nat.zero_le _, rfl⟩
  rintro k s' ⟨h', tk, gs, m', c, i, rfl, hst', F', N', hnI', hps', hr', hP', hi, rfl⟩
  have next : ∀ h₁ : Heap, (∀ b o, b ∉ wr → h'.get? b = some o → h₁.get? b = some o) → Fr h₀ env.locals h₁ m' ∧ News h₀ env.locals h₁ (Led c) := fun h₁ hk₁ =>
    ⟨⟨F'.ns.at' fun o e => hk₁ _ o (fun hb => hLI (hwr _ hb)) e, fun b o e => hk₁ b o (old b o e) (F'.keep b o e), F'.above⟩, fun p hp => ⟨hk₁ _ _ (fun hb => hnI' p hp (hwr _ hb)) (N' p hp).1, (N' p hp).2⟩⟩
  by_cases hlt : i < n
  · refine W.item i _ _ _ hlt hst' fun v h₁ tk₁ hPv hst₁ hk₁ => ?_
    obtain ⟨F₁, N₁⟩ := next h₁ hk₁
    refine wpAny_assign_Name (wpAny_storeName_local hx F₁.ns (fun h₂ hn₂ hs₂ => ?_) hp)
    have F₂ := F₁.set hn₂ hs₂
    have hst₂ : St (i + 1) h₂ := W.frame _ _ _ hst₁ fun b hb o e => (hs₂.2 b fun q => hLf (q ▸ hb)).trans e
    obtain ⟨o, ho⟩ := hob _ _ hst₂
    have N₂ : News h₀ env.locals h₂ ((I, o) :: Led c) := by
      intro p hp
      rcases List.mem_cons.mp hp with rfl | hp
      · exact ⟨ho, Ne.symm hLI, hI0⟩
      · exact (N₁.set hs₂) p hp
    refine wpAny_mono (turn i c v m' h₂ _ gs o hlt hPv hP' (kst_fr hps' hr' F₂) N₂ hnI') (fun f s₃ h₃ => ?_) fun _ _ e => e
    have fin : JEnd h₀ env.locals s x Led ps stored m₀ (P (i + 1)) I o s₃ → ∃ k, k < n + 1 - i ∧ LInv h₀ env.locals I s x Led ps stored m₀ P St n k s₃ := by
      rintro ⟨c', h₃', tk₃, gs₃, m₃, news₃, rfl, F₃, N₃, hI₃, hn₃, hk₃, hr₃, hP₃⟩
      refine ⟨n + 1 - (i + 1), by omega, h₃', tk₃, gs₃, m₃, c', i + 1, rfl, ?_, F₃, fun p hp => N₃ p (hn₃ p hp).1, fun p hp => (hn₃ p hp).2, hk₃, hr₃, hP₃, hlt, rfl⟩
      refine W.frame _ _ _ hst₂ fun b hb ob e => ?_
      rcases hfp b hb with rfl | ⟨q, hq⟩ | ⟨o', ho'⟩
      · rw [ho] at e; cases e
        exact (N₃ _ hI₃).1
      · have : q = ob := by have := F₂.keep b q hq; rw [e] at this; exact (Option.some.inj this).symm
        exact this ▸ F₃.keep b q hq
      · have h1 := (N₂ _ (List.mem_cons_of_mem _ (ho' c))).1
        rw [e] at h1; cases h1
        exact (N₃ _ (hn₃ _ (ho' c')).1).1
    cases f with
    | ret v => exact h₃
    | brk => exact h₃
    | cont => exact fin h₃
    | next => exact fin h₃
  · have hin : i = n := by omega
    subst hin
    refine W.done _ _ _ hst' fun h₁ tk₁ hk₁ => wpAny_execs_nil ?_
    obtain ⟨F₁, N₁⟩ := next h₁ hk₁
    exact done c m' h₁ tk₁ gs hP' (kst_frOut hps' hr' F₁) N₁

theorem For_G {s : Shared} {σ : Type} {Led : σ → List (Addr × Obj)} {ps : σ → List (Str × Value)} {stored : List Str} {P : Nat → σ → Array GenState → Prop} {m₀ : Str → Option Value} {px pos : Pos} {iter : Expr}
    (hx : env.kindOf x = some .local) (hp : (env.scope.kind == .class || (env.scope.kind == .module && env.locals != env.globals)) = false)
    (h : wpAny (model prog w) A (eval iter env) (fun xv s₁ => wpAny (model prog w) A (pyIter xv) (fun it s₂ => LoopG prog w A h₀ env x body Led ps stored P m₀ Q E it s₂) E s₁) E s)
    (hs : ∀ x, foldedSetIterable iter env x = pure x := by intro _; rfl)
    (hE : PassesOwn (model prog w) A env E := by passes_own) :
    wpAny (model prog w) A (exec (.For (.Name x px) iter body [] pos) env) Q E s := by
  refine wpAny_For (wpAny_mono h (fun xv s₁ h₁ => wpAny_mono h₁ (fun it s₂ h₂ => ?_) fun _ _ e => e) fun _ _ e => e) hs
  obtain ⟨I, fp, wr, n, Pv, St, c₀, rfl, W, hIf, hI0, hLf, hfp, hwr, hob, hst, F, N, hnI, hps, hP, turn, done⟩ := h₂
  exact codeAny_forG (R := fun r s' => match r with | .ok f => Q f s' | .error e => cameBackBy (model prog w) A env E e s') hx hp
    ⟨I, fp, wr, n, Pv, St, c₀, rfl, W, hIf, hI0, hLf, hfp, hwr, hob, hst, F, N, hnI, hps, hP, (by intros; exact wpAny_passesOwn hE (by apply turn <;> assumption)), done⟩

/-- over a text -/
theorem iter_textG {s : Shared} {σ : Type} {xt : Str} {tx : Tok} {Led : σ → List (Addr × Obj)} {ps : σ → List (Str × Value)} {stored : List Str} {P : Nat → σ → Array GenState → Prop} {m₀ : Str → Option Value} (c₀ : σ)
    (hh : A.handled = none) (F : Fr h₀ env.locals s.heap m₀) (N : News h₀ env.locals s.heap (Led c₀)) (hk : ∀ p ∈ ps c₀, m₀ p.1 = some p.2) (hp : P 0 c₀ s.gens)
    (turn : ∀ i c (n : Nat) t (u : Str → Option Value) h tk gs I o, xt.cps[i]? = some n → P i c gs → Fr h₀ env.locals h (fun y => if y = x then some (.str ⟨#[n]⟩ t) else kstB (fun z => if stored.contains z then u z else m₀ z) (ps c) y) →
      News h₀ env.locals h ((I, o) :: Led c) → (∀ p ∈ Led c, p.1 ≠ I) →
      wpAny (model prog w) A (execs body env) (JPost h₀ env.locals s x Led ps stored m₀ (P (i + 1)) I o Q) E { s with heap := h, toks := tk, gens := gs })
    (done : ∀ c (u : Str → Option Value) h tk gs, P xt.length c gs → Fr h₀ env.locals h (fun y => if y = x then u y else kstB (fun z => if stored.contains z then u z else m₀ z) (ps c) y) → News h₀ env.locals h (Led c) →
      Q .next { s with heap := h, toks := tk, gens := gs }) :
    wpAny (model prog w) A (pyIter (.str xt tx)) (fun it s₂ => LoopG prog w A h₀ env x body Led ps stored P m₀ Q E it s₂) E s := by
  have key : ∀ (o : Obj) (St : Nat → Heap → Prop), Walks prog w A s.heap.objs.size [s.heap.objs.size] [s.heap.objs.size] xt.cps.size (SignAt xt) St → (∀ i h, St i h → ∃ o, h.get? s.heap.objs.size = some o) → St 0 (s.heap.push o) →
      LoopG prog w A h₀ env x body Led ps stored P m₀ Q E (.ref s.heap.objs.size) { s with heap := s.heap.push o } := by
    intro o St W hob hst
    refine ⟨_, _, _, xt.cps.size, _, St, c₀, rfl, W, by simp, next_is_new F, ?_, ?_, ?_, hob, hst, F.push _, fun p hp => ⟨Heap.get?_push_of_some _ (N p hp).1, (N p hp).2⟩, ?_, hk, hp, ?_, ?_⟩
    · intro hm
      exact absurd F.ns.lt ((List.mem_singleton.mp hm) ▸ Nat.lt_irrefl _)
    · intro b hb
      exact .inl (List.mem_singleton.mp hb)
    · intro b hb
      exact List.mem_singleton.mp hb
    · intro p hp e
      exact absurd (Heap.lt_size (N p hp).1) (e ▸ Nat.lt_irrefl _)
    · rintro i c v u h tk gs o' hi ⟨n, t, hn, rfl⟩ hP F₁ N₁ hne
      exact turn i c n t u h tk gs _ o' hn hP F₁ N₁ hne
    · intro c u h tk gs hP F₁ N₁
      exact done c u h tk gs hP F₁ N₁
  cases ha : xt.cps.all (· < 128)
  · exact wpAny_pyIter_wide ha (key _ _ (Walks.strWide hh _ xt tx) (fun i h st => let ⟨o, ho, _⟩ := st; ⟨o, ho⟩) ⟨_, Heap.get?_push_size _ rfl, rfl, rfl⟩)
  · exact wpAny_pyIter_ascii ha (key _ _ (Walks.strAscii hh _ xt tx) (fun i h st => let ⟨o, ho, _⟩ := st; ⟨o, ho⟩) ⟨_, Heap.get?_push_size _ rfl, rfl, rfl⟩)

/-- over a range by ones -/
theorem iter_rangeG {s : Shared} {σ : Type} {r : Addr} {a₀ b₀ : Int} {t₀ u₀ v₀ : Tok} {n : Nat} {Led : σ → List (Addr × Obj)} {ps : σ → List (Str × Value)} {stored : List Str} {P : Nat → σ → Array GenState → Prop} {m₀ : Str → Option Value} (c₀ : σ)
    (hh : A.handled = none) (hr : IsRange s.heap r a₀ b₀ 1 t₀ u₀ v₀) (hsmall : Builtin.Range.small a₀ b₀ 1 = true) (hn : Builtin.Range.rangeSize a₀ b₀ 1 = (n : Int))
    (F : Fr h₀ env.locals s.heap m₀) (N : News h₀ env.locals s.heap (Led c₀)) (hk : ∀ p ∈ ps c₀, m₀ p.1 = some p.2) (hp : P 0 c₀ s.gens)
    (turn : ∀ (i : Nat) c (k : Int) t (u : Str → Option Value) h tk gs I o, i < n → k = a₀ + i → P i c gs → Fr h₀ env.locals h (fun y => if y = x then some (.int k t) else kstB (fun z => if stored.contains z then u z else m₀ z) (ps c) y) →
      News h₀ env.locals h ((I, o) :: Led c) → (∀ p ∈ Led c, p.1 ≠ I) →
      wpAny (model prog w) A (execs body env) (JPost h₀ env.locals s x Led ps stored m₀ (P (i + 1)) I o Q) E { s with heap := h, toks := tk, gens := gs })
    (done : ∀ c (u : Str → Option Value) h tk gs, P n c gs → Fr h₀ env.locals h (fun y => if y = x then u y else kstB (fun z => if stored.contains z then u z else m₀ z) (ps c) y) → News h₀ env.locals h (Led c) →
      Q .next { s with heap := h, toks := tk, gens := gs }) :
    wpAny (model prog w) A (pyIter (.ref r)) (fun it s₂ => LoopG prog w A h₀ env x body Led ps stored P m₀ Q E it s₂) E s := by
  refine wpAny_pyIter_range hr hsmall ?_
  have W : Walks prog w A s.heap.objs.size [s.heap.objs.size] [s.heap.objs.size] n (fun i v => i < n ∧ ∃ t, v = .int (a₀ + i * 1) t)
      (fun i h => IsRangeIter h s.heap.objs.size (a₀ + (i : Nat) * 1) ((n : Int) - (i : Nat)) 1) := (Walks.range hh _ a₀ 1 n).bound
  refine ⟨_, _, _, n, _, _, c₀, rfl, W, by simp, next_is_new F, ?_, ?_, ?_, ?_, (by show IsRangeIter _ _ _ _ _; rw [hn]; simpa using Heap.get?_push_size _ rfl), F.push _, fun p hp => ⟨Heap.get?_push_of_some _ (N p hp).1, (N p hp).2⟩, ?_, hk, hp, ?_, ?_⟩
  · intro hm
    exact absurd F.ns.lt ((List.mem_singleton.mp hm) ▸ Nat.lt_irrefl _)
  · intro b hb
    exact .inl (List.mem_singleton.mp hb)
  · intro b hb
    exact List.mem_singleton.mp hb
  · intro i h st
    exact ⟨_, st⟩
  · intro p hp e
    exact absurd (Heap.lt_size (N p hp).1) (e ▸ Nat.lt_irrefl _)
  · rintro i c v u h tk gs o' hi ⟨_, t, rfl⟩ hP F₁ N₁ hne
    exact turn i c _ t u h tk gs _ o' hi (by omega) hP F₁ N₁ hne
  · intro c u h tk gs hP F₁ N₁
    exact done c u h tk gs hP F₁ N₁

/-- over a list that the call has made: it stands in every state's ledger -/
theorem iter_listG {s : Shared} {σ : Type} {l : Addr} {vs : List Value} {nn : Nat} {Led : σ → List (Addr × Obj)} {ps : σ → List (Str × Value)} {stored : List Str} {P : Nat → σ → Array GenState → Prop} {m₀ : Str → Option Value} (c₀ : σ)
    (hh : A.handled = none) (hl : ∀ c : σ, (l, listOf vs.toArray nn) ∈ Led c)
    (F : Fr h₀ env.locals s.heap m₀) (N : News h₀ env.locals s.heap (Led c₀)) (hk : ∀ p ∈ ps c₀, m₀ p.1 = some p.2) (hp : P 0 c₀ s.gens)
    (turn : ∀ (i : Nat) c v (u : Str → Option Value) h tk gs I o, vs[i]? = some v → P i c gs → Fr h₀ env.locals h (fun y => if y = x then some v else kstB (fun z => if stored.contains z then u z else m₀ z) (ps c) y) →
      News h₀ env.locals h ((I, o) :: Led c) → (∀ p ∈ Led c, p.1 ≠ I) →
      wpAny (model prog w) A (execs body env) (JPost h₀ env.locals s x Led ps stored m₀ (P (i + 1)) I o Q) E { s with heap := h, toks := tk, gens := gs })
    (done : ∀ c (u : Str → Option Value) h tk gs, P vs.length c gs → Fr h₀ env.locals h (fun y => if y = x then u y else kstB (fun z => if stored.contains z then u z else m₀ z) (ps c) y) → News h₀ env.locals h (Led c) →
      Q .next { s with heap := h, toks := tk, gens := gs }) :
    wpAny (model prog w) A (pyIter (.ref l)) (fun it s₂ => LoopG prog w A h₀ env x body Led ps stored P m₀ Q E it s₂) E s := by
  have hN := N _ (hl c₀)
  have hls : s.heap.IsList l vs.toArray := ⟨_, hN.1, rfl, nn, rfl⟩
  refine wpAny_pyIter_list hls ?_
  have hne : l ≠ s.heap.objs.size := Nat.ne_of_lt (Heap.lt_size hN.1)
  have W := Walks.list (prog := prog) (w := w) hh s.heap.objs.size l hne vs.toArray
  refine ⟨_, _, _, _, _, _, c₀, rfl, W, by simp, next_is_new F, ?_, ?_, ?_, ?_, ⟨⟨_, Heap.get?_push_size _ rfl, rfl, rfl⟩, hls.at fun o e => Heap.get?_push_of_some _ e⟩, F.push _, fun p hp => ⟨Heap.get?_push_of_some _ (N p hp).1, (N p hp).2⟩, ?_, hk, hp, ?_, ?_⟩
  · intro hm
    rcases List.mem_cons.mp hm with e | hm
    · exact absurd F.ns.lt (e ▸ Nat.lt_irrefl _)
    · exact hN.2.1 (List.mem_singleton.mp hm).symm
  · intro b hb
    rcases List.mem_cons.mp hb with e | hm
    · exact .inl e
    · exact .inr (.inr ⟨_, fun c => by rw [List.mem_singleton.mp hm]; exact hl c⟩)
  · intro b hb
    exact List.mem_singleton.mp hb
  · intro i h st
    let ⟨o, ho, _⟩ := st.1
    exact ⟨o, ho⟩
  · intro p hp e
    exact absurd (Heap.lt_size (N p hp).1) (e ▸ Nat.lt_irrefl _)
  · rintro i c v u h tk gs o' hi hv hP F₁ N₁ hne
    exact turn i c v u h tk gs _ o' (by simpa using hv) hP F₁ N₁ hne
  · intro c u h tk gs hP F₁ N₁
    exact done c u h tk gs (by simpa using hP) F₁ N₁
end
theorem led_rest {h₀ h : Heap} {L : Addr} {p : Addr × Obj} {rest : List (Addr × Obj)} (_N : News h₀ L h (p :: rest)) : ∃ r, r = rest := ⟨_, rfl⟩
theorem led_all {h₀ h : Heap} {L : Addr} {rest : List (Addr × Obj)} (_N : News h₀ L h rest) : ∃ r, r = rest := ⟨_, rfl⟩
theorem fr_map {h₀ h : Heap} {L : Addr} {m : Str → Option Value} (_F : Fr h₀ L h m) : ∃ r, r = m := ⟨_, rfl⟩
theorem led_cons {I : Addr} {p : Addr × Obj} {rest news' : List (Addr × Obj)} (h1 : p ∈ news') (h2 : @LT.lt Nat _ I p.1) (h3 : ∀ q ∈ rest, q ∈ news') (h4 : ∀ q ∈ rest, q.1 ≠ I) : ∀ q ∈ p :: rest, q ∈ news' ∧ q.1 ≠ I := by
  intro q hq
  rcases List.mem_cons.mp hq with rfl | hq
  · exact ⟨h1, Nat.ne_of_gt h2⟩
  · exact ⟨h3 q hq, h4 q hq⟩
theorem led_same {I : Addr} {o : Obj} {led : List (Addr × Obj)} (h : ∀ q ∈ led, q.1 ≠ I) : ∀ q ∈ led, q ∈ (I, o) :: led ∧ q.1 ≠ I := fun q hq => ⟨.tail _ hq, h q hq⟩
end Mine
end
section
open PySem PySem.W PyProof.Rows PySem.Calls
set_option Elab.async false
set_option maxRecDepth 100000
set_option maxHeartbeats 8000000
namespace Mine
theorem freshP257 : True := by
  k_with_none
  w_top off
  trivial
section
variable {prog : Program} {w : World} {A : Around} {E : Value → Shared → Prop} {s : Shared} {value slice : PySem.Expr} {x y : Str} {t : Tok} {h₀ : Heap} {L : Addr} {m : Str → Option Value} {news : List (Addr × Obj)} {Q : Value → Shared → Prop}
theorem slice_ns_is {j : Int} {uj : Tok} (hF : Fr h₀ L s.heap m) (hN : News h₀ L s.heap news) (hsz : x.length ≤ sizeLine) (hy : Txt.slice x none (some j) = y)
    (h : ∀ h' t' k, Fr h₀ L h' m → News h₀ L h' news → Q (.str y t') { s with heap := h', toks := k })
    (hs : subscripted slice false (.str x t) (.ref s.heap.objs.size) = operate [.ref s.heap.objs.size, .str x t] (getItem (.str x t) (.ref s.heap.objs.size)) := by with_unfolding_all rfl)
    (ht : ∀ r, letTemporaryGo value (.str x t) r = pure () := by intro _; with_unfolding_all rfl) :
    wpAny (model prog w) A (subscriptTail value slice (.str x t) (.ref s.heap.objs.size)) Q E { s with heap := s.heap.push { cls := .type "slice", data := .fields #[.none, .int j uj, .none] } } := by
  subst hy; exact slice_strN_ns hF hN h hs ht hsz
theorem slice_ss_is {i j : Int} {ui uj : Tok} (hF : Fr h₀ L s.heap m) (hN : News h₀ L s.heap news) (hsz : x.length ≤ sizeLine) (hy : Txt.slice x (some i) (some j) = y)
    (h : ∀ h' t' k, Fr h₀ L h' m → News h₀ L h' news → Q (.str y t') { s with heap := h', toks := k })
    (hs : subscripted slice false (.str x t) (.ref s.heap.objs.size) = operate [.ref s.heap.objs.size, .str x t] (getItem (.str x t) (.ref s.heap.objs.size)) := by with_unfolding_all rfl)
    (ht : ∀ r, letTemporaryGo value (.str x t) r = pure () := by intro _; with_unfolding_all rfl) :
    wpAny (model prog w) A (subscriptTail value slice (.str x t) (.ref s.heap.objs.size)) Q E { s with heap := s.heap.push { cls := .type "slice", data := .fields #[.int i ui, .int j uj, .none] } } := by
  subst hy; exact slice_strN_ss hF hN h hs ht hsz
theorem item_is {i : Int} {u : Tok} (h1 : 0 ≤ i) (h2 : i < x.length) (h3 : i < 1000) (hy : Txt.item x i = y)
    (h : Q (.str y s.toks) { s with toks := s.toks + 1 })
    (hs : subscripted slice false (.str x t) (.int i u) = operate [.str x t, .int i u] (getItem (.str x t) (.int i u)) := by with_unfolding_all rfl)
    (ht : ∀ r, letTemporaryGo value (.str x t) r = pure () := by intro _; with_unfolding_all rfl) :
    wpAny (model prog w) A (subscriptTail value slice (.str x t) (.int i u)) Q E s := by
  subst hy; exact item_str (fitsSsize_of (N := 9223372036854775808) (by omega) (by omega) (Int.le_refl _)) (by omega) h2 (fun _ => h) hs ht
end
local macro_rules | `(tactic| walk_at $s:str) => `(tactic| k_extra $s)

theorem c_parse0 (w : World) (mean : ExcName → Option Value) (mg mb : Str → Option Value) (news : List (Addr × Obj)) (n : Nat) (hn : n ≤ 20) (x : Str) (t : Tok)
    (hx : x.length = n + 5) (hsz : x.length ≤ sizeLine) (h3 : PySem.Txt.slice x none (some 3) = Str.ofString "257") (h35 : PySem.Txt.slice x (some 3) (some 5) = Str.ofString " \"")
    (hit : ∀ i : Int, 5 ≤ i → i < n + 5 → PySem.Txt.item x i = Str.ofString "\"") :
    CbClaim PR w (Mine.hd.heap_39 w.params) Mine.hd.view_39 LO mean mg mb 140 news [] True [.str x t] (fun t => .str (qs (n / 2)) t) := by
  delta PR LO
  k_fill
  dsimp only [CbClaim, CbLists, CbRet]
  intros
  rename_i hret
  k_with "subscriptTail Name Slice str ref" => ((with_reducible rename Fr _ _ _ _ => F'); (with_reducible rename News _ _ _ _ => N'); first | (refine slice_ns_is (s := ⟨_, _, _, _, _⟩) F' N' hsz h3 ?_; intro _ _ _ _ _) | (refine slice_ss_is (s := ⟨_, _, _, _, _⟩) F' N' hsz h35 ?_; intro _ _ _ _ _))
  k_with "subscriptTail Name Name str int" => (refine item_is (by omega) (by omega) (by omega) (hit _ (by omega) (by omega)) ?_)
  refine wpAny_call ?_
  k_dflt cell_enter
  (repeat' ((fail_if_success (with_reducible show wpAny _ _ (exec (PySem.Stmt.While _ _ _ _) _) _ _ _)); first | (k_unfold; (try dsimp only)) | (k_end; wrow_close) | walk1 | (dsimp only; walk1) | (leave1; walk_say "STEP leave1"; try dsimp only) | fail "no step"))
  k_with "state" => first | exact PInv.start n | exact PInv.step (by assumption) (by omega)
  k_while (fun (_ : List Int) (i : Int) (dirname : Str) => PInv n i dirname) (fun (_ : List Int) (i : Int) (_ : Str) => (n + 5 - i).toNat) "i" "dirname"
  have kLo := PInv.lo kInv
  have kHi := PInv.hi kInv
  have kLn := PInv.len kInv
  (repeat' (first | (k_unfold; (try dsimp only)) | (k_end; wrow_close) | (with_reducible refine cb_retS hret ?ce ?cf ?cn; (case cf => assumption); (case cn => assumption); (case ce => exact PInv.fin kInv (by omega))) | walk1 | (dsimp only; walk1) | (leave1; walk_say "STEP leave1"; try dsimp only) | fail "no step"))
end Mine
end
section
open PySem PySem.W PyProof.Rows PySem.Calls PySem.Spec
set_option Elab.async false
set_option maxRecDepth 100000
set_option maxHeartbeats 8000000
namespace Mine
section
variable {M : Model} {A : Around} {R : GenEnd} {Y : Protocol} {n : Nat} {s₀ : Shared} {c : Code} {fs : List Frame} {s : Shared} {env : Env}
  {K : Flow → Sem Fin} {H : Value → Sem Fin} {gd : Bool → Bool} {lv : List Value → List Value}

theorem seg_If {test : PySem.Expr} {body orelse : List Stmt} {pos : Pos}
    (h : wpAny M (A.over c fs) (isTrue test env (eval test env)) (fun b s' => Seg M A R Y n s₀ c ((execs (if b = true then body else orelse) env).wrap K H gd lv) fs s') (fun x s' => Seg M A R Y n s₀ c (H x) fs s') s) :
    Seg M A R Y n s₀ c ((exec (.If test body orelse pos) env).wrap K H gd lv) fs s := by
  rw [exec_If]
  rw [Sem.bind_eq_wrap', Sem.wrap_wrap]
  refine seg_wrap (wpAny_standAt ?_)
  rw [Sem.bind_eq_wrap', Sem.wrap_wrap]
  refine seg_wrap (wpAny_mono h (fun b s' hb => ?_) fun _ _ x => x)
  cases b <;> simpa using hb

theorem seg_For {target iter : PySem.Expr} {body orelse : List Stmt} {pos : Pos}
    (h : wpAny M (A.over c fs) (eval iter env) (fun x s₁ => wpAny M (A.over c fs) (pyIter x) (fun it s₂ =>
      ∀ p, Seg M A R Y n s₀ (.forLoop target it body orelse env) (M.den (.forLoop target it body orelse env))
        (.ret (fun r => ((match r with | .ok f => (.pure f : Sem Flow) | .error e => .raise e).onRaise fun (x : Value) => do
          if (← field x 1) == Value.none then unsupported "frame.own-activation:exception-without-traceback"
          setFlight x env.frame).wrap K H gd lv) none (gd false) (lv []) c p [] :: fs) s₂) (fun x s' => Seg M A R Y n s₀ c (H x) fs s') s₁) (fun x s' => Seg M A R Y n s₀ c (H x) fs s') s)
    (hs : ∀ x, foldedSetIterable iter env x = pure x := by intro _; rfl) :
    Seg M A R Y n s₀ c ((exec (.For target iter body orelse pos) env).wrap K H gd lv) fs s := by
  rw [exec_For]
  rw [Sem.bind_eq_wrap', Sem.wrap_wrap]
  refine seg_wrap (wpAny_standAt ?_)
  rw [Sem.bind_eq_wrap', Sem.wrap_wrap]
  refine seg_wrap (wpAny_mono h (fun x s₁ h₁ => ?_) fun _ _ x => x)
  rw [Sem.bind_eq_wrap', Sem.wrap_wrap]
  refine seg_wrap (wpAny_of_eq (hs x) ?_)
  rw [Sem.bind_eq_wrap', Sem.wrap_wrap]
  refine seg_wrap (wpAny_standAt ?_)
  rw [Sem.bind_eq_wrap', Sem.wrap_wrap]
  refine seg_wrap (wpAny_holding (wpAny_mono h₁ (fun it s₂ h₂ => ?_) fun _ _ x => x))
  exact seg_call h₂
end

section
variable {prog : Program} {w : World} {A : Around} {R : GenEnd} {Y : Protocol} {n : Nat} {s₀ : Shared} {fs : List Frame} {s : Shared} {env : Env}
/-- what a generator's loop does with an exception -/
def segOut (prog : Program) (w : World) (A : Around) (R : GenEnd) (Y : Protocol) (n : Nat) (s₀ : Shared) (c : Code) (fs : List Frame) (env : Env) (x : Value) (s' : Shared) : Prop :=
  Seg (model prog w) A R Y n s₀ c ((do noteFrame x env; theTreesLotGoes x : Sem Unit).wrap (fun _ => .raise x) .raise id id) fs s'
def loopK (c : Code) : Flow → Sem Fin := fun f => match f with
  | .next | .cont => .pure (.again c)
  | .brk => .pure (.done .next)
  | .ret v => .pure (.done (.ret v))
def loopH (env : Env) : Value → Sem Fin := fun e => (do noteFrame e env; theTreesLotGoes e : Sem Unit).wrap (fun _ => .raise e) .raise id id

theorem seg_forLoop {target : PySem.Expr} {it : Value} {body orelse : List Stmt}
    (h : wpAny (model prog w) (A.over (.forLoop target it body orelse env) fs) (pyNext it) (fun r s₁ => match r with
        | none => Seg (model prog w) A R Y n s₀ (.forLoop target it body orelse env) (.pure (.again (.block orelse env))) fs s₁
        | some v => wpAny (model prog w) (A.over (.forLoop target it body orelse env) fs) (letOwnedTupleGo target it v) (fun _ s₂ =>
            wpAny (model prog w) (A.over (.forLoop target it body orelse env) fs) (assign target env v) (fun _ s₃ =>
              Seg (model prog w) A R Y n s₀ (.forLoop target it body orelse env) ((execs body env).wrap (loopK (.forLoop target it body orelse env)) (loopH env) id id) fs s₃)
              (segOut prog w A R Y n s₀ (.forLoop target it body orelse env) fs env) s₂)
            (segOut prog w A R Y n s₀ (.forLoop target it body orelse env) fs env) s₁)
      (segOut prog w A R Y n s₀ (.forLoop target it body orelse env) fs env) s) :
    Seg (model prog w) A R Y n s₀ (.forLoop target it body orelse env) ((model prog w).den (.forLoop target it body orelse env)) fs s := by
  show Seg _ A R Y n s₀ _ ((forTurn target it body orelse env).onRaise (fun x => do noteFrame x env; theTreesLotGoes x)) fs s
  unfold forTurn
  rw [Sem.onRaise_eq_wrap, Sem.bind_eq_wrap', Sem.wrap_wrap]
  refine seg_wrap (wpAny_standAt ?_)
  rw [Sem.bind_eq_wrap', Sem.wrap_wrap]
  have hE : ∀ x s', segOut prog w A R Y n s₀ (.forLoop target it body orelse env) fs env x s' →
      Seg (model prog w) A R Y n s₀ (.forLoop target it body orelse env) (((do noteFrame x env; theTreesLotGoes x : Sem Unit)).bind fun _ => .raise x) fs s' := by
    intro x s' hx
    rw [Sem.bind_eq_wrap]; exact hx
  refine seg_wrap (wpAny_onRaise (wpAny_mono h (fun r s₁ h₁ => ?_) fun x s' hx => wpAny_standAt (hE x s' hx)))
  cases r with
  | none => exact h₁
  | some v =>
    show Seg _ A R Y n s₀ _ (Sem.wrap _ _ _ _ (letOwnedTupleGo target it v >>= _)) fs s₁
    rw [Sem.bind_eq_wrap', Sem.wrap_wrap]
    refine seg_wrap (wpAny_mono h₁ (fun _ s₂ h₂ => ?_) hE)
    rw [Sem.bind_eq_wrap', Sem.wrap_wrap]
    refine seg_wrap (wpAny_mono h₂ (fun _ s₃ h₃ => ?_) hE)
    rw [Sem.bind_eq_wrap', Sem.wrap_wrap]
    rw [Sem.wrap_congr (execs body env) _ _ (K' := loopK (.forLoop target it body orelse env)) (H' := loopH env) (fun f => by cases f <;> rfl)
      (fun e => by show (do noteFrame e env; theTreesLotGoes e : Sem Unit).bind (fun _ => .raise e) = _; rw [Sem.bind_eq_wrap]; rfl)]
    exact h₃
end
end Mine
end
section
open PySem PySem.W PyProof.Rows PySem.Calls PySem.Spec
set_option Elab.async false
set_option maxRecDepth 100000
set_option maxHeartbeats 8000000
set_option pp.maxSteps 300
namespace Mine
section
variable {prog : Program} {w : World} {A : Around} {s : Shared} {K : Frag} {name qual : Str} {params : Arguments} {body : List Stmt} {scope : Scope} {dV kV doc pm cdv ct oc : Value} {an od : Option Addr} {osl : Array (Option Value)} {f : Addr} {args : Args} {binds : List (Str × Value)} {R : Result → Shared → Prop}
theorem mk_gen (X : K.In s.heap) (hlim : s.heap.NoLimit)
    (ho : K.lookup f = some ⟨oc, od, .func (fnOf name qual params body scope dV kV doc pm an cdv ct), osl⟩) (hcd : codeIn K cdv qual = true) (hroom : A.depth < recursionLimit)
    (hbind : BindsTo s (fnOf name qual params body scope dV kV doc pm an cdv ct) args binds) (hloc : ∀ y ∈ binds, scope.names.lookup y.1 = some .local) (hcell : ∀ x ∈ scope.names, x.2 ≠ .cell)
    (hco : scope.isCoroutine = false) (hgen : scope.isGenerator = true) (hk : scope.kind = .function)
    (h : ∀ h' tk, h'.objs.size = s.heap.objs.size + 2 → h'.Ns s.heap.objs.size (fun y => binds.reverse.lookup y) → h'.IsGen (s.heap.objs.size + 1) s.gens.size → (∀ b o, s.heap.get? b = some o → h'.get? b = some o) →
      R (.ok (.ret (.ref (s.heap.objs.size + 1)))) { s with heap := h', toks := tk, gens := s.gens.push (.fresh (.func body (envOf qual scope s.heap.objs.size f cdv))) }) :
    codeAny (model prog w) A (.call (.ref f) args) R s := by
  refine codeAny_call_generator hroom (X _ _ ho) rfl hco hgen rfl (codeRec_of X hcd) (hbind _ _ _ _ ?_)
  refine wpAny_newFunctionEnv hcell hloc (fun h' hn hs => ?_) hk
  have hsz : h'.objs.size = s.heap.objs.size + 1 := by rw [hs.1, Heap.size_push]
  have keep : ∀ b o, s.heap.get? b = some o → h'.get? b = some o := fun b o e => (hs.2 b (Nat.ne_of_lt (Heap.lt_size e))).trans (Heap.get?_push_of_some _ e)
  refine ⟨hlim.keeps keep, ?_⟩
  dsimp only
  rw [hsz]
  exact h _ _ (by rw [Heap.size_push, hsz]) (hn.push _) ⟨_, _, _, by rw [← hsz]; exact Heap.get?_push_size _ rfl, rfl, rfl, rfl⟩ fun b o e => Heap.get?_push_of_some _ (keep b o e)
end
end Mine
end
section
open PySem PySem.W PyProof.Rows PySem.Calls PySem.Spec
set_option Elab.async false
set_option maxRecDepth 100000
set_option maxHeartbeats 8000000
set_option pp.maxSteps 300
namespace Mine
/-- the generator stands before its i-th sign -/
structure Sus (x : Str) (tx : Tok) (Lg G e it : Addr) (i : Nat) (h : Heap) : Prop where
  enum : ∃ old, IsEnum h e it i old
  st : h.IsStrIter it "str_ascii_iterator" x tx i
  loc : ∃ m, h.Ns Lg m ∧ m (Str.ofString "escape") = some (.bool false)
  hGe : @LT.lt Nat _ G e
  hGi : @LT.lt Nat _ G it
  hei : @Ne Nat e it
  hLG : @LT.lt Nat _ Lg G
theorem Sus.frame {x : Str} {tx : Tok} {Lg G e it : Addr} {i : Nat} {h h' : Heap} (S : Sus x tx Lg G e it i h) (hk : ∀ b o, b = Lg ∨ b = e ∨ b = it → h.get? b = some o → h'.get? b = some o) : Sus x tx Lg G e it i h' := by
  obtain ⟨⟨old, he⟩, ⟨oi, h1, h2, h3⟩, ⟨m, hm, hm2⟩, a, b, c, d⟩ := S
  exact ⟨⟨old, hk _ _ (.inr (.inl rfl)) he⟩, ⟨oi, hk _ _ (.inr (.inr rfl)) h1, h2, h3⟩, ⟨m, hm.at' fun o e => hk _ _ (.inl rfl) e, hm2⟩, a, b, c, d⟩
/-- what was there at G or before stays, but the generator's own locals -/
def GKeep (Lg G : Addr) (h h' : Heap) : Prop := ∀ b o, @LE.le Nat _ b G → @Ne Nat b Lg → h.get? b = some o → h'.get? b = some o
theorem GKeep.trans {Lg G : Addr} {h h' h'' : Heap} (a : GKeep Lg G h h') (b : GKeep Lg G h' h'') : GKeep Lg G h h'' := fun x o h1 h2 h3 => b x o h1 h2 (a x o h1 h2 h3)
theorem GKeep.refl {Lg G : Addr} {h : Heap} : GKeep Lg G h h := fun _ _ _ _ e => e
def GY (x : Str) (tx : Tok) (Lg G : Addr) (n : Nat) : Protocol := fun k s₀ v s₁ kap =>
  ∃ (e it : Addr) (i : Nat) (T : Addr) (h₁ : Heap) (tk₁ : Nat) (ti tc : Tok) (c : Nat), i + k + 1 = n ∧ v = .ref T ∧ s₁ = { s₀ with heap := h₁, toks := tk₁ } ∧ @LT.lt Nat _ G T ∧ x.cps[i]? = some c ∧
    h₁.get? T = some { cls := .type "tuple", data := .seq #[.int i ti, .str ⟨#[c]⟩ tc] } ∧ Sus x tx Lg G e it (i + 1) h₁ ∧ @Ne Nat T e ∧ @Ne Nat T it ∧ GKeep Lg G s₀.heap h₁ ∧
    ∀ s'', Sus x tx Lg G e it (i + 1) s''.heap → kap (.send .none) s''
def GP (Lg G : Addr) (k : Nat) (s₀ s₁ : Shared) : Prop := k = 0 ∧ ∃ h₁ tk₁, s₁ = { s₀ with heap := h₁, toks := tk₁ } ∧ GKeep Lg G s₀.heap h₁
def GR (Lg G : Addr) : GenEnd := fun k s₀ r s₁ => r = .ok (.ret .none) ∧ GP Lg G k s₀ s₁

abbrev gTarget (p1 p2 p3 : Pos) (k1 : Nat) : PySem.Expr := .Tuple [.Name (Str.ofString "pos") p1, .Name (Str.ofString "ch") p2] k1 p3
abbrev gBody (B1 B2 : List Stmt) (p4 p5 p6 p7 p8 p9 p10 p11 p12 p13 p14 : Pos) (k2 k3 : Nat) : List Stmt :=
  [.If (.Name (Str.ofString "escape") p4) B1 [.If (.Compare (.Name (Str.ofString "ch") p5) [.Eq] [.Constant (.str (Str.ofString "\\")) k2 p6] p7) B2 [.Expr (.Yield (some (.Tuple [.Name (Str.ofString "pos") p8, .Name (Str.ofString "ch") p9] k3 p10)) p11) p12] p13] p14]
section
variable {prog : Program} {w : World} {A : Around} {qual : Str} {scope : Scope} {Lg f G e it : Addr} {cdv : Value} {x : Str} {tx : Tok} {n : Nat}
  {p1 p2 p3 p4 p5 p6 p7 p8 p9 p10 p11 p12 p13 p14 : Pos} {k1 k2 k3 : Nat} {B1 B2 : List Stmt}
  {kont : Result → Sem Fin} {hdF : Option Value} {gF : Bool} {lF : List Value} {c₁ : Code} {pF : Pos} {kpF : List Value}

theorem truthy_b {M : Model} {A : Around} {E : Value → Shared → Prop} {s : Shared} {b : Bool} {Q : Bool → Shared → Prop} (h : Q b s) : wpAny M A (truthy (.bool b)) Q E s := fun _ _ _ => h
set_option maxHeartbeats 400000 in
theorem gen_loop (hkind : scope.kind = .function) (hco : scope.isCoroutine = false) (hpos : scope.names.lookup (Str.ofString "pos") = some .local) (hch : scope.names.lookup (Str.ofString "ch") = some .local)
    (hes : scope.names.lookup (Str.ofString "escape") = some .local)
    (hasc : x.cps.all (· < 128) = true) (hbs : ∀ (i c : Nat), x.cps[i]? = some c → c ≠ 92) (hn : x.cps.size = n) (hgF : gF = false)
    (hh : (A.over (.forLoop (gTarget p1 p2 p3 k1) (.ref e) (gBody B1 B2 p4 p5 p6 p7 p8 p9 p10 p11 p12 p13 p14 k2 k3) [] (envOf qual scope Lg f cdv)) [.ret kont hdF gF lF c₁ pF kpF]).handled = none)
    (hend : ∀ s₀ s, (∃ m, s.heap.Ns Lg m ∧ m (Str.ofString "escape") = some (.bool false)) → (∃ h tk, s = { s₀ with heap := h, toks := tk }) → GKeep Lg G s₀.heap s.heap → Seg (model prog w) A (GR Lg G) (GY x tx Lg G n) 0 s₀ c₁ (kont (.ok .next)) [] s) :
    ∀ k i s s₀, i + k = n → Sus x tx Lg G e it i s.heap → (∃ h tk, s = { s₀ with heap := h, toks := tk }) → GKeep Lg G s₀.heap s.heap → 
      Seg (model prog w) A (GR Lg G) (GY x tx Lg G n) k s₀ (.forLoop (gTarget p1 p2 p3 k1) (.ref e) (gBody B1 B2 p4 p5 p6 p7 p8 p9 p10 p11 p12 p13 p14 k2 k3) [] (envOf qual scope Lg f cdv))
        ((model prog w).den (.forLoop (gTarget p1 p2 p3 k1) (.ref e) (gBody B1 B2 p4 p5 p6 p7 p8 p9 p10 p11 p12 p13 p14 k2 k3) [] (envOf qual scope Lg f cdv))) [.ret kont hdF gF lF c₁ pF kpF] s := by
  have kp : (envOf qual scope Lg f cdv).kindOf (Str.ofString "pos") = some .local := hpos
  have kc : (envOf qual scope Lg f cdv).kindOf (Str.ofString "ch") = some .local := hch
  have ke : (envOf qual scope Lg f cdv).kindOf (Str.ofString "escape") = some .local := hes
  have hp : ((envOf qual scope Lg f cdv).scope.kind == .class || ((envOf qual scope Lg f cdv).scope.kind == .module && (envOf qual scope Lg f cdv).locals != (envOf qual scope Lg f cdv).globals)) = false := by
    show (scope.kind == .class || (scope.kind == .module && _)) = false
    rw [hkind]; rfl
  have D := Draws.strAscii (prog := prog) (w := w) (A := (A.over (.forLoop (gTarget p1 p2 p3 k1) (.ref e) (gBody B1 B2 p4 p5 p6 p7 p8 p9 p10 p11 p12 p13 p14 k2 k3) [] (envOf qual scope Lg f cdv)) [.ret kont hdF gF lF c₁ pF kpF]).in1) hh it x tx
  intro k
  induction k with
  | zero =>
    intro i s s₀ hik S hs hkeep
    have W := WalksT.enumerateD D e S.hei (by simpa using S.hei) (by simp)
    have hin : i = n := by omega
    subst hin
    refine seg_forLoop ?_
    refine W.done s _ _ (by rw [hn]; exact ⟨S.enum, S.st⟩) fun h' tk' hk' => ?_
    refine seg_again rfl ?_
    have hLe : @Ne Nat Lg e := Nat.ne_of_lt (Nat.lt_trans S.hLG S.hGe)
    have hLi : @Ne Nat Lg it := Nat.ne_of_lt (Nat.lt_trans S.hLG S.hGi)
    obtain ⟨m, hm, hm2⟩ := S.loc
    refine seg_leaf (.ok .next) (hend s₀ _ ⟨m, hm.at' fun o ho => hk' _ _ (by simp [hLe, hLi]) ho, hm2⟩ ?_ ?_)
    · obtain ⟨h0, t0, rfl⟩ := hs
      exact ⟨_, _, rfl⟩
    · refine hkeep.trans fun b o hb _ ho => hk' b o ?_ ho
      intro hm
      rcases List.mem_cons.mp hm with rfl | hm
      · exact absurd S.hGe (Nat.not_lt.mpr hb)
      · rw [List.mem_singleton.mp hm] at hb; exact absurd S.hGi (Nat.not_lt.mpr hb)
  | succ k ih =>
    intro i s s₀ hik S hs hkeep
    have W := WalksT.enumerateD D e S.hei (by simpa using S.hei) (by simp)
    refine seg_forLoop ?_
    refine W.item i s _ _ (by omega) ⟨S.enum, S.st⟩ fun T1 vals h1 tk1 hPt hT1 htup hmid hk1 => ?_
    refine W.go _ _ _ i T1 _ _ _ hmid fun h2 hst2 hk2 => ?_
    obtain ⟨ti, y, ⟨c, u, hc, rfl⟩, rfl⟩ := hPt
    have hap := W.apart i T1 h1 hmid
    have htup2 : h2.IsTuple T1 #[.int i ti, .str ⟨#[c]⟩ u] := let ⟨o, ho, r⟩ := htup; ⟨o, hk2 _ _ hap ho, r⟩
    refine wpAny_assign_Tuple hh htup2 rfl rfl fun h3 hx3 => ?_
    show wpAny _ _ (do holding [Value.str ⟨#[c]⟩ u] (assign (.Name (Str.ofString "pos") p1) (envOf qual scope Lg f cdv) (.int i ti)); do holding [] (assign (.Name (Str.ofString "ch") p2) (envOf qual scope Lg f cdv) (Value.str ⟨#[c]⟩ u)); pure ()) _ _ _
    obtain ⟨m, hm, hm2⟩ := S.loc
    have hLe : @Ne Nat Lg e := Nat.ne_of_lt (Nat.lt_trans S.hLG S.hGe)
    have hLi : @Ne Nat Lg it := Nat.ne_of_lt (Nat.lt_trans S.hLG S.hGi)
    have hk12 : ∀ b o, @Ne Nat b e → @Ne Nat b it → s.heap.get? b = some o → h2.get? b = some o := fun b o h1 h2 ho => hk2 b o (by simp [h1, h2]) (hk1 b o (by simp [h1, h2]) ho)
    have old3 : ∀ b o, h2.get? b = some o → h3.get? b = some o := fun b o ho => hx3 b o (Nat.ne_of_lt (Heap.lt_size ho)) ho
    have hn3 : h3.Ns (envOf qual scope Lg f cdv).locals m := hm.at' fun o ho => old3 _ _ (hk12 _ _ hLe hLi ho)
    refine wpAny_bind (wpAny_holding (wpAny_assign_Name (wpAny_storeName_local kp hn3 (fun h4 hn4 hs4 => ?_) hp)))
    refine wpAny_bind (wpAny_holding (wpAny_assign_Name (wpAny_storeName_local kc hn4 (fun h5 hn5 hs5 => wpAny_pure ?_) hp)))
    replace hs4 : Heap.SameBut Lg h3 h4 := hs4
    replace hs5 : Heap.SameBut Lg h4 h5 := hs5
    have old5 : ∀ b o, @Ne Nat b Lg → h2.get? b = some o → h5.get? b = some o := fun b o hb ho => hs5.extBut b o hb (hs4.extBut b o hb (old3 b o ho))
    have S5 : Sus x tx Lg G e it (i + 1) h5 := by
      obtain ⟨⟨old, he⟩, hit⟩ := hst2
      obtain ⟨oi, q1, q2, q3⟩ := hit
      exact ⟨⟨old, old5 _ _ (Ne.symm hLe) he⟩, ⟨oi, old5 _ _ (Ne.symm hLi) q1, q2, q3⟩, ⟨_, hn5, by
        have d1 : ¬ (Str.ofString "escape" = Str.ofString "ch") := by decide +kernel
        have d2 : ¬ (Str.ofString "escape" = Str.ofString "pos") := by decide +kernel
        rw [if_neg d1, if_neg d2]; exact hm2⟩, S.hGe, S.hGi, S.hei, S.hLG⟩
    have hk5 : GKeep Lg G s.heap h5 := fun b o hb hL ho => old5 b o hL (hk12 b o (Nat.ne_of_lt (Nat.lt_of_le_of_lt hb S.hGe)) (Nat.ne_of_lt (Nat.lt_of_le_of_lt hb S.hGi)) ho)
    have m5e : (fun y => if y = Str.ofString "ch" then some (Value.str ⟨#[c]⟩ u) else if y = Str.ofString "pos" then some (Value.int i ti) else m y) (Str.ofString "escape") = some (.bool false) := by
      have d1 : ¬ (Str.ofString "escape" = Str.ofString "ch") := by decide +kernel
      have d2 : ¬ (Str.ofString "escape" = Str.ofString "pos") := by decide +kernel
      dsimp only; rw [if_neg d1, if_neg d2]; exact hm2
    have m5c : (fun y => if y = Str.ofString "ch" then some (Value.str ⟨#[c]⟩ u) else if y = Str.ofString "pos" then some (Value.int i ti) else m y) (Str.ofString "ch") = some (.str ⟨#[c]⟩ u) := by
      dsimp only; rw [if_pos rfl]
    have m5p : (fun y => if y = Str.ofString "ch" then some (Value.str ⟨#[c]⟩ u) else if y = Str.ofString "pos" then some (Value.int i ti) else m y) (Str.ofString "pos") = some (.int i ti) := by
      have d1 : ¬ (Str.ofString "pos" = Str.ofString "ch") := by decide +kernel
      dsimp only; rw [if_neg d1, if_pos rfl]
    have hcb : ((⟨#[c]⟩ : Str) == Str.ofString "\\") = false := by
      have h92 : c ≠ 92 := hbs i c hc
      have e9 : Str.ofString "\\" = ⟨#[92]⟩ := by decide +kernel
      rw [e9]
      refine beq_eq_false_iff_ne.mpr fun hq => h92 ?_
      have := congrArg (fun s => s.cps[0]?) hq
      simpa using this
    refine seg_execs_cons (seg_If (isTrue_plain (wpAny_Name (wpAny_loadName_local hkind ke hn5 m5e (truthy_b ?_)) (by decide +kernel))))
    show Seg _ _ _ _ _ _ _ ((execs (if false = true then B1 else _) _).wrap _ _ _ _) _ _
    rw [if_neg Bool.false_ne_true]
    refine seg_execs_cons (seg_If (wpAny_isTrue_Compare1 (wpAny_Name (wpAny_loadName_local hkind kc hn5 m5c (wpAny_Constant_str (eq_str ?_))) (by decide +kernel))))
    rw [hcb]
    refine truthy_b ?_
    show Seg _ _ _ _ _ _ _ ((execs (if false = true then B2 else _) _).wrap _ _ _ _) _ _
    rw [if_neg Bool.false_ne_true]
    refine seg_execs_cons (seg_Expr_Yield (by rfl) rfl (by simp [Frame.guarded, hgF]) ?_ hco ?_)
    · refine wpAny_Tuple (spliced_more (wpAny_Name (wpAny_loadName_local hkind kp hn5 m5p (spliced_more (wpAny_Name (wpAny_loadName_local hkind kc hn5 m5c (spliced_none ⟨(by show 2 ≤ sizeLine; rw [sizeLine_eq]; decide), ?_⟩)) (by decide +kernel)))) (by decide +kernel)))
      intro kap hkap
      obtain ⟨h0, t0, rfl⟩ := hs
      have heL : @LT.lt Nat _ e h5.objs.size := by
        obtain ⟨old, he5⟩ := S5.enum
        exact Heap.lt_size (h := h5) (o := _) he5
      have hGT : @LT.lt Nat _ G h5.objs.size := Nat.lt_trans S.hGe heL
      have hTe : @Ne Nat h5.objs.size e := Nat.ne_of_gt heL
      have hTi : @Ne Nat h5.objs.size it := by
        obtain ⟨oi, q, _⟩ := S5.st
        exact Nat.ne_of_gt (Heap.lt_size q)
      refine ⟨e, it, i, h5.objs.size, _, _, ti, u, c, by omega, rfl, rfl, hGT, hc, Heap.get?_push_size _ rfl, S5.frame fun b o _ ho => Heap.get?_push_of_some _ ho, hTe, hTi, (hkeep.trans hk5).trans fun b o _ _ ho => Heap.get?_push_of_some _ ho, ?_⟩
      intro s'' S''
      refine hkap .none s'' ?_
      show Seg _ _ _ _ _ _ _ (.pure (.again _)) _ _
      exact seg_again rfl (ih (i + 1) s'' s'' (by omega) S'' ⟨_, _, rfl⟩ .refl)
    · show (scope.kind == .module && _) = false
      rw [hkind]; rfl
end
end Mine
end
section
open PySem PySem.W PyProof.Rows PySem.Calls
set_option Elab.async false
set_option maxRecDepth 100000
set_option maxHeartbeats 8000000
set_option pp.maxSteps 300
namespace Mine
theorem freshGenF : True := by
  k_with_none
  w_top off
  trivial
local macro_rules | `(tactic| walk_at $s:str) => `(tactic| k_extra $s)
local macro_rules | `(tactic| k_units) => `(tactic| ktr_units)
set_option linter.unusedVariables false

theorem use_lookup {P : Prop} {α : Type} {l : Option α} {o o' : α} (h : l = some o) (h' : l = some o') (k : o = o' → P) : P := k (Option.some.inj (h.symm.trans h'))
theorem gen_first (w : World) (mean : ExcName → Option Value) (mg mb : Str → Option Value) {name qual : Str} {params : Arguments} {body : List Stmt} {scope : Scope} {dV kV doc pm cdv ct oc : Value} {an od : Option Addr} {osl : Array (Option Value)}
    (hl : (Mine.hd.heap_39 w.params).lookup 101 = some ⟨oc, od, .func (fnOf name qual params body scope dV kV doc pm an cdv ct), osl⟩)
    (g : Heap) (X : (Mine.hd.heap_39 w.params).In g) (T : Top Mine.hd.view_39 LO mean mg mb g) (A : Around) (hA : A.handled = none) (Lg G : Addr) (x : Str) (tx : Tok) (n : Nat) 
    (hasc : x.cps.all (· < 128) = true) (hbs : ∀ (i c : Nat), x.cps[i]? = some c → c ≠ 92) (hn : x.cps.size = n) (hLG : @LT.lt Nat _ Lg G) (hgL : @LE.le Nat _ g.objs.size Lg) (s : Shared)
    (hGo : ∃ o, s.heap.get? G = some o) (hk : ∀ b o, g.get? b = some o → s.heap.get? b = some o) (hns : s.heap.Ns Lg (fun y => ([(Str.ofString "addr", Value.str x tx)] : List (Str × Value)).reverse.lookup y)) :
    Seg (model PR w) A (GR Lg G) (GY x tx Lg G n) n s (.func body (envOf qual scope Lg 101 cdv)) ((model PR w).den (.func body (envOf qual scope Lg 101 cdv))) [] s := by
  delta PR LO at *
  revert X; k_fill; intro X
  refine' use_lookup hl ?e ?_
  case e => k_is
  intro hl
  cases hl
  refine seg_func (seg_execs_cons (seg_wrap ?_))
  have F : Fr g Lg s.heap _ := ⟨hns, hk, hgL⟩
  have N : News g Lg s.heap (ownOf g ((List.range (G + 1)).filter (· ≠ Lg)) s.heap) := news_ownOf (by simp)
  have hmem : ∀ b o, @LE.le Nat _ b G → @Ne Nat b Lg → s.heap.get? b = some o → g.get? b = none → (b, o) ∈ ownOf g ((List.range (G + 1)).filter (· ≠ Lg)) s.heap := fun b o hb hL ho hg =>
    mem_ownOf (List.mem_filter.mpr ⟨List.mem_range.mpr (Nat.lt_succ_of_le hb), by simpa using hL⟩) hg ho
  generalize ownOf g ((List.range (G + 1)).filter (· ≠ Lg)) s.heap = led at N hmem
  (repeat' (first | (k_unfold; (try dsimp only)) | walk1 | (dsimp only; walk1)))
  dsimp only
  refine seg_execs_cons (seg_wrap ?_)
  (repeat' (first | (k_unfold; (try dsimp only)) | walk1 | (dsimp only; walk1)))
  dsimp only
  refine seg_execs_cons (seg_For ?_)
  k_with "call type:enumerate" => (k_dflt (refine' call_enumerate_str ?_; k_whole))
  (repeat' (first | (k_unfold; (try dsimp only)) | walk1 | (dsimp only; walk1)))
  rename_i h3 F3 N3 h4 he hit hsz hk4
  dsimp only at he hit hsz hk4
  have K3 : GKeep Lg G s.heap h3 := by
    intro b o hb hL ho
    cases hg : g.get? b with
    | none => exact (N3 _ (hmem b o hb hL ho hg)).1
    | some o' =>
      have := hk b o' hg
      rw [ho] at this; cases this
      exact F3.keep b o hg
  obtain ⟨oG, hGo⟩ := hGo
  have hG3 : @LT.lt Nat _ G h3.objs.size := Heap.lt_size (K3 G oG (Nat.le_refl _) (Nat.ne_of_gt hLG) hGo)
  refine wpAny_pyIter_enum he ?_
  intro p
  have hty : strIterType x = "str_ascii_iterator" := by unfold strIterType; rw [if_pos hasc]
  rw [hty] at hit
  refine gen_loop rfl rfl rfl rfl rfl hasc hbs hn rfl ?hh ?hend n 0 _ s (Nat.zero_add n) ⟨⟨_, he⟩, hit, ⟨_, F3.ns.at' fun o ho => hk4 _ _ ho, ?hes⟩, Nat.lt_succ_of_lt hG3, hG3, Nat.ne_of_gt (Nat.lt_succ_self _), hLG⟩ ⟨_, _, rfl⟩ (K3.trans fun b o _ _ ho => hk4 b o ho)
  case hh =>
    show (marksOver [_] (A.handled, A.handled)).1 = none
    rw [hA]; rfl
  case hes => rfl
  case hend =>
    rintro s₀ s' ⟨m, hm, hm2⟩ ⟨h0, t0, rfl⟩ hkeep
    show Seg _ _ _ _ 0 s₀ _ ((execs [Stmt.If _ _ _ _] _).wrap _ _ id id) [] _
    refine seg_execs_cons (seg_If (isTrue_plain (wpAny_Name (wpAny_loadName_local rfl rfl hm hm2 (truthy_b ?_)) (by decide +kernel))))
    exact seg_end (.ok (.ret .none)) ⟨rfl, rfl, _, _, rfl, hkeep⟩
end Mine
end
section
open PySem PySem.W PyProof.Rows PySem.Calls PySem.Spec
set_option Elab.async false
set_option maxRecDepth 100000
set_option maxHeartbeats 8000000
set_option pp.maxSteps 300
namespace Mine
theorem push_set {α : Type} (a : Array α) (x y : α) : (a.push x).setIfInBounds a.size y = a.push y := by
  apply Array.ext'
  simp
theorem none_of_ge {h : Heap} {b : Addr} (hb : @LE.le Nat _ h.objs.size b) : h.get? b = none := by
  cases e : h.get? b with
  | none => rfl
  | some o => exact absurd (Heap.lt_size e) (Nat.not_lt.mpr hb)
theorem letOwned_gen {prog : Program} {w : World} {A : Around} {E : Value → Shared → Prop} {s : Shared} {elts : List PySem.Expr} {k : Nat} {pos : Pos} {G T : Addr} {g : Nat} {Q : Unit → Shared → Prop} (hg : s.heap.IsGen G g) (h : Q () s) :
    wpAny (model prog w) A (letOwnedTupleGo (.Tuple elts k pos) (.ref G) (.ref T)) Q E s := by
  obtain ⟨o, nm, qn, ho, hc, hd, hsl⟩ := hg
  unfold letOwnedTupleGo
  refine wpAny_bind (wpAny_load ho ?_)
  rw [hc, hd]
  show wpAny _ A (if (["enumerate", "zip", "dict_itemiterator", "dict_reverseitemiterator", "odict_iterator", "itertools.zip_longest", "itertools.pairwise"].contains "generator" && _) = true then _ else _) Q E s
  rw [if_neg (by simp)]
  exact wpAny_pure h
section
variable {prog : Program} {w : World} {A : Around} {R : Result → Shared → Prop} {elts : List PySem.Expr} {kx : Nat} {px : Pos} {body : List Stmt} {env : Env} {x : Str} {tx : Tok} {n : Nat} {s : Shared} {g' : Heap} {L' Lg G : Addr} {og : Obj} {nm qn : Value} {led : List (Addr × Obj)} {τ : Type} {mp : Nat → τ → Str → Option Value}
structure GI (prog : Program) (w : World) (A : Around) (x : Str) (tx : Tok) (n : Nat) (s : Shared) (g' : Heap) (L' Lg G : Addr) (og : Obj) (led : List (Addr × Obj)) {τ : Type} (mp : Nat → τ → Str → Option Value) (i : Nat) (s' : Shared) : Prop where
  ex : ∃ (c : τ) (h : Heap) (tk : Nat) (gs : GenState) (J : Heap → Prop), s' = { s with heap := h, toks := tk, gens := s.gens.push gs } ∧ Fr g' L' h (mp i c) ∧ News g' L' h ((G, og) :: led) ∧ J h ∧
    (∀ s'', J s''.heap → (∀ b o, g'.get? b = some o → s''.heap.get? b = some o) → s''.heap.get? G = some og →
      gs.Goes (model prog w) A.in1 (GR Lg G) (GY x tx Lg G n) (n - i) (.send .none) s'')
theorem gen_for {s₂ : Shared} (hh : A.handled = none) (hroom : A.depth < recursionLimit) (hlim : g'.NoLimit) (hLG : @LT.lt Nat _ Lg G) (hLL : @LT.lt Nat _ L' Lg) (hled : ∀ p ∈ led, @LT.lt Nat _ p.1 Lg)
    (hog : og.cls = .type "generator") (hod : og.data = .fields #[.int s.gens.size 0, nm, qn]) (hos : og.slots = #[])
    (start : GI prog w A x tx n s g' L' Lg G og led mp 0 s₂)
    (item : ∀ i c h tk gs T ti tc sg rest, i < n → x.cps[i]? = some sg → Fr g' L' h (mp i c) → News g' L' h ((T, ({ cls := .type "tuple", data := .seq #[.int i ti, .str ⟨#[sg]⟩ tc] } : Obj)) :: rest) → (∀ p ∈ led, p ∈ rest) →
      wpAny (model prog w) A (assign (.Tuple elts kx px) env (.ref T)) (fun _ s₂ => wpAny (model prog w) A (execs body env) (fun f s₃ => match f with
          | .next | .cont => ∃ c' h' tk' news', s₃ = { s with heap := h', toks := tk', gens := s.gens.push gs } ∧ Fr g' L' h' (mp (i + 1) c') ∧ News g' L' h' news' ∧ ∀ p ∈ rest, p ∈ news'
          | .brk => R (.ok .next) s₃
          | .ret v => R (.ok (.ret v)) s₃) (notedBy (model prog w) A env fun e s' => R (.error e) s') s₂) (notedBy (model prog w) A env fun e s' => R (.error e) s') { s with heap := h, toks := tk, gens := s.gens.push gs })
    (done : ∀ c h tk, Fr g' L' h (mp n c) → News g' L' h led → wpAny (model prog w) A (execs [] env) (fun f s₃ => R (.ok f) s₃) (notedBy (model prog w) A env fun e s' => R (.error e) s') { s with heap := h, toks := tk, gens := s.gens.push .finished }) :
    codeAny (model prog w) A (.forLoop (.Tuple elts kx px) (.ref G) body [] env) R s₂ := by
  refine codeAny_forLoop_any (fun k s' => ∃ i, k = n + 1 - i ∧ i ≤ n ∧ GI prog w A x tx n s g' L' Lg G og led mp i s') ?_ (n + 1) ⟨0, rfl, Nat.zero_le _, start⟩
  rintro k s' ⟨i, rfl, hi, ⟨c, h, tk, gs, J, rfl, hF, hN, hGI, hgo⟩⟩
  have hIG : ∀ {h₁ : Heap}, h₁.get? G = some og → h₁.IsGen G s.gens.size := fun e => ⟨og, nm, qn, e, hog, hod, hos⟩
  have hset : ({ s with heap := h, toks := tk, gens := s.gens.push gs } : Shared).setGen s.gens.size .running = { s with heap := h, toks := tk, gens := s.gens.push .running } := by
    unfold Shared.setGen; dsimp only; rw [push_set]
  refine wpAny_pyNext_gen (P := GP Lg G) (Y := GY x tx Lg G n) (n := n - i) (gs := gs) hh (hlim.keeps hF.keep) hroom (hIG (hN _ (.head _)).1) (by simp) (by rw [hset]; exact hgo _ hGI hF.keep (hN _ (.head _)).1) ?_ ?_
  · rintro v s₁ gs' hY
    rw [hset] at hY
    obtain ⟨e, it, j, T, h₁, tk₁, ti, tc, sg, hj, rfl, rfl, hGT, hsg, hT, S, hTe, hTi, hkeep, hkap⟩ := hY
    dsimp only at hkeep hkap hj ⊢
    by_cases hlt : i < n
    · obtain ⟨q, hq⟩ : ∃ q, n - i = q + 1 := ⟨n - i - 1, by omega⟩
      have hji : j = i := by omega
      subst hji
      rw [hq] at hkap
      dsimp only at hkap
      have hset2 : ({ heap := h₁, gens := s.gens.push .running, drawn := s.drawn, toks := tk₁, os := s.os } : Shared).setGen s.gens.size gs' = { s with heap := h₁, toks := tk₁, gens := s.gens.push gs' } := by
        unfold Shared.setGen; dsimp only; rw [push_set]
      rw [hset2]
      have hGo := (hN _ (.head _)).1
      have hGL : @Ne Nat G Lg := Nat.ne_of_gt hLG
      have hG1 : h₁.get? G = some og := hkeep G og (Nat.le_refl _) hGL hGo
      refine letOwned_gen (hIG hG1) ?_
      have kL : ∀ o, h.get? L' = some o → h₁.get? L' = some o := fun o ho => hkeep L' o (Nat.le_of_lt (Nat.lt_trans hLL hLG)) (Nat.ne_of_lt hLL) ho
      have gL : ∀ {b : Addr}, @LE.le Nat _ Lg b → g'.get? b = none := fun {b} hb => none_of_ge (Nat.le_trans hF.above (Nat.le_of_lt (Nat.lt_of_lt_of_le hLL hb)))
      have kg : ∀ b o, g'.get? b = some o → h₁.get? b = some o := fun b o ho => hkeep b o (Nat.le_of_lt (Nat.lt_trans (Nat.lt_of_lt_of_le (Heap.lt_size ho) hF.above) (Nat.lt_trans hLL hLG))) (Nat.ne_of_lt (Nat.lt_trans (Nat.lt_of_lt_of_le (Heap.lt_size ho) hF.above) hLL)) (hF.keep b o ho)
      have F1 : Fr g' L' h₁ (mp j c) := ⟨hF.ns.at' kL, kg, hF.above⟩
      obtain ⟨old, he0⟩ := S.enum
      obtain ⟨oE, he⟩ : ∃ oE, h₁.get? e = some oE := ⟨_, he0⟩
      obtain ⟨oi, hit, hit2⟩ := S.st
      obtain ⟨ml, hml, hml2⟩ := S.loc
      obtain ⟨oL, hoL⟩ : ∃ o, h₁.get? Lg = some o := let ⟨o, _, _, q, _⟩ := hml; ⟨o, q⟩
      have hLgG := Nat.le_of_lt hLG
      have hLe : @LE.le Nat _ Lg e := Nat.le_of_lt (Nat.lt_trans hLG S.hGe)
      have hLi : @LE.le Nat _ Lg it := Nat.le_of_lt (Nat.lt_trans hLG S.hGi)
      have hLT : @LE.le Nat _ Lg T := Nat.le_of_lt (Nat.lt_trans hLG hGT)
      have nL : ∀ {b : Addr}, @LE.le Nat _ Lg b → b ≠ L' := fun {b} hb => Nat.ne_of_gt (Nat.lt_of_lt_of_le hLL hb)
      have N1 : News g' L' h₁ ((T, ({ cls := .type "tuple", data := .seq #[.int j ti, .str ⟨#[sg]⟩ tc] } : Obj)) :: (e, oE) :: (it, oi) :: (Lg, oL) :: (G, og) :: led) := by
        intro p hp
        rcases List.mem_cons.mp hp with rfl | hp
        · exact ⟨hT, nL hLT, gL hLT⟩
        rcases List.mem_cons.mp hp with rfl | hp
        · exact ⟨he, nL hLe, gL hLe⟩
        rcases List.mem_cons.mp hp with rfl | hp
        · exact ⟨hit, nL hLi, gL hLi⟩
        rcases List.mem_cons.mp hp with rfl | hp
        · exact ⟨hoL, nL (Nat.le_refl _), gL (Nat.le_refl _)⟩
        rcases List.mem_cons.mp hp with rfl | hp
        · exact ⟨hG1, nL hLgG, gL hLgG⟩
        · have hl := hled p hp
          have hp' := hN p (.tail _ hp)
          exact ⟨hkeep _ _ (Nat.le_of_lt (Nat.lt_trans hl hLG)) (Nat.ne_of_lt hl) hp'.1, hp'.2⟩
      refine wpAny_mono (item j c h₁ tk₁ gs' T ti tc sg _ hlt hsg F1 N1 fun p hp => .tail _ (.tail _ (.tail _ (.tail _ hp)))) (fun _ s₂ h₂ => wpAny_mono h₂ (fun f s₃ h₃ => ?_) fun _ _ z => z) fun _ _ z => z
      have fin : (∃ c' h' tk' news', s₃ = { s with heap := h', toks := tk', gens := s.gens.push gs' } ∧ Fr g' L' h' (mp (j + 1) c') ∧ News g' L' h' news' ∧ ∀ p ∈ ((e, oE) :: (it, oi) :: (Lg, oL) :: (G, og) :: led : List (Addr × Obj)), p ∈ news') →
          ∃ m, m < n + 1 - j ∧ ∃ i, m = n + 1 - i ∧ i ≤ n ∧ GI prog w A x tx n s g' L' Lg G og led mp i s₃ := by
        rintro ⟨c', h', tk', news', rfl, F', N', hsub⟩
        have N2 : News g' L' h' ((e, oE) :: (it, oi) :: (Lg, oL) :: (G, og) :: led) := fun p hp => N' p (hsub p hp)
        refine ⟨n + 1 - (j + 1), by omega, j + 1, rfl, hlt, ⟨c', h', tk', gs', fun H => Sus x tx Lg G e it (j + 1) H, rfl, F', fun p hp => N2 p (.tail _ (.tail _ (.tail _ hp))), ?_, ?_⟩⟩
        · refine ⟨⟨old, ?_⟩, ⟨oi, (N2 _ (.tail _ (.head _))).1, hit2⟩, ⟨ml, hml.at' fun o ho => by rw [hoL] at ho; cases ho; exact (N2 _ (.tail _ (.tail _ (.head _)))).1, hml2⟩, S.hGe, S.hGi, S.hei, S.hLG⟩
          have e1 := he.symm.trans he0
          have e2 := (N2 _ (.head _)).1
          rw [e1] at e2
          exact e2
        · intro s'' hG'' _ _
          have hq2 : n - (j + 1) = q := by omega
          rw [hq2]
          exact hkap s'' hG''
      cases f with
      | next => exact fin h₃
      | cont => exact fin h₃
      | brk => exact h₃
      | ret v => exact h₃
    · have h0 : n - i = 0 := by omega
      rw [h0] at hkap
      exact (hkap ⟨h₁, #[], s.drawn, tk₁, s.os⟩ S).elim
  · rintro s₁ hP h' hk'
    rw [hset] at hP
    obtain ⟨h0, h₁, tk₁, rfl, hkeep⟩ := hP
    have hin : i = n := by omega
    subst hin
    have hset2 : ({ heap := h₁, gens := s.gens.push .running, drawn := s.drawn, toks := tk₁, os := s.os } : Shared).setGen s.gens.size .finished = { s with heap := h₁, toks := tk₁, gens := s.gens.push .finished } := by
      unfold Shared.setGen; dsimp only; rw [push_set]
    dsimp only at hkeep hk' ⊢
    rw [hset2]
    refine done c h' tk₁ ⟨hF.ns.at' fun o ho => hk' _ _ (hkeep L' o (Nat.le_of_lt (Nat.lt_trans hLL hLG)) (Nat.ne_of_lt hLL) ho), fun b o ho => hk' _ _ (hkeep b o (Nat.le_of_lt (Nat.lt_trans (Nat.lt_of_lt_of_le (Heap.lt_size ho) hF.above) (Nat.lt_trans hLL hLG))) (Nat.ne_of_lt (Nat.lt_trans (Nat.lt_of_lt_of_le (Heap.lt_size ho) hF.above) hLL)) (hF.keep b o ho)), hF.above⟩ fun p hp => ?_
    have hl := hled p hp
    have hp' := hN p (.tail _ hp)
    exact ⟨hk' _ _ (hkeep _ _ (Nat.le_of_lt (Nat.lt_trans hl hLG)) (Nat.ne_of_lt hl) hp'.1), hp'.2⟩
end
end Mine
end
section
open PySem PySem.W PyProof.Rows PySem.Calls
namespace Mine
local macro_rules | `(tactic| walk_at $s:str) => `(tactic| k_extra $s)
local macro_rules | `(tactic| k_enter) => `(tactic| (refine' code_def ?k1 ?k2 ?k3 ?k4 ?k5 ?kA ?kF ?kK ?k6 ?k7 ?k8 ?k9 ?kB ?_ ?c2 ?c3 ?c4 ?c5; (case kA => exact rfl); (case kF => exact rfl); (case kK => first | exact rfl | assumption); (case k1 => k_asm); (case k2 => k_asm); (case k3 => k_asm); (case k4 => k_asm); (case k5 => k_asm); (case k6 => k_is); (case k7 => k_is); (case k8 => ktr_room); (case k9 => exact BindsTo.of_eq rfl); (case c5 => decide); (case kB => exact locs rfl); (case c2 => exact rfl); (case c3 => exact rfl); (case c4 => exact rfl); k_whole; intro g' L' h' FG' F' N' B' X' T'; (try dsimp only); (try k_lift B'); (try k_fold)))
local macro_rules | `(tactic| k_units) => `(tactic| ktr_units)
section
open PySem PySem.W PyProof.Rows PySem.Calls
set_option Elab.async false
set_option maxRecDepth 100000
set_option maxHeartbeats 8000000
set_option pp.maxSteps 300
theorem freshWs1 : True := by
  k_with_none
  w_top off
  trivial

structure WSt where
  c : Addr
  vs : List Value
  k : Nat
  b : Int
  tb : Tok
  n : Int
  tn : Tok
  nt : Int
  tt : Tok
abbrev ledW (rest : List (Addr × Obj)) (c : WSt) : List (Addr × Obj) := (c.c, listOf c.vs.toArray c.k) :: rest
abbrev psW (c : WSt) : List (Str × Value) := [(Str.ofString "count", .ref c.c), (Str.ofString "b", .int c.b c.tb), (Str.ofString "n", .int c.n c.tn), (Str.ofString "nt", .int c.nt c.tt)]
def wsCnt (q i : Nat) : List Int := if i = 0 then [] else if i ≤ q + 1 then [1] else 1 :: List.replicate (q - 1) 0 ++ [1]
def wsText (q : Nat) : Str := ⟨#[9] ++ Array.replicate q 32 ++ #[9]⟩
structure WsP (q : Nat) (g0 : Array GenState) (x' d' D' : Addr) (i : Nat) (c : WSt) (gs : Array GenState) : Prop where
  hg : gs = g0
  hv : IntsAre c.vs (wsCnt q i)
  hn : c.n = i
  hb : c.b = if 1 ≤ i ∧ i ≤ q + 1 then (i : Int) - 1 else 0
  hnt : c.nt = if i = 0 then 0 else if i ≤ q + 1 then 1 else 2
  hx : @LT.lt Nat _ x' c.c
  hd : @LT.lt Nat _ d' c.c
  hD : @LT.lt Nat _ D' c.c

theorem wsText_len (q : Nat) : (wsText q).length = q + 2 := by simp [wsText, Str.length]; omega
theorem ws_code {q i n : Nat} (h : (wsText q).cps[i]? = some n) : (i = 0 ∧ n = 9) ∨ (1 ≤ i ∧ i ≤ q ∧ n = 32) ∨ (i = q + 1 ∧ n = 9) := by
  have h' : (9 :: (List.replicate q 32 ++ [9]))[i]? = some n := by
    rw [← h]; simp [wsText, ← Array.getElem?_toList]
  cases i with
  | zero => left; simp at h'; exact ⟨rfl, h'.symm⟩
  | succ i =>
    right
    rw [List.getElem?_cons_succ] at h'
    by_cases hi : i < q
    · left
      rw [List.getElem?_append_left (by simpa using hi), List.getElem?_replicate, if_pos hi] at h'
      exact ⟨by omega, by omega, (Option.some.inj h').symm⟩
    · right
      rw [List.getElem?_append_right (by simp; omega)] at h'
      simp at h'
      have : i - q = 0 := by
        rcases Nat.eq_zero_or_pos (i - q) with h0 | h0
        · exact h0
        · rw [List.getElem?_eq_none (by simp; omega)] at h'; cases h'
      rw [this] at h'
      simp at h'
      exact ⟨by omega, h'.symm⟩

theorem wsCnt_len {q : Nat} (hq : 1 ≤ q) : (wsCnt q (q + 2)).length = q + 1 := by
  rw [wsCnt, if_neg (by omega), if_neg (by omega)]; simp; omega
theorem ws_last {q : Nat} (hq : 1 ≤ q) : (([1] : List Int) ++ (List.replicate (((q : Int) - ((1 : Nat) : Int) + 1).toNat) ([0] : List Int)).flatten).set ((q : Int).toNat) (((([1] : List Int) ++ (List.replicate (((q : Int) - ((1 : Nat) : Int) + 1).toNat) ([0] : List Int)).flatten).getD ((q : Int).toNat) 0) + 1) = wsCnt q (q + 2) := by
  have e : ((q : Int) - ((1 : Nat) : Int) + 1).toNat = q := by omega
  have e2 : (q : Int).toNat = q := by omega
  have e3 : (List.replicate q ([0] : List Int)).flatten = List.replicate q 0 := by
    induction q with
    | zero => rfl
    | succ n ih => simp [List.replicate_succ]
  rw [e, e2, e3, wsCnt, if_neg (by omega), if_neg (by omega)]
  obtain ⟨p, rfl⟩ : ∃ p, q = p + 1 := ⟨q - 1, by omega⟩
  have e4 : List.replicate (p + 1) (0 : Int) = List.replicate p 0 ++ [0] := List.replicate_succ'
  rw [e4]
  simp [List.getD]

theorem ws_drop {h₀ h : Heap} {L : Addr} {a b c d : Addr × Obj} {r : List (Addr × Obj)} (N : News h₀ L h (a :: b :: c :: d :: r)) : News h₀ L h (a :: b :: r) := by
  intro p hp
  refine N p ?_
  rcases List.mem_cons.mp hp with rfl | hp
  · exact .head _
  · rcases List.mem_cons.mp hp with rfl | hp
    · exact .tail _ (.head _)
    · exact .tail _ (.tail _ (.tail _ (.tail _ hp)))
abbrev tupO (vs : List Value) : Obj := { cls := .type "tuple", data := .seq vs.toArray }
abbrev wsEs (P : Params) (raw : Str) (n : Int) (D2 : Addr) (bs : Bool) (t t1 t2 t3 t4 t5 tn tt : Tok) : List DictEntry :=
  [⟨PyData.keyHash P (Str.ofString "raw"), .str (Str.ofString "raw") t1, .str raw t⟩, ⟨PyData.keyHash P (Str.ofString "n"), .str (Str.ofString "n") t2, .int n tn⟩, ⟨PyData.keyHash P (Str.ofString "nt"), .str (Str.ofString "nt") t3, .int 2 tt⟩,
   ⟨PyData.keyHash P (Str.ofString "norm"), .str (Str.ofString "norm") t4, .ref D2⟩, ⟨PyData.keyHash P (Str.ofString "is_simple"), .str (Str.ofString "is_simple") t5, .bool bs⟩]
abbrev WsRet (P : Params) (q : Nat) (t : Tok) (h₀ : Heap) (L : Addr) (m : Str → Option Value) (news : List (Addr × Obj)) (s : Shared) (Q : Value → Shared → Prop) : Prop :=
  ∀ (x' d' D1 D2 : Addr) (vs : List Value) (bs : Bool) (t1 t2 t3 t4 t5 tn tt tb : Tok) (h' : Heap) (tk' : Nat), Fr h₀ L h' m →
    News h₀ L h' ((D2, tupO [.ref D1, .int 0 tb]) :: (D1, tupO vs) :: (x', instObj 83 d') :: (d', dictOf (wsEs P (wsText q) ((q + 2 : Nat) : Int) D2 bs t t1 t2 t3 t4 t5 tn tt) 5) :: news) → IntsAre vs (wsCnt q (q + 2)) →
    (∀ p ∈ news, p.1 < d') → d' < x' → x' < D1 → D1 < D2 → Q (.ref x') { s with heap := h', toks := tk' }

theorem c_ws (w : World) (mean : ExcName → Option Value) (mg mb : Str → Option Value) (news : List (Addr × Obj)) (q : Nat) (hq : 1 ≤ q) (hn : q ≤ 20) (t : Tok) 
    (dp un : Nat) (gd : Option (List Code)) (cn : Str) (cs : Scope) (a : Addr) (ccd : Value) (cl : List (Str × Addr)) (outer : List Env) (A₀ : Around) (base h₀ : Heap) (L : Addr) (m : Str → Option Value) (s : Shared) (Q E : Value → Shared → Prop) 
    (B : Below A₀ base outer h₀) (F : Fr h₀ L s.heap m) (X : (Mine.hd.heap_39 w.params).In h₀) (N : News h₀ L s.heap news) (T : Top Mine.hd.view_39 LO mean mg mb h₀) (hk : cs.kind = .function)
    (hd : dp + 3 < recursionLimit) (hu : un + 12 < cLine) (hret : WsRet w.params q t h₀ L m news s Q) :
      wpAny (model PR w) (ktrTop dp un gd cn cs L a ccd cl outer) (call (.ref 83) [.str (wsText q) t]) Q E s := by
  delta PR LO at *
  revert X; k_fill; intro X
  (repeat' ((fail_if_success (with_reducible show wpAny _ _ (exec (PySem.Stmt.For _ _ _ _ _) _) _ _ _)); first | (k_unfold; (try dsimp only)) | (k_end; wrow_close)  | walk1 | (dsimp only; walk1) | (leave1; walk_say "STEP leave1"; try dsimp only) | fail "no step"))
  rename_i x' d' ha F0 N0 la lb g' L' hb FG' B' X' T' tka hc D' hd1 lc he hf hg tkb l' hh ld hi hj hk1 hl F' N'
  obtain ⟨rest, hrest⟩ := led_rest N'
  obtain ⟨m₀, hm₀⟩ := fr_map F'
  refine For_G (h₀ := g') (σ := WSt) (Led := ledW rest) (ps := psW) (stored := []) (P := WsP q s.gens x' d' D') (m₀ := m₀) rfl rfl ?_
  (repeat' ((fail_if_success (with_reducible show wpAny _ _ (pyIter (Value.str _ _)) _ _ _)); first | (k_unfold; (try dsimp only)) | walk1 | (dsimp only; walk1)))
  refine' iter_textG (Led := ledW rest) (ps := psW) (P := WsP q s.gens x' d' D') (c₀ := (⟨l', [], 0, 0, _, 0, _, 0, _⟩ : WSt)) ?hh ?hF ?hN ?hk ?hp ?ht ?hd
  case hh => rfl
  case hF => subst hm₀; exact F'
  case hN => subst hrest; exact N'
  case hk => subst hm₀; kst_all
  case hp => exact ⟨rfl, .nil, rfl, rfl, rfl, by dsimp only; omega, by dsimp only; omega, by dsimp only; omega⟩
  case ht =>
    subst hrest hm₀
    rintro i ⟨c, vs, k, b, tb, nn, tn, nt, tt⟩ n t u h tk gs I o hcp ⟨hgs, hv, hnn, hb, hnt, hx, hd', hD⟩ hF hN hne
    dsimp only [ledW, psW, kstB] at hv hnn hb hnt hx hd' hD hF hN hne
    subst hgs
    clear F' N'
    have hIc : @Ne Nat I c := fun e => hne _ (.head _) e.symm
    have hID : @Ne Nat I D' := fun e => hne _ (.tail _ (.head _)) e.symm
    have hIx : @Ne Nat I x' := fun e => hne _ (.tail _ (.tail _ (.head _))) e.symm
    have hId : @Ne Nat I d' := fun e => hne _ (.tail _ (.tail _ (.tail _ (.head _)))) e.symm
    rcases ws_code hcp with ⟨h1, h2⟩ | ⟨h1, h2, h3⟩ | ⟨h1, h2⟩
    · subst h1 h2
      rw [if_neg (by omega)] at hb
      rw [if_pos rfl] at hnt
      rw [wsCnt, if_pos rfl] at hv
      subst hb hnt hnn
      cases hv
      (repeat' (first | (k_unfold; (try dsimp only)) | (k_end; wrow_close) | walk1 | (dsimp only; walk1) | (leave1; walk_say "STEP leave1"; try dsimp only) | fail "no step"))
      rename_i l1 _ _ _ _ F' N'
      refine' JEnd.intro (c' := (⟨_, [_], _, 0, _, 0 + 1, _, 0 + 1, _⟩ : WSt)) F' N' (.tail _ (.tail _ (.tail _ (.head _)))) (led_cons (.head _) ?k0 (fun q hq => .tail _ (.tail _ (.tail _ (.tail _ (.tail _ hq))))) fun q hq => hne q (.tail _ hq)) ?k1 ?k2 ⟨rfl, ?k3, ?k4, ?k5, ?k6, ?k7, ?k8, ?k9⟩
      case k1 => kst_all
      case k0 => exact l1.2.2.1
      case k2 =>
        intro z h1 h2 _
        simp only [psW, List.forall_mem_cons, List.not_mem_nil, false_implies, implies_true, and_true, ne_eq] at h2
        simp [h1, h2]
      case k3 => rw [wsCnt, if_neg (by omega), if_pos (by omega)]; exact .cons _ _ .nil
      case k4 => rfl
      case k5 => rfl
      case k6 => rfl
      all_goals (dsimp only; omega)
    · subst h3
      rw [if_pos (by omega)] at hb
      rw [if_neg (by omega), if_pos (by omega)] at hnt
      rw [wsCnt, if_neg (by omega), if_pos (by omega)] at hv
      subst hb hnt hnn
      (repeat' (first | (k_unfold; (try dsimp only)) | (k_end; wrow_close) | walk1 | (dsimp only; walk1) | (leave1; walk_say "STEP leave1"; try dsimp only) | fail "no step"))
      rename_i F' N'
      refine' JEnd.intro (c' := (⟨c, vs, k, (i : Int) - 1 + 1, _, (i : Int) + 1, _, 1, tt⟩ : WSt)) F' N' (.head _) (fun p hp => ⟨.tail _ hp, hne p hp⟩) ?k1 ?k2 ⟨rfl, ?k3, ?k4, ?k5, ?k6, hx, hd', hD⟩
      case k1 => kst_all
      case k2 =>
        intro z h1 h2 _
        simp only [psW, List.forall_mem_cons, List.not_mem_nil, false_implies, implies_true, and_true, ne_eq] at h2
        simp [h1, h2]
      case k3 => rw [wsCnt, if_neg (by omega), if_pos (by omega)]; exact hv
      case k4 => show (i : Int) + 1 = ((i + 1 : Nat) : Int); omega
      case k5 => dsimp only; rw [if_pos (by omega)]; omega
      case k6 => dsimp only; rw [if_neg (by omega), if_pos (by omega)]
    · subst h1 h2
      rw [if_pos (by omega)] at hb
      have hb2 : b = (q : Int) := by omega
      clear hb
      rw [if_neg (by omega), if_pos (by omega)] at hnt
      rw [wsCnt, if_neg (by omega), if_pos (by omega)] at hv
      subst hb2 hnt hnn
      (repeat' (first | (k_unfold; (try dsimp only)) | (k_end; wrow_close) | walk1 | (dsimp only; walk1) | (leave1; walk_say "STEP leave1"; try dsimp only) | fail "no step"))
      rename_i l1 _ _ _ hi' _ _ _ F' N'
      refine' JEnd.intro (c' := (⟨_, _, _, 0, _, ((q + 1 : Nat) : Int) + 1, _, 1 + 1, _⟩ : WSt)) F' N' (.tail _ (.tail _ (.tail _ (.head _)))) (led_cons (.head _) ?p0 (fun q hq => .tail _ (.tail _ (.tail _ (.tail _ (.tail _ hq))))) fun q hq => hne q (.tail _ hq)) ?p1 ?p2 ⟨rfl, ?p3, ?p4, ?p5, ?p6, ?p7, ?p8, ?p9⟩
      case p1 => kst_all
      case p0 => exact l1.2.2.1
      case p2 =>
        intro z h1 h2 _
        simp only [psW, List.forall_mem_cons, List.not_mem_nil, false_implies, implies_true, and_true, ne_eq] at h2
        simp [h1, h2]
      case p3 => exact (ws_last hq) ▸ hi'
      case p4 => show ((q + 1 : Nat) : Int) + 1 = ((q + 1 + 1 : Nat) : Int); omega
      case p5 => dsimp only; rw [if_neg (by omega)]
      case p6 => dsimp only; rw [if_neg (by omega), if_neg (by omega)]; rfl
      all_goals (dsimp only; omega)
  case hd =>
    subst hrest hm₀
    rintro ⟨c, vs, k, b, tb, nn, tn, nt, tt⟩ u h tk gs ⟨hgs, hv, hnn, hb, hnt, hx, hd', hD⟩ hF hN
    dsimp only [ledW, psW, kstB] at hv hnn hb hnt hx hd' hD hF hN
    rw [wsText_len] at hv hnn hb hnt
    rw [if_neg (by omega)] at hb
    rw [if_neg (by omega), if_neg (by omega)] at hnt
    subst hgs hnn hb hnt
    clear F' N'
    have hvl : vs.length = q + 1 := by rw [hv.length, wsCnt_len hq]
    k_with "call type:tuple" => (k_dflt (refine' kde_tupleOf ?a1 ?a2 ?a3 ?a4 ?a5 ?_; (case a1 => k_asm); (case a2 => k_asm); (case a3 => exact News.isList (by k_asm) (by k_mem)); (case a4 => rw [List.size_toArray]; omega); (case a5 => exact List.toList_toArray); k_whole); intro D' h' F' N' l1; (try k_lt l1))
    k_with "call builtin:len" => (k_dflt (refine' PyProof.Rows.len_list ?b1 ?b2 ?_; (case b1 => exact News.isList (by k_asm) (by k_mem)); (case b2 => rw [List.size_toArray]; omega); k_whole))
    (repeat' (first | (k_unfold; (try dsimp only)) | (k_end; wrow_close) | walk1 | (dsimp only; walk1) | (leave1; walk_say "STEP leave1"; try dsimp only) | fail "no step"))
    rename_i l2 _ _ _ F' N' kF kN _ _
    exact hret _ _ _ _ vs _ _ _ _ _ _ _ _ _ _ _ kF (ws_drop kN) hv la lb l1.2.2.1 l2.1
end
section
open PySem PySem.W PyProof.Rows PySem.Calls
set_option Elab.async false
set_option maxRecDepth 100000
set_option maxHeartbeats 8000000
set_option pp.maxSteps 300
theorem freshInd : True := by
  k_with_none
  w_top off
  trivial

structure ISt where
  il : Int
  tl : Tok
abbrev ledK (rest : List (Addr × Obj)) (_ : ISt) : List (Addr × Obj) := rest
abbrev psI (c : ISt) : List (Str × Value) := [(Str.ofString "il", .int c.il c.tl)]
structure IndP (q p : Nat) (g0 : Array GenState) (i : Nat) (c : ISt) (gs : Array GenState) : Prop where
  hg : gs = g0
  hil : c.il = if i = q + 1 - p then ((q / p : Nat) : Int) else 0

theorem wsCnt_item {q k : Nat} (h1 : 1 ≤ k) (h2 : k ≤ q) : (wsCnt q (q + 2)).getD k 0 = if k = q then 1 else 0 := by
  rw [wsCnt, if_neg (by omega), if_neg (by omega)]
  obtain ⟨j, rfl⟩ : ∃ j, k = j + 1 := ⟨k - 1, by omega⟩
  show (List.replicate (q - 1) (0 : Int) ++ [1]).getD j 0 = _
  rw [List.getD_eq_getElem?_getD]
  by_cases h : j < q - 1
  · rw [List.getElem?_append_left (by simpa using h), List.getElem?_replicate, if_pos h, if_neg (by omega)]; rfl
  · have : j = q - 1 := by omega
    subst this
    rw [List.getElem?_append_right (by simp), if_pos (by omega)]
    simp
theorem bit_le {b : Int} (h : b = 0 ∨ b = 1) : IntMulOk a b := IntMulOk.of_right (by rcases h with rfl | rfl <;> decide)

theorem c_ind (w : World) (mean : ExcName → Option Value) (mg mb : Str → Option Value) (news : List (Addr × Obj)) (q p : Nat) (hp : 1 ≤ p) (hpq : p ≤ q) (hn : q ≤ 20) (tp t : Tok) 
    (x' d' D1 D2 : Addr) (vs : List Value) (bs : Bool) (t1 t2 t3 t4 t5 tn tt tb : Tok) (hv : IntsAre vs (wsCnt q (q + 2))) :
    CbClaim PR w (Mine.hd.heap_39 w.params) Mine.hd.view_39 LO mean mg mb 52 ((D2, tupO [.ref D1, .int 0 tb]) :: (D1, tupO vs) :: (x', instObj 83 d') :: (d', dictOf (wsEs w.params (wsText q) ((q + 2 : Nat) : Int) D2 bs t t1 t2 t3 t4 t5 tn tt) 5) :: news) [] True [.ref x', .int p tp] (fun t => .int ((p : Int) * ((q / p : Nat) + 2)) t) := by
  delta PR LO
  k_fill
  dsimp only [CbClaim, CbLists, CbRet]
  intro dp un gd cn cs a ccd cl outer A₀ base h₀ L m s Q E B0 F0 X0 N0 T0 hk _ hd hu hret
  have hvl : vs.length = q + 1 := by rw [hv.length, wsCnt_len (by omega)]
  k_with "call builtin:len" => (k_dflt (refine' PyProof.Rows.len_tuple ?b1 ?b2 ?_; (case b1 => exact News.isTup (by k_asm) (by k_mem)); (case b2 => rw [List.size_toArray]; omega); k_whole))
  refine wpAny_call ?_
  k_dflt cell_enter
  rename_i g' L' hb FG' F1 N1 B' X' T'
  (repeat' ((fail_if_success (with_reducible show wpAny _ _ (exec (PySem.Stmt.For _ _ _ _ _) _) _ _ _)); first | (k_unfold; (try dsimp only)) | (k_end; wrow_close)  | walk1 | (dsimp only; walk1) | (leave1; walk_say "STEP leave1"; try dsimp only) | fail "no step"))
  rename_i F' N'
  obtain ⟨rest, hrest⟩ := led_all N'
  obtain ⟨m₀, hm₀⟩ := fr_map F'
  refine For_G (h₀ := g') (σ := ISt) (Led := ledK rest) (ps := psI) (stored := []) (P := IndP q p s.gens) (m₀ := m₀) rfl rfl ?_
  (repeat' ((fail_if_success (with_reducible show wpAny _ _ (pyIter (Value.ref _)) _ _ _)); first | (k_unfold; (try dsimp only)) | walk1 | (dsimp only; walk1)))
  rename_i rgX FR NR rgK
  have hlen : (wsCnt q (q + 2)).length = q + 1 := wsCnt_len (by omega)
  refine' iter_rangeG (n := q + 1 - p) (Led := ledK rest) (ps := psI) (P := IndP q p s.gens) (c₀ := (⟨0, _⟩ : ISt)) ?hh rgX ?hsm ?hsz ?hF ?hN ?hk ?hp ?ht ?hd
  case hh => rfl
  case hsm => exact small_one (by omega) (by omega) (by omega) (by omega)
  case hsz => rw [rangeSize_nat]; omega
  case hF => subst hm₀; exact FR
  case hN => subst hrest; exact NR
  case hk => subst hm₀; kst_all
  case hp => exact ⟨rfl, by dsimp only; rw [if_neg (by omega)]⟩
  case ht =>
    subst hrest hm₀
    rintro i ⟨il, tl⟩ k t u h tk gs I o hi hk ⟨hgs, hil⟩ hF hN hne
    dsimp only [ledK, psI, kstB] at hil hF hN hne
    subst hgs
    clear FR NR rgX rgK
    have hkn : k.toNat = p + i := by omega
    have hcnt : (wsCnt q (q + 2)).getD k.toNat 0 = if p + i = q then 1 else 0 := by rw [hkn]; exact wsCnt_item (by omega) (by omega)
    have hcnt2 : (wsCnt q (q + 2)).getD k.toNat 0 = 0 ∨ (wsCnt q (q + 2)).getD k.toNat 0 = 1 := by rw [hcnt]; split <;> simp
    k_with "binaryOp Mult int int" => (with_reducible refine PyProof.Rows.mul_int ?_ (bit_le hcnt2))
    (repeat' (first | (k_unfold; (try dsimp only)) | (k_end; wrow_close) | walk1 | (dsimp only; walk1) | (leave1; walk_say "STEP leave1"; try dsimp only) | fail "no step"))
    rename_i F' N'
    refine' JEnd.intro (c' := (⟨_, _⟩ : ISt)) F' N' (.head _) (led_same hne) ?k1 ?k2 ⟨rfl, ?k3⟩
    case k1 => kst_all
    case k2 =>
      intro z h1 h2 _
      simp only [psI, List.forall_mem_cons, List.not_mem_nil, false_implies, implies_true, and_true, ne_eq] at h2
      simp [h1, h2]
    case k3 =>
      dsimp only
      rw [hcnt, hil, if_neg (by omega)]
      by_cases he : p + i = q
      · rw [if_pos he, if_pos (by omega)]
        have hkq : k = (q : Int) := by omega
        rw [hkq, Int.mul_one, Int.zero_add, Int.fdiv_eq_ediv_of_nonneg _ (by omega)]
        rfl
      · rw [if_neg he, if_neg (by omega)]; simp
  case hd =>
    subst hrest hm₀
    rintro ⟨il, tl⟩ u h tk gs ⟨hgs, hil⟩ hF hN
    dsimp only [ledK, psI, kstB] at hil hF hN
    rw [if_pos rfl] at hil
    subst hgs
    clear FR NR rgX rgK
    (repeat' (first | (k_unfold; (try dsimp only)) | (k_end; wrow_close) | walk1 | (dsimp only; walk1) | (leave1; walk_say "STEP leave1"; try dsimp only) | fail "no step"))
    rename_i kF kN _ _
    exact cb_retI hret (by rw [hil, Int.zero_add]) kF kN
end
section
open PySem PySem.W PyProof.Rows PySem.Calls
set_option Elab.async false
set_option maxRecDepth 100000
set_option maxHeartbeats 8000000
set_option pp.maxSteps 300
theorem freshStrip : True := by
  k_with_none
  w_top off
  trivial
set_option linter.unusedVariables false

theorem over4 {m : Str → Option Value} {a1 a2 a3 a4 : Str} {v1 v2 v3 v4 : Option Value} (h1 : m a1 = v1) (h2 : m a2 = v2) (h3 : m a3 = v3) (h4 : m a4 = v4) :
    (fun y => if y = a1 then v1 else if y = a2 then v2 else if y = a3 then v3 else if y = a4 then v4 else m y) = m := by
  funext y
  split
  · subst_vars; rfl
  · split
    · subst_vars; rfl
    · split
      · subst_vars; rfl
      · split
        · subst_vars; rfl
        · rfl
theorem eq_fr {h₀ h : Heap} {L : Addr} {m m' : Str → Option Value} (F : Fr h₀ L h m) (e : ∀ y, m y = m' y) : Fr h₀ L h m' := (funext e : m = m') ▸ F
theorem ord1 {p c s o y : Str} {vp vc vs vo x1 x2 x3 R : Option Value} (h1 : p ≠ c) (h2 : p ≠ s) (h3 : p ≠ o) (h4 : c ≠ s) (h5 : c ≠ o) (h6 : s ≠ o) :
    (if y = o then vo else if y = c then vc else if y = p then vp else if y = p then x1 else if y = c then x2 else if y = s then vs else if y = o then x3 else R) = if y = p then vp else if y = c then vc else if y = s then vs else if y = o then vo else R := by
  by_cases e1 : y = p
  · subst e1; simp [h1, h3]
  by_cases e2 : y = c
  · subst e2; simp [e1, h5]
  by_cases e3 : y = s
  · subst e3; simp [e1, e2, h6]
  by_cases e4 : y = o
  · subst e4; simp [e1, e2, e3]
  simp [e1, e2, e3, e4]
theorem ord2 {p c s o y : Str} {vp vc vs vo x1 x2 x3 x4 R : Option Value} (h1 : p ≠ c) (h2 : p ≠ s) (h3 : p ≠ o) (h4 : c ≠ s) (h5 : c ≠ o) (h6 : s ≠ o) :
    (if y = o then vo else if y = s then vs else if y = c then vc else if y = p then vp else if y = p then x1 else if y = c then x2 else if y = s then x3 else if y = o then x4 else R) = if y = p then vp else if y = c then vc else if y = s then vs else if y = o then vo else R := by
  by_cases e1 : y = p
  · subst e1; simp [h1, h2, h3]
  by_cases e2 : y = c
  · subst e2; simp [e1, h4, h5]
  by_cases e3 : y = s
  · subst e3; simp [e1, e2, h6]
  by_cases e4 : y = o
  · subst e4; simp [e1, e2, e3]
  simp [e1, e2, e3, e4]
theorem slice_sn_is {prog : Program} {w : World} {A : Around} {E : Value → Shared → Prop} {s : Shared} {value slice : PySem.Expr} {x y : Str} {t : Tok} {h₀ : Heap} {L : Addr} {m : Str → Option Value} {news : List (Addr × Obj)} {Q : Value → Shared → Prop} {j : Int} {uj : Tok} (hF : Fr h₀ L s.heap m) (hN : News h₀ L s.heap news) (hsz : x.length ≤ sizeLine) (hy : Txt.slice x (some j) none = y)
    (h : ∀ h' t' k, Fr h₀ L h' m → News h₀ L h' news → Q (.str y t') { s with heap := h', toks := k })
    (hs : subscripted slice false (.str x t) (.ref s.heap.objs.size) = operate [.ref s.heap.objs.size, .str x t] (getItem (.str x t) (.ref s.heap.objs.size)) := by with_unfolding_all rfl)
    (ht : ∀ r, letTemporaryGo value (.str x t) r = pure () := by intro _; with_unfolding_all rfl) :
    wpAny (model prog w) A (subscriptTail value slice (.str x t) (.ref s.heap.objs.size)) Q E { s with heap := s.heap.push { cls := .type "slice", data := .fields #[.int j uj, .none, .none] } } := by
  subst hy; exact slice_strN_sn hF hN h hs ht hsz
theorem strip_slice : ∀ n : Nat, n ≤ 20 → n % 2 = 1 → Txt.slice (qs n) (some ((2 * (n / 2) : Nat) : Int)) none = qs 1 := by
  decide +kernel
theorem strip_occ : ∀ n : Nat, n ≤ 20 → 1 ≤ n → (PySem.Builtin.Str.occurrences (qs n) (Str.ofString "\"") 0 (qs n).length 1).isEmpty = true → False := by
  decide +kernel
structure SSt where
  u1 : Option Value
  u2 : Option Value
  ts : Tok
  to : Tok
def opV (i : Nat) (t : Tok) : Value := if i % 2 = 0 then .none else .int ((i : Int) - 1) t
abbrev mpS (m₀ : Str → Option Value) (i : Nat) (c : SSt) : Str → Option Value := fun y => if y = Str.ofString "pos" then c.u1 else if y = Str.ofString "ch" then c.u2 else if y = Str.ofString "start" then some (.int ((2 * (i / 2) : Nat) : Int) c.ts) else if y = Str.ofString "open_pos" then some (opV i c.to) else m₀ y
theorem qs_at {n i c : Nat} (h : (qs n).cps[i]? = some c) : c = 34 := by
  have h' : (List.replicate n 34)[i]? = some c := by rw [← h]; simp [qs, ← Array.getElem?_toList]
  exact List.eq_of_mem_replicate (List.mem_of_getElem? h')

theorem c_strip (w : World) (mean : ExcName → Option Value) (mg mb : Str → Option Value) (news : List (Addr × Obj)) (n : Nat) (h1n : 1 ≤ n) (hn : n ≤ 20) (t : Tok)
    (dp un : Nat) (gd : Option (List Code)) (cn : Str) (cs : Scope) (a : Addr) (ccd : Value) (cl : List (Str × Addr)) (outer : List Env) (A₀ : Around) (base h₀ : Heap) (L : Addr) (m : Str → Option Value) (s : Shared) (Q E : Value → Shared → Prop) 
    (B : Below A₀ base outer h₀) (F : Fr h₀ L s.heap m) (X : (Mine.hd.heap_39 w.params).In h₀) (N : News h₀ L s.heap news) (T : Top Mine.hd.view_39 LO mean mg mb h₀) (hk : cs.kind = .function)
    (hd : dp + 3 < recursionLimit) (hu : un + 12 < cLine) (hret : ∀ (t' : Tok) (h' : Heap) (tk' : Nat), Fr h₀ L h' m → News h₀ L h' news → Q (.str (qs (n % 2)) t') { s with heap := h', toks := tk', gens := s.gens.push .finished }) :
      wpAny (model PR w) (ktrTop dp un gd cn cs L a ccd cl outer) (call (.ref 108) [.str (qs n) t]) Q E s := by
  delta PR LO at *
  revert X; k_fill; intro X
  refine wpAny_call ?_
  k_dflt cell_enter
  rename_i g' L' hb FG' F1 N1 B' X' T'
  (repeat' ((fail_if_success (with_reducible show wpAny _ _ (exec (PySem.Stmt.For _ _ _ _ _) _) _ _ _)); first | (k_unfold; (try dsimp only)) | (k_end; wrow_close)  | walk1 | (dsimp only; walk1) | (leave1; walk_say "STEP leave1"; try dsimp only) | fail "no step"))
  · rename_i hocc _ _ _ _
    exfalso
    exact strip_occ n hn h1n hocc
  rename_i l' hA1 l1 hS F' N'
  refine wpAny_For ?_
  (repeat' ((fail_if_success (with_reducible show wpAny _ _ (call (Value.ref _) _ _) _ _ _)); first | (k_unfold; (try dsimp only)) | walk1 | (dsimp only; walk1)))
  refine wpAny_call ?_
  k_dflt (refine' mk_gen (X'.keeps F'.keep) (T'.nolimit.keeps F'.keep) ?ho ?hcd ?hroom ?hbind ?hloc ?hcell ?hco ?hgen ?hk ?h; (case ho => k_is); (case hcd => k_is); (case hroom => ktr_room); (case hbind => exact BindsTo.of_eq rfl); (case hcell => decide); (case hloc => exact locs rfl); (case hco => exact rfl); (case hgen => exact rfl); (case hk => exact rfl); k_whole)
  intro h6 tk6 hsz6 hns6 hgen6 hk6
  dsimp only at hsz6 hns6 hgen6 hk6 ⊢
  refine wpAny_pyIter_gen hgen6 ?_
  obtain ⟨m₀, hm₀⟩ := fr_map F'
  have hG6 := hgen6
  obtain ⟨og, nm, qn, ho6, hc6, hd6, hs6⟩ := hG6
  have hLL : @LT.lt Nat _ L' hS.objs.size := F'.ns.lt
  obtain ⟨ts0, hts0⟩ : ∃ ts, m₀ (Str.ofString "start") = some (.int 0 ts) := by subst hm₀; exact ⟨_, rfl⟩
  have hop0 : m₀ (Str.ofString "open_pos") = some .none := by subst hm₀; rfl
  refine gen_for (x := qs n) (tx := t) (n := n) (s := s) (g' := g') (L' := L') (Lg := hS.objs.size) (G := hS.objs.size + 1) (og := og) (led := (l', listOf #[] 0) :: news) (mp := mpS m₀) rfl ?hroom T'.nolimit (Nat.lt_succ_self _) hLL ?hled hc6 hd6 hs6 ?start ?item ?done
  case hroom => ktr_room
  case hled =>
    intro p hp
    exact Heap.lt_size (N' p hp).1
  case start =>
    refine ⟨(⟨m₀ (Str.ofString "pos"), m₀ (Str.ofString "ch"), ts0, 0⟩ : SSt), h6, tk6, _, fun H => H.Ns hS.objs.size (fun y => ([(Str.ofString "addr", Value.str (qs n) t)] : List (Str × Value)).reverse.lookup y), rfl, ?f0, ?n0, hns6, ?g0⟩
    case f0 =>
      have e : mpS m₀ 0 (⟨m₀ (Str.ofString "pos"), m₀ (Str.ofString "ch"), ts0, 0⟩ : SSt) = m₀ := over4 rfl rfl hts0 hop0
      rw [e]
      subst hm₀
      exact F'.keeps hk6
    case n0 =>
      intro p hp
      rcases List.mem_cons.mp hp with rfl | hp
      · exact ⟨ho6, Nat.ne_of_gt (Nat.lt_succ_of_lt hLL), none_of_ge (Nat.le_trans F'.above (Nat.le_of_lt (Nat.lt_succ_of_lt hLL)))⟩
      · exact ⟨hk6 _ _ (N' p hp).1, (N' p hp).2⟩
    case g0 =>
      intro s'' hns'' hk'' hG''
      refine ⟨rfl, ?_⟩
      refine' gen_first w mean mg mb ?hl g' X' T' _ rfl _ _ (qs n) t n ?hasc ?hbs ?hsz (Nat.lt_succ_self _) (Nat.le_trans F'.above (Nat.le_of_lt hLL)) s'' ⟨og, hG''⟩ hk'' hns''
      case hl => k_is
      case hasc => exact Array.all_eq_true.mpr (fun i hi => by simp [qs])
      case hbs =>
        intro i c hc
        rw [qs_at hc]; decide
      case hsz => simp [qs]
  case item =>
    intro i c h tk gs T ti tc sg rest hi hsg hF hN hsub
    have h34 : sg = 34 := qs_at hsg
    subst h34
    obtain ⟨u1, u2, ts, to⟩ := c
    by_cases he : i % 2 = 0
    · have e1 : opV i to = .none := if_pos he
      have hF1 : Fr g' L' h (fun y => if y = Str.ofString "pos" then u1 else if y = Str.ofString "ch" then u2 else if y = Str.ofString "start" then some (.int ((2 * (i / 2) : Nat) : Int) ts) else if y = Str.ofString "open_pos" then some (opV i to) else m₀ y) := hF
      clear hF
      rw [e1] at hF1
      subst hm₀
      try dsimp only at hF1
      (repeat' ((fail_if_success (with_reducible show @Exists _ _)); first | (k_unfold; (try dsimp only)) | walk1 | (dsimp only; walk1) | (leave1; walk_say "STEP leave1"; try dsimp only) | fail "no step"))
      rename_i F2 N2
      refine ⟨(⟨some (.int i ti), some (.str (Str.ofString "\"") tc), ts, ti⟩ : SSt), _, _, _, rfl, ?e1, N2, fun p hp => .tail _ hp⟩
      case e1 =>
        refine eq_fr F2 (fun y => (ord1 (by decide) (by decide) (by decide) (by decide) (by decide) (by decide)).trans ?_)
        have e3 : 2 * ((i + 1) / 2) = 2 * (i / 2) := by omega
        have e4 : opV (i + 1) ti = .int i ti := by rw [opV, if_neg (by omega)]; congr 1; omega
        show _ = mpS _ (i + 1) _ y
        unfold mpS
        rw [e3, e4]
    · have e1 : opV i to = .int ((i : Int) - 1) to := if_neg he
      have hF1 : Fr g' L' h (fun y => if y = Str.ofString "pos" then u1 else if y = Str.ofString "ch" then u2 else if y = Str.ofString "start" then some (.int ((2 * (i / 2) : Nat) : Int) ts) else if y = Str.ofString "open_pos" then some (opV i to) else m₀ y) := hF
      clear hF
      rw [e1] at hF1
      subst hm₀
      try dsimp only at hF1
      (repeat' ((fail_if_success (with_reducible show @Exists _ _)); first | (k_unfold; (try dsimp only)) | (k_end; wrow_close)  | walk1 | (dsimp only; walk1) | (leave1; walk_say "STEP leave1"; try dsimp only) | fail "no step"))
      · omega
      rename_i F2 N2
      refine' ⟨(⟨some (.int i ti), some (.str (Str.ofString "\"") tc), _, to⟩ : SSt), _, _, _, rfl, ?e2, N2, fun p hp => .tail _ hp⟩
      case e2 =>
        refine eq_fr F2 (fun y => (ord2 (by decide) (by decide) (by decide) (by decide) (by decide) (by decide)).trans ?_)
        have e3 : ((2 * ((i + 1) / 2) : Nat) : Int) = (i : Int) + 1 := by omega
        have e4 : opV (i + 1) to = .none := by rw [opV, if_pos (by omega)]
        show _ = mpS _ (i + 1) _ y
        unfold mpS
        rw [e3, e4]
  case done =>
    intro c h tk hF hN
    subst hm₀
    have hqz : (qs n).length ≤ sizeLine := by rw [qs_len]; exact Nat.le_trans hn (by decide)
    have hql := qs_len n
    have hF1 : Fr g' L' h (fun y => if y = Str.ofString "pos" then c.u1 else if y = Str.ofString "ch" then c.u2 else if y = Str.ofString "start" then some (.int ((2 * (n / 2) : Nat) : Int) c.ts) else if y = Str.ofString "open_pos" then some (opV n c.to) else _) := hF
    clear hF
    by_cases ho : n % 2 = 1
    · have hsl := strip_slice n hn ho
      k_with "subscriptTail Name Slice str ref" => ((with_reducible rename Fr _ _ _ _ => F'); (with_reducible rename News _ _ _ _ => N'); (refine slice_sn_is (s := ⟨_, _, _, _, _⟩) F' N' hqz hsl ?_; intro _ _ _ _ _))
      (repeat' (first | (k_unfold; (try dsimp only)) | (k_end; wrow_close)  | walk1 | (dsimp only; walk1) | (leave1; walk_say "STEP leave1"; try dsimp only) | fail "no step"))
      rename_i kF kN _ _
      have hj : Txt.join (Str.ofString "") [qs 1] = qs (n % 2) := by rw [ho]; decide +kernel
      rw [hj]
      exact hret _ _ _ kF fun p hp => kN p (.tail _ hp)
    · (repeat' (first | (k_unfold; (try dsimp only)) | (k_end; wrow_close)  | walk1 | (dsimp only; walk1) | (leave1; walk_say "STEP leave1"; try dsimp only) | fail "no step"))
      rename_i kF kN _ _
      have hj : Txt.join (Str.ofString "") [] = qs (n % 2) := by rw [show n % 2 = 0 by omega]; decide +kernel
      rw [hj]
      exact hret _ _ _ kF fun p hp => kN p (.tail _ hp)
end
section
open PySem PySem.W PyProof.Rows PySem.Calls
set_option Elab.async false
set_option maxRecDepth 100000
set_option maxHeartbeats 8000000
set_option pp.maxSteps 300
theorem freshSum : True := by
  k_with_none
  w_top off
  trivial
set_option linter.unusedVariables false

def hl : Nat → Nat → List Nat
  | 0, _ => []
  | f + 1, n => if n = 0 then [] else n :: hl f (n / 2)
def ol (q : Nat) : Nat → List Nat
  | 0 => []
  | i + 1 => ol q i ++ (if (i + 1) % 2 = 1 then hl 6 (q / (i + 1)) else [])
def sumF (F : Nat → Int) : List Nat → Int
  | [] => 0
  | n :: r => F n + sumF F r
theorem sumF_append (F : Nat → Int) (a b : List Nat) : sumF F (a ++ b) = sumF F a + sumF F b := by
  induction a with
  | nil => simp [sumF]
  | cons x r ih => simp only [List.cons_append, sumF, ih]; omega
theorem sumF_perm (F : Nat → Int) {a b : List Nat} (h : a.Perm b) : sumF F a = sumF F b := by
  induction h with
  | nil => rfl
  | cons x _ ih => simp only [sumF, ih]
  | swap x y l => simp only [sumF]; omega
  | trans _ _ h1 h2 => exact h1.trans h2
def qsL (q : Nat) : List Nat := (List.range q).map fun j => q / (j + 1)
theorem ol_perm : ∀ q : Nat, q ≤ 20 → (ol q q).Perm (qsL q) := by decide +kernel
theorem hl_step : ∀ n : Nat, n ≤ 20 → hl 6 n = if n = 0 then [] else n :: hl 6 (n / 2) := by decide +kernel
theorem ws_text : ∀ q : Nat, q ≤ 20 → Str.ofString "\t" ++ Txt.mul (Str.ofString " ") (q : Int) ++ Str.ofString "\t" = wsText q := by decide +kernel
theorem p257_3 : ∀ n : Nat, n ≤ 20 → Txt.slice (Str.ofString "257 \"" ++ qs n) none (some 3) = Str.ofString "257" := by decide +kernel
theorem p257_35 : ∀ n : Nat, n ≤ 20 → Txt.slice (Str.ofString "257 \"" ++ qs n) (some 3) (some 5) = Str.ofString " \"" := by decide +kernel
theorem p257_it : ∀ n : Nat, n ≤ 20 → ∀ i : Nat, i < n → Txt.item (Str.ofString "257 \"" ++ qs n) ((i : Int) + 5) = Str.ofString "\"" := by decide +kernel
theorem p257_len : ∀ n : Nat, n ≤ 20 → (Str.ofString "257 \"" ++ qs n).length = n + 5 := by decide +kernel
theorem qs_mul : ∀ n : Nat, n ≤ 20 → Txt.mul (Str.ofString "\"") (n : Int) = qs n := by decide +kernel

structure SumSt where
  tot : Int
  tt : Tok
abbrev ledS (rest : List (Addr × Obj)) (_ : SumSt) : List (Addr × Obj) := rest
abbrev psS (c : SumSt) : List (Str × Value) := [(Str.ofString "total", .int c.tot c.tt)]
structure SumP (q : Nat) (ns : List Int) (g0 : Array GenState) (i : Nat) (c : SumSt) (gs : Array GenState) : Prop where
  hg : AllBare g0 → AllBare gs
  ht : c.tot = sumF (fun n => ns.getD (n % 5) 0) (ol q i)

structure RunSt where
  tot : Int
  tt : Tok
  n : Nat
  tr : Tok
abbrev psRn (c : RunSt) : List (Str × Value) := [(Str.ofString "total", .int c.tot c.tt), (Str.ofString "run", .str (qs c.n) c.tr)]
abbrev ledRn (rest : List (Addr × Obj)) (_ : RunSt) : List (Addr × Obj) := rest
theorem led_rot {h₀ h : Heap} {L : Addr} {a b c d e : Addr × Obj} {r : List (Addr × Obj)} (N : News h₀ L h (a :: b :: c :: d :: e :: r)) : News h₀ L h (b :: c :: d :: e :: a :: r) := fun p hp => N p ((List.perm_middle (l₁ := [b, c, d, e]) (l₂ := r) (a := a)).mem_iff.mp hp)
theorem led_unrot {h₀ h : Heap} {L : Addr} {a b c d e : Addr × Obj} {r : List (Addr × Obj)} (N : News h₀ L h (b :: c :: d :: e :: a :: r)) : News h₀ L h (a :: b :: c :: d :: e :: r) := fun p hp => N p ((List.perm_middle (l₁ := [b, c, d, e]) (l₂ := r) (a := a)).mem_iff.mpr hp)
theorem run_len {p q : Nat} (hp : 1 ≤ p) : Int.fdiv ((p : Int) * ((q / p : Nat) + 2)) (p : Int) - 2 = ((q / p : Nat) : Int) := by
  rw [Int.fdiv_eq_ediv_of_nonneg _ (by omega), Int.mul_ediv_cancel_left _ (by omega)]; omega

theorem c_sum (w : World) (mean : ExcName → Option Value) (mg mb : Str → Option Value) (news : List (Addr × Obj)) (q : Nat) (hq : 1 ≤ q) (hn : q ≤ 20) (tq : Tok) (ra : Addr) (rvs : List Value) (rk : Nat) (ns : List Int) (hrv : IntsAre rvs ns) (hr5 : ns.length = 5)
    (dp un : Nat) (gd : Option (List Code)) (cn : Str) (cs : Scope) (a : Addr) (ccd : Value) (cl : List (Str × Addr)) (outer : List Env) (A₀ : Around) (base h₀ : Heap) (L : Addr) (m : Str → Option Value) (s : Shared) (Q E : Value → Shared → Prop) 
    (B : Below A₀ base outer h₀) (F : Fr h₀ L s.heap m) (X : (Mine.hd.heap_39 w.params).In h₀) (N : News h₀ L s.heap ((ra, listOf rvs.toArray rk) :: news)) (T : Top Mine.hd.view_39 LO mean mg mb h₀) (hk : cs.kind = .function)
    (hd : dp + 6 < recursionLimit) (hu : un + 40 < cLine)
    (hret : ∀ (t' : Tok) (h' : Heap) (tk' : Nat) (gs' : Array GenState), (AllBare s.gens → AllBare gs') → Fr h₀ L h' m → News h₀ L h' ((ra, listOf rvs.toArray rk) :: news) → Q (.int (sumF (fun n => ns.getD (n % 5) 0) (qsL q)) t') { s with heap := h', toks := tk', gens := gs' }) :
      wpAny (model PR w) (ktrTop dp un gd cn cs L a ccd cl outer) (call (.ref 154) [.int q tq, .ref ra]) Q E s := by
  delta PR LO at *
  revert X; k_fill; intro X
  refine wpAny_call ?_
  k_dflt cell_enter
  rename_i g' L' hb FG' F1 N1 B' X' T'
  (repeat' ((fail_if_success (with_reducible show wpAny _ _ (call (Value.ref _) _) _ _ _)); first | (k_unfold; (try dsimp only)) | (k_end; wrow_close)  | walk1 | (dsimp only; walk1) | (leave1; walk_say "STEP leave1"; try dsimp only) | fail "no step"))
  rw [ws_text q hn]
  rename_i F0 N0 _ _ _ tw _ _
  k_dflt (refine' c_ws w mean mg mb _ q hq hn _ _ _ _ _ _ _ _ _ _ _ _ _ _ _ _ _ _ ?j1 ?j2 ?j3 ?j4 ?j5 ?jK ?jd ?ju ?jR)
  case j1 => k_asm
  case j2 => k_asm
  case j3 => k_asm
  case j4 => k_asm
  case j5 => k_asm
  case jK => rfl
  case jd => ktr_room
  case ju => ktr_units
  intro x' d' D1 D2 vs bs t1 t2 t3 t4 t5 tn ttw tb h2 tk2 F2 N2 hv _ _ _ _
  clear F0 N0
  try dsimp only
  (repeat' ((fail_if_success (with_reducible show wpAny _ _ (exec (PySem.Stmt.For _ _ _ _ _) _) _ _ _)); first | (k_unfold; (try dsimp only)) | (k_end; wrow_close)  | walk1 | (dsimp only; walk1) | (leave1; walk_say "STEP leave1"; try dsimp only) | fail "no step"))
  rename_i F' N'
  obtain ⟨rest, hrest⟩ := led_all N'
  obtain ⟨m₀, hm₀⟩ := fr_map F'
  refine For_G (h₀ := g') (σ := SumSt) (Led := ledS rest) (ps := psS) (stored := [Str.ofString "run"]) (P := SumP q ns s.gens) (m₀ := m₀) rfl rfl ?_
  (repeat' ((fail_if_success (with_reducible show wpAny _ _ (pyIter (Value.ref _)) _ _ _)); first | (k_unfold; (try dsimp only)) | walk1 | (dsimp only; walk1)))
  rename_i rgX FR NR rgK
  refine' iter_rangeG (n := q) (Led := ledS rest) (ps := psS) (P := SumP q ns s.gens) (c₀ := (⟨0, _⟩ : SumSt)) ?hh rgX ?hsm ?hsz ?hF ?hN ?hk ?hp ?ht ?hd
  case hh => rfl
  case hsm => exact small_one (by omega) (by omega) (by omega) (by omega)
  case hsz => rw [rangeSize_nat]; omega
  case hF => subst hm₀; exact FR
  case hN => subst hrest; exact NR
  case hk => subst hm₀; kst_all
  case hp => exact ⟨id, rfl⟩
  case ht =>
    subst hrest hm₀
    rintro i ⟨tot, tt⟩ k t u h tk gs I o hi hk ⟨hgs, htot⟩ hF hN hne
    dsimp only [ledS, psS, kstB] at htot hF hN hne
    clear FR NR rgX rgK
    obtain ⟨p, hp⟩ : ∃ p : Nat, p = i + 1 := ⟨_, rfl⟩
    have hkp : k = (p : Int) := by omega
    subst hkp
    clear hk
    (repeat' ((fail_if_success (with_reducible show wpAny _ _ (call (Value.ref _) _) _ _ _)); first | (k_unfold; (try dsimp only)) | (k_end; wrow_close)  | walk1 | (dsimp only; walk1) | (leave1; walk_say "STEP leave1"; try dsimp only) | fail "no step"))
    rw [qs_mul p (by omega)]
    k_dflt (refine' c_strip w mean mg mb _ p (by omega) (by omega) _ _ _ _ _ _ _ _ _ _ _ _ _ _ _ _ _ _ ?l1 ?l2 ?l3 ?l4 ?l5 ?lK ?ld ?lu ?lR)
    case l1 => k_asm
    case l2 => k_asm
    case l3 => k_asm
    case l4 => k_asm
    case l5 => k_asm
    case lK => rfl
    case ld => ktr_room
    case lu => ktr_units
    intro ts h3 tk3 F3 N3
    clear hF hN
    try dsimp only
    have hgs3 : AllBare s.gens → AllBare (gs.push .finished) := fun hb => (hgs hb).push rfl
    generalize gs.push .finished = gs3 at hgs3
    rcases Nat.mod_two_eq_zero_or_one p with ho | ho
    · rw [ho, show qs 0 = Str.ofString "" from by decide +kernel]
      (repeat' (first | (k_unfold; (try dsimp only)) | (k_end; wrow_close) | walk1 | (dsimp only; walk1) | (leave1; walk_say "STEP leave1"; try dsimp only) | fail "no step"))
      refine' JEnd.intro (c' := (⟨tot, tt⟩ : SumSt)) F3 N3 (.head _) (led_same hne) ?k1 ?k2 ⟨hgs3, ?k3⟩
      case k1 => kst_all
      case k2 =>
        intro z h1 h2 h3
        simp only [psS, List.forall_mem_cons, List.not_mem_nil, false_implies, implies_true, and_true, ne_eq] at h2
        simp only [h1, h2, h3, if_false, Bool.false_eq_true]
      case k3 => dsimp only; rw [htot, ol, if_neg (by omega), List.append_nil]
    · rw [ho, show qs 1 = Str.ofString "\"" from by decide +kernel]
      (repeat' ((fail_if_success (with_reducible show wpAny _ _ (call (Value.ref _) _) _ _ _)); first | (k_unfold; (try dsimp only)) | (k_end; wrow_close) | walk1 | (dsimp only; walk1) | (leave1; walk_say "STEP leave1"; try dsimp only) | fail "no step"))
      have N4 := led_rot N3
      k_dflt (refine' c_ind w mean mg mb ((I, o) :: (ra, listOf rvs.toArray rk) :: news) q p (by omega) (by omega) hn t tw x' d' D1 D2 vs bs t1 t2 t3 t4 t5 tn ttw tb hv _ _ _ _ _ _ _ _ _ _ _ _ _ _ _ _ _ ?i1 ?i2 ?i3 ?i4 ?i5 ?iK ?ip ?id ?iu ?iR)
      case i1 => k_asm
      case i2 => k_asm
      case i3 => k_asm
      case i4 => exact N4
      case i5 => k_asm
      case iK => rfl
      case ip => trivial
      case id => ktr_room
      case iu => ktr_units
      intro t9 h9 tk9 F9 N9
      have N5 := led_unrot N9
      clear N9 N4 F3 N3
      try dsimp only
      (repeat' ((fail_if_success (with_reducible show wpAny _ _ (exec (PySem.Stmt.While _ _ _ _) _) _ _ _)); first | (k_unfold; (try dsimp only)) | (k_end; wrow_close) | walk1 | (dsimp only; walk1) | (leave1; walk_say "STEP leave1"; try dsimp only) | fail "no step"))
      have hnq : q / p ≤ 20 := Nat.le_trans (Nat.div_le_self q p) hn
      rw [run_len (by omega)]
      generalize hnp : q / p = n0 at hnq ⊢
      (repeat' ((fail_if_success (with_reducible show wpAny _ _ (exec (PySem.Stmt.While _ _ _ _) _) _ _ _)); first | (k_unfold; (try dsimp only)) | (k_end; wrow_close) | walk1 | (dsimp only; walk1) | (leave1; walk_say "STEP leave1"; try dsimp only) | fail "no step"))
      rename_i F8 N8
      rw [qs_mul n0 hnq] at F8
      obtain ⟨rest8, hrest8⟩ := led_all N8
      obtain ⟨m8, hm8⟩ := fr_map F8
      subst hrest8
      refine' ksw_while (h₀ := g') (σ := RunSt) (ledRn _) psRn (fun _ => True) [] (fun c => c.n ≤ 20 ∧ c.tot + sumF (fun n => ns.getD (n % 5) 0) (hl 6 c.n) = tot + sumF (fun n => ns.getD (n % 5) 0) (hl 6 n0)) (fun c => c.n) (⟨tot, _, n0, _⟩ : RunSt) F8 N8 trivial ?w1 ?w2 ?w3
      case w1 => kst_all
      case w2 => exact ⟨hnq, rfl⟩
      case w3 =>
        rintro ⟨tot2, tt2, n, tr⟩ u8 h tk _ ⟨hn20, hinv⟩ hF hN
        dsimp only [ledRn, psRn, kstB] at hinv hF hN hn20
        rw [hl_step n hn20] at hinv
        have hqz : (qs n).length ≤ sizeLine := by rw [qs_len]; exact Nat.le_trans hn20 (by decide)
        have hql := qs_len n
        by_cases h0 : n = 0
        · subst h0
          rw [show qs 0 = Str.ofString "" from by decide +kernel] at hF
          (repeat' (first | (k_unfold; (try dsimp only)) | (k_end; wrow_close) | walk1 | (dsimp only; walk1) | (leave1; walk_say "STEP leave1"; try dsimp only) | fail "no step"))
          refine' JEnd.intro (c' := (⟨tot2, tt2⟩ : SumSt)) hF hN (.head _) (led_same hne) ?o1 ?o2 ⟨hgs3, ?o3⟩
          case o1 => kst_all
          case o2 =>
            intro z h1 h2 h3
            simp only [psS, List.forall_mem_cons, List.not_mem_nil, false_implies, implies_true, and_true, ne_eq] at h2
            have h4 : z ≠ Str.ofString "run" := by rintro rfl; simp at h3
            simp only [h1, h2, h3, h4, if_false, Bool.false_eq_true, List.contains_nil]
          case o3 =>
            dsimp only
            rw [if_pos rfl] at hinv
            rw [ol, if_pos (by omega), sumF_append, ← htot, ← hp, hnp, ← hinv]
            simp [sumF]
        · (repeat' ((fail_if_success (with_reducible show wpAny _ _ (call (Value.ref _) _) _ _ _)); first | (k_unfold; (try dsimp only)) | (k_end; wrow_close) | walk1 | (dsimp only; walk1) | (leave1; walk_say "STEP leave1"; try dsimp only) | fail "no step"))
          · rename_i FA NA _ _ _ _
            k_dflt (refine' c_parse0 w mean mg mb _ n hn20 _ _ (p257_len n hn20) ?y1 (p257_3 n hn20) (p257_35 n hn20) ?y2 _ _ _ _ _ _ _ _ _ _ _ _ _ _ _ _ _ ?z1 ?z2 ?z3 ?z4 ?z5 ?zK ?zp ?zd ?zu ?zR)
            case y1 => rw [p257_len n hn20]; exact Nat.le_trans (Nat.add_le_add_right hn20 5) (by decide)
            case y2 =>
              intro j h1 h2
              have := p257_it n hn20 (j - 5).toNat (by omega)
              rw [show (((j - 5).toNat : Nat) : Int) + 5 = j by omega] at this
              exact this
            case z1 => k_asm
            case z2 => k_asm
            case z3 => k_asm
            case z4 => k_asm
            case z5 => k_asm
            case zK => rfl
            case zp => trivial
            case zd => ktr_room
            case zu => ktr_units
            intro tB hB tkB FB NB
            try dsimp only
            (repeat' (first | (k_unfold; (try dsimp only)) | (k_end; wrow_close) | walk1 | (dsimp only; walk1) | (leave1; walk_say "STEP leave1"; try dsimp only) | fail "no step"))
            rename_i FC NC
            refine' ksw_end (c' := (⟨_, _, n / 2, _⟩ : RunSt)) FC NC (fun p hp => hp) trivial ?q1 ?q2 ⟨by dsimp only; omega, ?q3⟩ (by dsimp only; omega)
            case q1 => kst_all
            case q2 =>
              intro z h1 _
              simp only [psRn, List.forall_mem_cons, List.not_mem_nil, false_implies, implies_true, and_true, ne_eq] at h1
              simp only [h1, if_false, Bool.false_eq_true, List.contains_nil]
            case q3 =>
              rw [if_neg h0] at hinv
              simp only [sumF] at hinv
              rw [← hinv]
              have hx : ∀ (k : Nat) (S : Int), k = n % 5 → tot2 + ns.getD k 0 + S = tot2 + (ns.getD (n % 5) 0 + S) := by rintro _ _ rfl; omega
              refine hx _ _ ?_
              first | (rw [hql]; omega) | (rw [hql, Int.fmod_eq_emod_of_nonneg _ (by omega)]; omega)
          · rename_i hbn
            exfalso
            have e : qs n = Str.ofString "" := by simpa using hbn
            rw [e, show (Str.ofString "").length = 0 from by decide +kernel] at hql
            omega
  case hd =>
    subst hrest hm₀
    rintro ⟨tot, tt⟩ u h tk gs ⟨hgs, htot⟩ hF hN
    dsimp only [ledS, psS, kstB] at htot hF hN
    clear FR NR rgX rgK
    (repeat' (first | (k_unfold; (try dsimp only)) | (k_end; wrow_close) | walk1 | (dsimp only; walk1) | (leave1; walk_say "STEP leave1"; try dsimp only) | fail "no step"))
    rename_i kF kN _ _
    have e : tot = sumF (fun n => ns.getD (n % 5) 0) (qsL q) := by rw [htot]; exact sumF_perm _ (ol_perm q hn)
    subst e
    exact hret _ _ _ _ hgs kF fun p hp => kN p (.tail _ (.tail _ (.tail _ (.tail _ hp))))
end
section
open PySem PySem.W PyProof.Rows PySem.Calls
set_option Elab.async false
set_option maxRecDepth 100000
set_option maxHeartbeats 8000000
set_option pp.maxSteps 300
theorem freshVar : True := by
  k_with_none
  w_top off
  trivial
set_option linter.unusedVariables false

abbrev itO (l : Addr) (i : Nat) : Obj := { cls := .type "list_iterator", data := .fields #[.ref l, .int (i : Int) 0] }
abbrev itE (i : Nat) : Obj := { cls := .type "list_iterator", data := .fields #[.none, .int (i : Int) 0] }
section
variable {prog : Program} {w : World} {A : Around} {E : Value → Shared → Prop} {s : Shared} {h₀ : Heap} {L it l : Addr} {m : Str → Option Value} {news : List (Addr × Obj)} {g : Obj → List (Addr × Obj)} {vs : List Value} {i k : Nat} {x : Value} {Q : Value → Shared → Prop}
theorem iter_list (F : Fr h₀ L s.heap m) (N : News h₀ L s.heap news) (hl : s.heap.IsList l vs.toArray)
    (h : ∀ (I : Addr) h', Fr h₀ L h' m → News h₀ L h' ((I, itO l 0) :: news) → (∀ p ∈ news, p.1 < I) → Q (.ref I) { s with heap := h' }) :
    wpAny (model prog w) A (call (.builtin "iter") [.ref l]) Q E s := by
  refine call_function_entry (by decide +kernel) (by decide +kernel) kdk_entry_iter (kdk_args_iter _) ?_
  unfold Builtin.«iter»
  refine wpAny_bind (m := someArgs "iter" 1 2 _) (wpAny_of_eq (a := [Value.ref l]) (by first | rfl | kernel_rfl!) ?_)
  show wpAny _ _ (pyIter (.ref l) >>= _) _ _ _
  refine wpAny_bind (wpAny_pyIter_list hl ?_)
  exact wpAny_pure ⟨_, rfl, h _ _ (F.push _) (News.push F N _ rfl) (fun q hq => Heap.lt_size (N q hq).1)⟩

theorem next_list (F : Fr h₀ L s.heap m) (N : News h₀ L s.heap news) (U : UpdF it (itO l i) news g) (hl : s.heap.IsList l vs.toArray) (hx : vs[i]? = some x)
    (h : ∀ h', Fr h₀ L h' m → News h₀ L h' (g (itO l (i + 1))) → Q x { s with heap := h' }) :
    wpAny (model prog w) A (call (.builtin "next") [.ref it]) Q E s := by
  obtain ⟨pre, post, hle, hg, a, b⟩ := U.split
  have hmem : (it, itO l i) ∈ news := by rw [hle]; exact List.mem_append_right _ (.head _)
  have hm := N _ hmem
  obtain ⟨ol, hol, _, nl, hdl⟩ := hl
  have hit : s.heap.IsListIter it l i := ⟨_, hm.1, rfl, rfl⟩
  refine call_function_entry (by decide +kernel) (by decide +kernel) kdk_entry_next (kdk_args_next _) ?_
  unfold Builtin.«next»
  refine wpAny_bind (m := someArgs "next" 1 2 _) (wpAny_of_eq (a := [Value.ref it]) (by first | rfl | kernel_rfl!) ?_)
  dsimp only
  refine wpAny_bind (wpAny_specialOf (name := Str.ofString "__next__") hit.typeIs slot_listiter_next.lookup ?_)
  refine wpAny_ite_split (fun hab => absurd hab (by decide)) (fun _ => ?_)
  refine wpAny_bind (wpAny_callSpecial?_slot (name := Str.ofString "__next__") hit.typeIs slot_listiter_next
    (wpAny_call_entry slot_listiter_next hit.typeIs entry_listiter_next ?_ (args_listiter_next _)))
  show wpAny _ _ (field (.ref it) 0 >>= _) _ _ s
  refine wpAny_bind (wpAny_field hm.1 rfl (x := .ref l) rfl ?_)
  show wpAny _ _ (if (Value.ref l == Value.none) = true then _ else _) _ _ s
  rw [if_neg (show ¬ ((Value.ref l == Value.none) = true) from Bool.false_ne_true)]
  show wpAny _ _ (field (.ref it) 1 >>= _) _ _ s
  refine wpAny_bind (wpAny_field hm.1 rfl (x := .int i 0) rfl ?_)
  show wpAny _ _ (seqItems? (.ref l) >>= _) _ _ s
  refine wpAny_bind (wpAny_seqItems hol hdl ?_)
  simp only [Int.toNat_natCast, List.getElem?_toArray, hx]
  refine wpAny_bind (wpAny_setField hm.1 rfl (by simp) (wpAny_pure ⟨x, rfl, wpAny_pure ⟨_, rfl, ?_⟩⟩))
  have ho' := Heap.get?_update_self (Obj.mapFields (·.setIfInBounds 1 (rawInt ((i : Int) + 1)))) hm.1 (Obj.isFreed_of_fields (Obj.data_mapFields rfl _))
  have hS : Heap.SameBut it s.heap (s.heap.update it (Obj.mapFields (·.setIfInBounds 1 (rawInt ((i : Int) + 1))))) := Heap.SameBut.update ..
  exact h _ (F.change hS hm.2.1 hm.2.2) (hg (itO l (i + 1)) ▸ (show News h₀ L s.heap (pre ++ (it, _) :: post) from hle ▸ N).setIn a b hS ho')

theorem next_list_end (hh : A.handled = none) (F : Fr h₀ L s.heap m) (N : News h₀ L s.heap news) (U : UpdF it (itO l i) news g) (hl : s.heap.IsList l vs.toArray) (hx : vs[i]? = none)
    (h : ∀ h₁, Fr h₀ L h₁ m → News h₀ L h₁ (g (itE i)) → ∀ h' e, Heap.MadeExc h₁ h' e "StopIteration" [] → E (.ref e) { s with heap := h' }) :
    wpAny (model prog w) A (call (.builtin "next") [.ref it]) Q E s := by
  obtain ⟨pre, post, hle, hg, a, b⟩ := U.split
  have hmem : (it, itO l i) ∈ news := by rw [hle]; exact List.mem_append_right _ (.head _)
  have hm := N _ hmem
  obtain ⟨ol, hol, _, nl, hdl⟩ := hl
  have hit : s.heap.IsListIter it l i := ⟨_, hm.1, rfl, rfl⟩
  refine call_function_entry (by decide +kernel) (by decide +kernel) kdk_entry_next (kdk_args_next _) ?_
  unfold Builtin.«next»
  refine wpAny_bind (m := someArgs "next" 1 2 _) (wpAny_of_eq (a := [Value.ref it]) (by first | rfl | kernel_rfl!) ?_)
  dsimp only
  refine wpAny_bind (wpAny_specialOf (name := Str.ofString "__next__") hit.typeIs slot_listiter_next.lookup ?_)
  refine wpAny_ite_split (fun hab => absurd hab (by decide)) (fun _ => ?_)
  refine wpAny_bind (wpAny_callSpecial?_slot (name := Str.ofString "__next__") hit.typeIs slot_listiter_next
    (wpAny_call_entry slot_listiter_next hit.typeIs entry_listiter_next ?_ (args_listiter_next _)))
  show wpAny _ _ (field (.ref it) 0 >>= _) _ _ s
  refine wpAny_bind (wpAny_field hm.1 rfl (x := .ref l) rfl ?_)
  show wpAny _ _ (if (Value.ref l == Value.none) = true then _ else _) _ _ s
  rw [if_neg (show ¬ ((Value.ref l == Value.none) = true) from Bool.false_ne_true)]
  show wpAny _ _ (field (.ref it) 1 >>= _) _ _ s
  refine wpAny_bind (wpAny_field hm.1 rfl (x := .int i 0) rfl ?_)
  show wpAny _ _ (seqItems? (.ref l) >>= _) _ _ s
  refine wpAny_bind (wpAny_seqItems hol hdl ?_)
  simp only [Int.toNat_natCast, List.getElem?_toArray, hx]
  refine wpAny_bind (wpAny_rule (wpAny_bind (wpAny_setField hm.1 rfl (by simp) ?_)))
  have ho' := Heap.get?_update_self (Obj.mapFields (·.setIfInBounds 0 Value.none)) hm.1 (Obj.isFreed_of_fields (Obj.data_mapFields rfl _))
  have hS : Heap.SameBut it s.heap (s.heap.update it (Obj.mapFields (·.setIfInBounds 0 Value.none))) := Heap.SameBut.update ..
  unfold Builtin.SmallTypes.stopIteration
  refine wpAny_bind ?_
  simp only [newExc, newTuple]
  refine wpAny_bind (wpAny_newObj_type ?_ (by size_fits))
  refine wpAny_bind (m := firstArgMember _ _) (wpAny_of_eq (a := Value.none) (by first | rfl | (simp only [firstArgMember]; rfl)) ?_)
  refine wpAny_newObj_type ?_ (by size_fits)
  refine wpAny_raiseNew_none hh (h _ (F.change hS hm.2.1 hm.2.2) (hg (itE i) ▸ (show News h₀ L s.heap (pre ++ (it, _) :: post) from hle ▸ N).setIn a b hS ho') _ _ ⟨fun b o hb => Heap.get?_push_of_some _ (Heap.get?_push_of_some _ hb), Heap.get?_none_of_le (by simp), _, ?_, Heap.get?_none_of_le (Nat.le_refl _), ?_⟩)
  · exact Heap.get?_push_size _ rfl
  · exact Heap.get?_push_of_some _ (Heap.get?_push_size _ rfl)
theorem and_is {a b y : Int} {t u : Tok} (e : Builtin.bitAnd a b = y) (h : Q (.int y s.toks) { s with toks := s.toks + 1 }) : wpAny (model prog w) A (binaryOp .BitAnd (.int a t) (.int b u)) Q E s := and_int (e ▸ h)
theorem ior_is {a b y : Int} {t u : Tok} (e : Builtin.bitOr a b = y) (h : Q (.int y s.toks) { s with toks := s.toks + 1 }) : wpAny (model prog w) A (inplaceOp .BitOr (.int a t) (.int b u)) Q E s := ior_int (e ▸ h)
end
theorem b1 : ∀ n : Nat, n < 64 → Builtin.bitAnd (64 + (n : Int)) 63 = n := by decide +kernel
theorem b2 : ∀ n : Nat, n < 64 → Builtin.bitAnd (64 + (n : Int)) 64 = 64 := by decide +kernel
theorem b3 : ∀ n : Nat, n < 64 → Builtin.bitAnd (n : Int) 63 = n := by decide +kernel
theorem b4 : ∀ n : Nat, n < 64 → Builtin.bitAnd (n : Int) 64 = 0 := by decide +kernel
theorem b5 : ∀ n : Nat, n < 64 → ∀ k : Nat, k < 64 → Builtin.bitOr ((n : Int) * 2 ^ 6) k = 64 * n + k := by decide +kernel
structure VarSt where
  ph : Bool
  tb : Tok
  tv : Tok
abbrev psV (a b : Nat) (c : VarSt) : List (Str × Value) := [(Str.ofString "b", .int (if c.ph then (b : Int) else 64 + (a : Int)) c.tb), (Str.ofString "val", .int (if c.ph then 64 * (a : Int) + b else a) c.tv)]
abbrev ledV (it ol : Addr) (os : List Value) (ok j : Nat) (news : List (Addr × Obj)) (c : VarSt) : List (Addr × Obj) := (it, itO ol (if c.ph then 2 * j + 2 else 2 * j + 1)) :: (ol, listOf os.toArray ok) :: news
theorem c_varint (w : World) (mean : ExcName → Option Value) (mg mb : Str → Option Value) (news : List (Addr × Obj)) (it ol : Addr) (os : List Value) (ok j : Nat) (a b : Nat) (ta tb : Tok) (ha : a < 64) (hb : b < 64) (hne : it ≠ ol) (hnn : ∀ p ∈ news, p.1 ≠ it)
    (hx0 : os[2 * j]? = some (.int (64 + (a : Int)) ta)) (hx1 : os[2 * j + 1]? = some (.int (b : Int) tb))
    (dp un : Nat) (gd : Option (List Code)) (cn : Str) (cs : Scope) (ac : Addr) (ccd : Value) (cl : List (Str × Addr)) (outer : List Env) (A₀ : Around) (base h₀ : Heap) (L : Addr) (m : Str → Option Value) (s : Shared) (Q E : Value → Shared → Prop) 
    (B : Below A₀ base outer h₀) (F : Fr h₀ L s.heap m) (X : (Mine.hd.heap_39 w.params).In h₀) (N : News h₀ L s.heap ((it, itO ol (2 * j)) :: (ol, listOf os.toArray ok) :: news)) (T : Top Mine.hd.view_39 LO mean mg mb h₀) (hk : cs.kind = .function)
    (hd : dp + 3 < recursionLimit) (hu : un + 12 < cLine)
    (hret : ∀ (t' : Tok) (h' : Heap) (tk' : Nat), Fr h₀ L h' m → News h₀ L h' ((it, itO ol (2 * j + 2)) :: (ol, listOf os.toArray ok) :: news) → Q (.int (64 * (a : Int) + b) t') { s with heap := h', toks := tk' }) :
      wpAny (model PR w) (ktrTop dp un gd cn cs L ac ccd cl outer) (call (.ref 94) [.ref it]) Q E s := by
  delta PR LO at *
  revert X; k_fill; intro X
  k_with "call builtin:next" => (k_dflt (refine' next_list ?F ?N ?U ?hl ?hx ?_; (case F => k_asm); (case N => k_asm); (case U => exact UpdF.head (fun p hp => by rcases List.mem_cons.mp hp with rfl | hp; (exact hne.symm); (exact hnn p hp))); (case hl => exact News.isList (by k_asm) (by k_mem)); (case hx => first | exact hx0 | exact hx1)); intro h' F' N'; (try dsimp only))
  k_with "binaryOp BitAnd int int" => (with_reducible first | refine and_is (b1 a ha) ?_ | refine and_is (b2 a ha) ?_ | refine and_is (b3 b hb) ?_ | refine and_is (b4 b hb) ?_)
  k_with "inplaceOp BitOr int int" => (refine ior_is (b5 a ha b hb) ?_)
  refine wpAny_call ?_
  k_dflt cell_enter
  rename_i g' L' hb0 FG' F1 N1 B' X' T'
  (repeat' ((fail_if_success (with_reducible show wpAny _ _ (exec (PySem.Stmt.While _ _ _ _) _) _ _ _)); first | (k_unfold; (try dsimp only)) | (k_end; wrow_close)  | walk1 | (dsimp only; walk1) | (leave1; walk_say "STEP leave1"; try dsimp only) | fail "no step"))
  rename_i h8 F8 N8
  obtain ⟨m8, hm8⟩ := fr_map F8
  refine' ksw_while (h₀ := g') (σ := VarSt) (ledV it ol os ok j news) (psV a b) (fun _ => True) [] (fun _ => True) (fun c => if c.ph then 0 else 1) (⟨false, _, _⟩ : VarSt) F8 N8 trivial ?w1 trivial ?w3
  case w1 => kst_all
  case w3 =>
    rintro ⟨ph, tb2, tv⟩ u8 h tk _ _ hF hN
    clear F8 N8
    cases ph with
    | false =>
      dsimp only [ledV, psV, kstB] at hF hN
      simp only [Bool.false_eq_true, if_false] at hF hN
      (repeat' (first | (k_unfold; (try dsimp only)) | (k_end; wrow_close) | walk1 | (dsimp only; walk1) | (leave1; walk_say "STEP leave1"; try dsimp only) | fail "no step"))
      rename_i F9 N9
      have e5 : Builtin.bitOr ((a : Int) * 2 ^ (6 : Int).toNat) (b : Int) = 64 * (a : Int) + b := b5 a ha b hb
      rw [e5] at F9
      refine' ksw_end (c' := (⟨true, _, _⟩ : VarSt)) F9 N9 (fun p hp => hp) trivial ?q1 ?q2 trivial Nat.zero_lt_one
      case q1 => simp only [psV, if_true]; kst_all
      case q2 =>
        intro z h1 _
        simp only [psV, List.forall_mem_cons, List.not_mem_nil, false_implies, implies_true, and_true, ne_eq] at h1
        simp only [h1, if_false, Bool.false_eq_true, List.contains_nil]
    | true =>
      dsimp only [ledV, psV, kstB] at hF hN
      simp only [if_true] at hF hN
      (repeat' (first | (k_unfold; (try dsimp only)) | (k_end; wrow_close) | walk1 | (dsimp only; walk1) | (leave1; walk_say "STEP leave1"; try dsimp only) | fail "no step"))
      rename_i kF kN _ _
      exact hret _ _ _ kF kN
end
section
open PySem PySem.W PyProof.Rows PySem.Calls PyProof
set_option Elab.async false
set_option maxRecDepth 100000
set_option maxHeartbeats 8000000
set_option pp.maxSteps 300
theorem freshRead : True := by
  k_with_none
  w_top off
  trivial
set_option linter.unusedVariables false

section
variable {prog : Program} {w : World} {A₀ A : Around} {s : Shared} {base h₀ : Heap} {outer : List Env} {L a : Addr} {m : Str → Option Value} {env : Env} {news : List (Addr × Obj)} {K : Frag} {p : Program} {loose : List Str} {mean : ExcName → Option Value} {mg mb : Str → Option Value}
    {R : Result → Shared → Prop} {name qual : Str} {params : Arguments} {body : List Stmt} {scope : Scope} {dV kV doc pm cdv ct oc : Value} {an od : Option Addr} {osl : Array (Option Value)} {f : Addr} {args : Args} {binds : List (Str × Value)}
theorem enterX (B : Below A₀ base outer h₀) (F : Fr h₀ L s.heap m) (N : News h₀ L s.heap news) (hA : A.frames = some (env :: outer)) (hf : env.frame = some L) (hck : env.scope.kind = .function) :
    ∃ oL es ep, (hideAll s.heap (news.map (·.1))).get? L = some oL ∧ oL.data = .dict es ep ∧ (∀ h', h'.get? L = some oL → Heap.Ns h' L m) ∧ (∀ (sl : Array (Option Value)) h', h'.get? L = some { oL with slots := sl } → Heap.Ns h' L m) ∧
      h₀.StaysIn (hideAll s.heap (news.map (·.1))) ∧ Below A base (env :: outer) (hideAll s.heap (news.map (·.1))) := by
  have nm : ∀ b o, h₀.get? b = some o → b ∉ news.map (·.1) := fun b o e q => by
    obtain ⟨p, hp, rfl⟩ := List.mem_map.mp q
    rw [(N p hp).2.2] at e; cases e
  have st : h₀.StaysIn (hideAll s.heap (news.map (·.1))) := fun b o e => hideAll_get _ (F.keep b o e) (nm b o e)
  obtain ⟨oL, es, ep, hL, hLd, hLk, hLf⟩ := F.ns
  have nL : L ∉ news.map (·.1) := fun q => by
    obtain ⟨p, hp, e⟩ := List.mem_map.mp q
    exact (N p hp).2.1 e
  have hLg := hideAll_get (news.map (·.1)) hL nL
  have B₁ := B.push (name := Str.ofString "") (scope := env.scope) (a := 0) (cd := .none) F hck
  have fr : s.heap.FunFrames base (env :: outer) := by
    obtain ⟨hk1, ⟨L1, o1, hf1, x1, x2, x3⟩, hr1⟩ := B₁.frames
    have e1 : L = L1 := Option.some.inj hf1
    exact ⟨hk1, ⟨L1, o1, hf.trans (congrArg some e1), x1, x2, x3⟩, hr1⟩
  exact ⟨oL, es, ep, hLg, hLd, fun h' e => ⟨oL, es, ep, e, hLd, hLk, hLf⟩, fun sl h' e => ⟨_, es, ep, e, hLd, hLk, hLf⟩, st, ⟨hA, fun b o e => st b o (B.stays b o e), funFrames_hideAll fr fun e' he b hb hf' => by
    cases he with
    | head => exact nL ((Option.some.inj (hf.symm.trans hf') : L = b) ▸ hb)
    | tail _ he =>
      obtain ⟨L₁, o₁, hf₁, ho₁⟩ := funFrames_in B.frames e' he
      rw [hf₁] at hf'
      exact nm L₁ o₁ ho₁ ((Option.some.inj hf' : L₁ = b) ▸ hb)⟩⟩
theorem defS0X (B : Below A₀ base [] h₀) (F : Fr h₀ L s.heap m) (X₀ : K.In h₀) (N : News h₀ L s.heap news) (T : Top p loose mean mg mb h₀) (hA : A.frames = some [env]) (hf : env.frame = some L) (hck : env.scope.kind = .function)
    (ho : K.lookup f = some ⟨oc, od, .func (fnOf name qual params body scope dV kV doc pm an cdv ct), osl⟩) (hcd : codeIn K cdv qual = true) (hroom : A.depth < recursionLimit)
    (hbind : BindsTo s (fnOf name qual params body scope dV kV doc pm an cdv ct) args binds) (hloc : ∀ y ∈ binds, scope.names.lookup y.1 = some .local)
    (h : ∀ g L' h₁, Fr h₀ L g m → Fr g L' h₁ (fun y => binds.reverse.lookup y) → News g L' h₁ news → Below A base [env] g → K.In g → Top p loose mean mg mb g → KtsDicts ([env].filterMap (·.frame)) g →
      wpAny (model prog w) (A.deeper (envOf qual scope L' f cdv)) (execs body (envOf qual scope L' f cdv))
        (fun fl s' => LeaveS0 ([env].filterMap (·.frame)) h₀ L m g R (match fl with | .ret v => v | _ => .none) s')
        (fun e s' => wpAny (model prog w) (A.deeper (envOf qual scope L' f cdv)) (leaving (envOf qual scope L' f cdv) e) (fun _ s'' => R (.error e) s'') (fun e' s'' => R (.error e') s'') s')
        { s with heap := h₁, toks := s.toks + binds.length })
    (hco : scope.isCoroutine = false) (hgen : scope.isGenerator = false) (hk : scope.kind = .function)
    (hcell : ∀ x ∈ scope.names, x.2 ≠ .cell) : codeAny (model prog w) A (.call (.ref f) args) R s := by
  have X := X₀.keeps F.keep
  have fm : [env].filterMap (·.frame) = [L] := by simp [hf]
  rw [fm] at h
  refine codeAny_call_def (fd := fnOf name qual params body scope dV kV doc pm an cdv ct) (body := body) (binds := binds) hroom (X _ _ ho) rfl (T.nolimit.keeps F.keep) (codeRec_of X hcd) rfl hbind hcell hloc (fun h₁ hns hk₁ => ?_) hco hgen hk
  obtain ⟨oL, es, ep, hLg, hLd, hN, hNs, st, B₂⟩ := enterX B F N hA hf hck
  refine wpAny_mono (h _ s.heap.objs.size h₁ ⟨hN _ hLg, st, F.above⟩ ⟨hns, fun b o e => hk₁ b o (of_hideAll _ e), Nat.le_of_eq (hideAll_size _ _)⟩
    (fun p hp => ⟨hk₁ _ _ (N p hp).1, Nat.ne_of_lt (Heap.lt_size (N p hp).1), hideAll_none _ (List.mem_map_of_mem hp)⟩) B₂ (X₀.keeps st) (T.keeps st) (fun b hb => by
      have := List.mem_singleton.mp hb
      subst this
      exact ⟨oL, es, ep, hLg, hLd⟩)) (fun fl s' hl => ?_) fun _ _ y => y
  obtain ⟨g', L', m', news', T', F', N', k⟩ := hl
  have nL₀ : h₀.get? L = none := kts_self F
  obtain ⟨sl, hs⟩ := T'.up hLg
  refine k ⟨hNs sl _ (F'.keep _ _ hs), fun b o e => F'.keep b o (T'.other b o (st b o e) (fun q => by
    have z := List.mem_singleton.mp q
    rw [z, nL₀] at e
    cases e)), F.above⟩ fun p hp => ⟨(N' p hp).1, fun q => ?_, ?_⟩
  · have := (N' p hp).2.2; rw [q, hs] at this; cases this
  · cases q : h₀.get? p.1 with
    | none => rfl
    | some o =>
      obtain ⟨sl', hs'⟩ := T'.up (st _ _ q)
      have := (N' p hp).2.2
      rw [hs'] at this
      cases this
end
theorem allLt_to {d : Addr} {l : List (Addr × Obj)} (h : AllLt d l) : ∀ p ∈ l, p.1 < d := by
  induction l with
  | nil => intro p hp; cases hp
  | cons q r ih =>
    intro p hp
    rcases List.mem_cons.mp hp with rfl | hp
    · exact h.1
    · exact ih h.2 p hp
structure RdSt where
  vs : List Value
  k : Nat
  j : Nat
abbrev ledRd (nl it ol : Addr) (os : List Value) (ok : Nat) (rest : List (Addr × Obj)) (c : RdSt) : List (Addr × Obj) := (nl, listOf c.vs.toArray c.k) :: (it, itO ol (2 * c.j)) :: (ol, listOf os.toArray ok) :: rest
abbrev psRd (_ : RdSt) : List (Str × Value) := []
structure RdP (an bn : Nat → Nat) (g0 : Array GenState) (i : Nat) (c : RdSt) (gs : Array GenState) : Prop where
  hg : gs = g0
  hj : c.j = i
  hi : i ≤ 6
  hv : IntsAre c.vs ((List.range i).map fun j => 64 * (an j : Int) + bn j)
theorem led_r3 {h₀ h : Heap} {L : Addr} {a b c d : Addr × Obj} {r : List (Addr × Obj)} (N : News h₀ L h (a :: b :: c :: d :: r)) : News h₀ L h (c :: d :: a :: b :: r) := by
  intro p hp
  refine N p ?_
  simp only [List.mem_cons] at hp ⊢
  rcases hp with h | h | h | h | h <;> simp [h]
theorem si_exc : isSubtype (.type "StopIteration") (.type "BaseException") = pure true := by rw [isSubtype_type]; kernel_rfl
theorem si_nt : isSubtype (.type ((Manifest.find? "StopIteration").elim "type" fun y => y.metatype)) (.type "tuple") = pure false := by
  rw [show ((Manifest.find? "StopIteration").elim "type" fun x => x.metatype) = "type" from by kernel_rfl, isSubtype_type]; kernel_rfl
theorem c_read (w : World) (mean : ExcName → Option Value) (mg mb : Str → Option Value) (news : List (Addr × Obj)) (ol : Addr) (os : List Value) (ok : Nat) (an bn : Nat → Nat) (hab : ∀ j, j < 6 → an j < 64 ∧ bn j < 64)
    (hO : ∀ j, j < 6 → ∃ t u, os[2 * j]? = some (.int (64 + (an j : Int)) t) ∧ os[2 * j + 1]? = some (.int (bn j : Int) u)) (hlen : os.length = 12)
    (dp un : Nat) (gd : Option (List Code)) (cn : Str) (cs : Scope) (ac : Addr) (ccd : Value) (cl : List (Str × Addr)) (A₀ : Around) (h₀ : Heap) (L : Addr) (m : Str → Option Value) (s : Shared) (Q E : Value → Shared → Prop) 
    (B : Below A₀ h₀ [] h₀) (F : Fr h₀ L s.heap m) (X : (Mine.hd.heap_39 w.params).In h₀) (N : News h₀ L s.heap ((ol, listOf os.toArray ok) :: news)) (T : Top Mine.hd.view_39 LO mean mg mb h₀) (hk : cs.kind = .function)
    (hd : dp + 5 < recursionLimit) (hu : un + 30 < cLine)
    (hret : ∀ (nl : Addr) (vs : List Value) (k : Nat) (h' : Heap) (tk' : Nat), IntsAre vs ((List.range 6).map fun j => 64 * (an j : Int) + bn j) → Fr h₀ L h' m → News h₀ L h' ((nl, listOf vs.toArray k) :: (ol, listOf os.toArray ok) :: news) → (∀ p ∈ (ol, listOf os.toArray ok) :: news, p.1 < nl) → Q (.ref nl) { s with heap := h', toks := tk' }) :
      wpAny (model PR w) (ktrTop dp un gd cn cs L ac ccd cl []) (call (.ref 147) [.ref ol]) Q E s := by
  delta PR LO at *
  revert X; k_fill; intro X
  k_with "call builtin:iter" => (k_dflt (refine' iter_list ?F ?N ?hl ?_; (case F => k_asm); (case N => k_asm); (case hl => exact News.isList (by k_asm) (by k_mem)); intro I' h' F' N' l1))
  k_with "call builtin:len" => (k_dflt (refine' PyProof.Rows.len_list ?b1 ?b2 ?_; (case b1 => exact News.isList (by k_asm) (by k_mem)); (case b2 => rw [List.size_toArray]; omega); k_whole))
  refine wpAny_call ?_
  k_dflt (refine' defS0X ?k1 ?k2 ?k3 ?k4 ?k5 ?kA ?kF ?cK ?k6 ?k7 ?k8 ?k9 ?kB ?_ ?c2 ?c3 ?c4 ?c5; (case kA => exact rfl); (case kF => exact rfl); (case k2 => k_asm); (case k1 => k_asm); (case k3 => k_asm); (case k4 => k_asm); (case k5 => k_asm); (case k6 => k_is); (case k7 => k_is); (case k8 => ktr_room); (case k9 => exact BindsTo.of_eq rfl); (case kB => exact locs rfl); (case cK => assumption); (case c2 => exact rfl); (case c3 => exact rfl); (case c4 => exact rfl); (case c5 => decide); k_whole; intro g' L' h' FG' F' N' B' X' T' D'; (try dsimp only); (try k_lift B'); (try k_fold))
  (repeat' ((fail_if_success (with_reducible show wpAny _ _ (exec (PySem.Stmt.For _ _ _ _ _) _) _ _ _)); first | (k_unfold; (try dsimp only)) | (k_end; wrow_close)  | walk1 | (dsimp only; walk1) | (leave1; walk_say "STEP leave1"; try dsimp only) | fail "no step"))
  rename_i _ _ nl _ lN _ F' N'
  have hIol : @LT.lt Nat _ ol I' := l1 _ (.head _)
  obtain ⟨m₀, hm₀⟩ := fr_map F'
  refine For_G (h₀ := g') (σ := RdSt) (Led := ledRd nl I' ol os ok news) (ps := psRd) (stored := []) (P := RdP an bn s.gens) (m₀ := m₀) rfl rfl ?_
  (repeat' ((fail_if_success (with_reducible show wpAny _ _ (pyIter (Value.ref _)) _ _ _)); first | (k_unfold; (try dsimp only)) | walk1 | (dsimp only; walk1)))
  rename_i rgX FR NR rgK
  rw [show (os.toArray.size : Int) = 12 by rw [List.size_toArray, hlen]; rfl] at rgX
  refine' iter_rangeG (n := 13) (Led := ledRd nl I' ol os ok news) (ps := psRd) (P := RdP an bn s.gens) (c₀ := (⟨[], 0, 0⟩ : RdSt)) ?hh rgX ?hsm ?hsz ?hF ?hN ?hk ?hp ?ht ?hd
  case hh => rfl
  case hsm => decide +kernel
  case hsz => decide +kernel
  case hF => subst hm₀; exact FR
  case hN => exact NR
  case hk => subst hm₀; kst_all
  case hp => exact ⟨rfl, rfl, by omega, .nil⟩
  case ht =>
    subst hm₀
    rintro i ⟨vs, k0, j⟩ k t u h tk gs I o hi hk ⟨hgs, hj, hi6, hv⟩ hF hN hne
    dsimp only [ledRd, psRd, kstB] at hj hv hF hN hne
    subst hgs hj
    clear FR NR rgX rgK
    have hvl : vs.length = j := by rw [hv.length]; simp
    have h1 : @Ne Nat nl I := fun e => hne _ (.head _) e
    have h2 : @Ne Nat I' I := fun e => hne _ (.tail _ (.head _)) e
    have h3 : @Ne Nat ol I := fun e => hne _ (.tail _ (.tail _ (.head _))) e
    by_cases h6 : j < 6
    · (repeat' ((fail_if_success (with_reducible show wpAny _ _ (call (Value.ref _) _) _ _ _)); first | (k_unfold; (try dsimp only)) | (k_end; wrow_close)  | walk1 | (dsimp only; walk1) | (leave1; walk_say "STEP leave1"; try dsimp only) | fail "no step"))
      obtain ⟨t1, u1, ho1, ho2⟩ := hO j h6
      have N4 := led_r3 hN
      k_dflt (refine' c_varint w mean mg mb _ I' ol os ok j (an j) (bn j) t1 u1 (hab j h6).1 (hab j h6).2 (Nat.ne_of_gt hIol) ?hnn ho1 ho2 _ _ _ _ _ _ _ _ _ _ _ _ _ _ _ _ _ ?v1 ?v2 ?v3 ?v4 ?v5 ?vK ?vd ?vu ?vR)
      case v1 => k_asm
      case v2 => k_asm
      case v3 => k_asm
      case v4 => exact N4
      case v5 => k_asm
      case vK => rfl
      case vd => ktr_room
      case vu => ktr_units
      case hnn =>
        intro p hp
        rcases List.mem_cons.mp hp with rfl | hp
        · exact fun e => h2 e.symm
        rcases List.mem_cons.mp hp with rfl | hp
        · exact Nat.ne_of_gt lN.1
        · exact Nat.ne_of_lt (l1 p (.tail _ hp))
      intro t9 h9 tk9 F9 N9
      have N5 := led_r3 N9
      clear N9 N4 hF hN
      try dsimp only
      (repeat' (first | (k_unfold; (try dsimp only)) | (k_end; wrow_close)  | walk1 | (dsimp only; walk1) | (leave1; walk_say "STEP leave1"; try dsimp only) | fail "no step"))
      rename_i F7 N7
      rw [List.push_toArray] at N7
      refine' JEnd.intro (c' := (⟨vs ++ [.int (64 * (an j : Int) + (bn j : Int)) t9], k0 + 1, j + 1⟩ : RdSt)) F7 N7 (.head _) ?l1 ?k1 ?k2 ⟨rfl, rfl, by omega, ?k3⟩
      case l1 =>
        intro p hp
        refine ⟨.tail _ hp, ?_⟩
        rcases List.mem_cons.mp hp with rfl | hp
        · exact h1
        rcases List.mem_cons.mp hp with rfl | hp
        · exact h2
        · exact hne p (.tail _ (.tail _ hp))
      case k1 => kst_all
      case k2 =>
        intro z h1 h2 _
        simp [h1]
      case k3 =>
        dsimp only
        rw [List.range_succ, List.map_append]
        exact hv.append (.cons _ _ .nil)
    · have h66 : j = 6 := by omega
      subst h66
      k_with "call builtin:next" => (k_dflt (refine' next_list_end ?hh ?F ?N ?U ?hl ?hx ?_; (case hh => rfl); (case F => k_asm); (case N => k_asm); (case U => exact UpdF.tail (fun e => h2 e.symm) (UpdF.tail (Nat.ne_of_gt lN.1) (UpdF.head fun p hp => Nat.ne_of_lt (l1 p hp)))); (case hl => exact News.isList (by k_asm) (by k_mem)); (case hx => exact List.getElem?_eq_none (by omega))); intro h1' F' N'; (try dsimp only))
      (repeat' (first | (k_unfold; (try dsimp only)) | (k_end; wrow_close)  | walk1 | (dsimp only; walk1) | (leave1; walk_say "STEP leave1"; try dsimp only) | fail "no step"))
      dsimp only [JPost]
      (repeat' (first | (k_unfold; (try dsimp only)) | (k_end; wrow_close)  | walk1 | (dsimp only; walk1) | (leave1; walk_say "STEP leave1"; try dsimp only) | fail "no step"))
      rename_i kF kN _ _
      refine hret nl vs k0 _ _ hv kF (fun p hp => kN p ?_) fun p hp => ?_
      rotate_left
      · rcases List.mem_cons.mp hp with rfl | hp
        · exact lN.2.1
        · exact allLt_to lN.2.2 p hp
      rcases List.mem_cons.mp hp with rfl | hp
      · exact .tail _ (.head _)
      · exact .tail _ (.tail _ (.tail _ hp))
  case hd =>
    subst hm₀
    rintro ⟨vs, k0, j⟩ u h tk gs ⟨hgs, hj, hi6, hv⟩ hF hN
    omega
end
end Mine
end
section
open PySem PySem.W PyProof.Rows PySem.Calls PyProof
set_option Elab.async false
set_option maxRecDepth 100000
set_option maxHeartbeats 8000000
namespace Mine
section
variable {prog : Program} {w : World} {A : Around} {E : Value → Shared → Prop} {env : Env} {h₀ : Heap} {x : Str} {body : List Stmt} {Q : Flow → Shared → Prop}
/-- as LoopG, but the target's store is left to the turn (a letter that is a cell) -/
inductive LoopC {σ : Type} (prog : Program) (w : World) (A : Around) (h₀ : Heap) (env : Env) (x : Str) (px : Pos) (body : List Stmt) (Led : σ → List (Addr × Obj)) (ps : σ → List (Str × Value)) (stored : List Str) (P : Nat → σ → Array GenState → Prop) (m₀ : Str → Option Value) (Q : Flow → Shared → Prop) (E : Value → Shared → Prop) (it : Value) (s : Shared) : Prop
  | mk (I : Addr) (fp wr : List Addr) (n : Nat) (Pv : Nat → Value → Prop) (St : Nat → Heap → Prop) (c₀ : σ)
    (hit : it = .ref I) (W : Walks prog w A I fp wr n Pv St) (hIf : I ∈ fp) (hI0 : h₀.get? I = none) (hLf : env.locals ∉ fp)
    (hfp : ∀ b ∈ fp, b = I ∨ (∃ q, h₀.get? b = some q) ∨ (∃ o, ∀ c, (b, o) ∈ Led c)) (hwr : ∀ b ∈ wr, b = I) (hob : ∀ i h, St i h → ∃ o, h.get? I = some o)
    (hst : St 0 s.heap) (F : Fr h₀ env.locals s.heap m₀) (N : News h₀ env.locals s.heap (Led c₀)) (hnI : ∀ p ∈ Led c₀, p.1 ≠ I) (hps : ∀ p ∈ ps c₀, m₀ p.1 = some p.2) (hP : P 0 c₀ s.gens)
    (turn : ∀ i c v (u : Str → Option Value) h tk gs o, i < n → Pv i v → P i c gs → Fr h₀ env.locals h (fun y => if y = x then u y else kstB (fun z => if stored.contains z then u z else m₀ z) (ps c) y) →
      News h₀ env.locals h ((I, o) :: Led c) → (∀ p ∈ Led c, p.1 ≠ I) →
      wpAny (model prog w) A (assign (.Name x px) env v) (fun _ s₂ => wpAny (model prog w) A (execs body env) (JPost h₀ env.locals s x Led ps stored m₀ (P (i + 1)) I o Q) E s₂) E { s with heap := h, toks := tk, gens := gs })
    (done : ∀ c (u : Str → Option Value) h tk gs, P n c gs → Fr h₀ env.locals h (fun y => if y = x then u y else kstB (fun z => if stored.contains z then u z else m₀ z) (ps c) y) → News h₀ env.locals h (Led c) →
      Q .next { s with heap := h, toks := tk, gens := gs }) : LoopC prog w A h₀ env x px body Led ps stored P m₀ Q E it s

theorem codeAny_forC {R : Result → Shared → Prop} {σ : Type} {Led : σ → List (Addr × Obj)} {ps : σ → List (Str × Value)} {stored : List Str} {P : Nat → σ → Array GenState → Prop} {m₀ : Str → Option Value} {s : Shared} {px : Pos} {it : Value}
    (H : LoopC prog w A h₀ env x px body Led ps stored P m₀ (fun f s' => R (.ok f) s') (notedBy (model prog w) A env fun e s' => R (.error e) s') it s) :
    codeAny (model prog w) A (.forLoop (.Name x px) it body [] env) R s := by
  obtain ⟨I, fp, wr, n, Pv, St, c₀, rfl, W, hIf, hI0, hLf, hfp, hwr, hob, hst, F, N, hnI, hps, hP, turn, done⟩ := H
  have hLI : env.locals ≠ I := fun e => hLf (e ▸ hIf)
  have old : ∀ b o, h₀.get? b = some o → b ∉ wr := fun b o e hb => by rw [hwr b hb, hI0] at e; cases e
  refine codeAny_forLoop
    (LInv h₀ env.locals I s x Led ps stored m₀ P St n) ?_ (n + 1)
    ⟨s.heap, s.toks, s.gens, m₀, c₀, 0, rfl, hst, F, N, hnI, hps, fun _ _ _ _ => rfl, hP, Nat.zero_le _, rfl⟩
  rintro k s' ⟨h', tk, gs, m', c, i, rfl, hst', F', N', hnI', hps', hr', hP', hi, rfl⟩
  have next : ∀ h₁ : Heap, (∀ b o, b ∉ wr → h'.get? b = some o → h₁.get? b = some o) → Fr h₀ env.locals h₁ m' ∧ News h₀ env.locals h₁ (Led c) := fun h₁ hk₁ =>
    ⟨⟨F'.ns.at' fun o e => hk₁ _ o (fun hb => hLI (hwr _ hb)) e, fun b o e => hk₁ b o (old b o e) (F'.keep b o e), F'.above⟩, fun p hp => ⟨hk₁ _ _ (fun hb => hnI' p hp (hwr _ hb)) (N' p hp).1, (N' p hp).2⟩⟩
  by_cases hlt : i < n
  · refine W.item i _ _ _ hlt hst' fun v h₂ tk₁ hPv hst₂ hk₁ => ?_
    obtain ⟨F₂, N₁⟩ := next h₂ hk₁
    obtain ⟨o, ho⟩ := hob _ _ hst₂
    have N₂ : News h₀ env.locals h₂ ((I, o) :: Led c) := by
      intro p hp
      rcases List.mem_cons.mp hp with rfl | hp
      · exact ⟨ho, Ne.symm hLI, hI0⟩
      · exact N₁ p hp
    refine wpAny_mono (turn i c v m' h₂ _ gs o hlt hPv hP' (kst_frOut hps' hr' F₂) N₂ hnI') (fun _ s₂ h₂' => wpAny_mono h₂' (fun f s₃ h₃ => ?_) fun _ _ e => e) fun _ _ e => e
    have fin : JEnd h₀ env.locals s x Led ps stored m₀ (P (i + 1)) I o s₃ → ∃ k, k < n + 1 - i ∧ LInv h₀ env.locals I s x Led ps stored m₀ P St n k s₃ := by
      rintro ⟨c', h₃', tk₃, gs₃, m₃, news₃, rfl, F₃, N₃, hI₃, hn₃, hk₃, hr₃, hP₃⟩
      refine ⟨n + 1 - (i + 1), by omega, h₃', tk₃, gs₃, m₃, c', i + 1, rfl, ?_, F₃, fun p hp => N₃ p (hn₃ p hp).1, fun p hp => (hn₃ p hp).2, hk₃, hr₃, hP₃, hlt, rfl⟩
      refine W.frame _ _ _ hst₂ fun b hb ob e => ?_
      rcases hfp b hb with rfl | ⟨q, hq⟩ | ⟨o', ho'⟩
      · rw [ho] at e; cases e
        exact (N₃ _ hI₃).1
      · have : q = ob := by have := F₂.keep b q hq; rw [e] at this; exact (Option.some.inj this).symm
        exact this ▸ F₃.keep b q hq
      · have h1 := (N₂ _ (List.mem_cons_of_mem _ (ho' c))).1
        rw [e] at h1; cases h1
        exact (N₃ _ (hn₃ _ (ho' c')).1).1
    cases f with
    | ret v => exact h₃
    | brk => exact h₃
    | cont => exact fin h₃
    | next => exact fin h₃
  · have hin : i = n := by omega
    subst hin
    refine W.done _ _ _ hst' fun h₁ tk₁ hk₁ => wpAny_execs_nil ?_
    obtain ⟨F₁, N₁⟩ := next h₁ hk₁
    exact done c m' h₁ tk₁ gs hP' (kst_frOut hps' hr' F₁) N₁

theorem For_C {s : Shared} {σ : Type} {Led : σ → List (Addr × Obj)} {ps : σ → List (Str × Value)} {stored : List Str} {P : Nat → σ → Array GenState → Prop} {m₀ : Str → Option Value} {px pos : Pos} {iter : Expr}
    (h : wpAny (model prog w) A (eval iter env) (fun xv s₁ => wpAny (model prog w) A (pyIter xv) (fun it s₂ => LoopC prog w A h₀ env x px body Led ps stored P m₀ Q E it s₂) E s₁) E s)
    (hs : ∀ x, foldedSetIterable iter env x = pure x := by intro _; rfl)
    (hE : PassesOwn (model prog w) A env E := by passes_own) :
    wpAny (model prog w) A (exec (.For (.Name x px) iter body [] pos) env) Q E s := by
  refine wpAny_For (wpAny_mono h (fun xv s₁ h₁ => wpAny_mono h₁ (fun it s₂ h₂ => ?_) fun _ _ e => e) fun _ _ e => e) hs
  obtain ⟨I, fp, wr, n, Pv, St, c₀, rfl, W, hIf, hI0, hLf, hfp, hwr, hob, hst, F, N, hnI, hps, hP, turn, done⟩ := h₂
  exact codeAny_forC (R := fun r s' => match r with | .ok f => Q f s' | .error e => cameBackBy (model prog w) A env E e s')
    ⟨I, fp, wr, n, Pv, St, c₀, rfl, W, hIf, hI0, hLf, hfp, hwr, hob, hst, F, N, hnI, hps, hP, (by intros; exact wpAny_passesOwn hE (wpAny_mono (by apply turn <;> assumption) (fun _ _ z => wpAny_passesOwn hE z) fun _ _ z => z)), done⟩

theorem iter_rangeC {s : Shared} {σ : Type} {px : Pos} {r : Addr} {a₀ b₀ : Int} {t₀ u₀ v₀ : Tok} {n : Nat} {Led : σ → List (Addr × Obj)} {ps : σ → List (Str × Value)} {stored : List Str} {P : Nat → σ → Array GenState → Prop} {m₀ : Str → Option Value} (c₀ : σ)
    (hh : A.handled = none) (hr : IsRange s.heap r a₀ b₀ 1 t₀ u₀ v₀) (hsmall : Builtin.Range.small a₀ b₀ 1 = true) (hn : Builtin.Range.rangeSize a₀ b₀ 1 = (n : Int))
    (F : Fr h₀ env.locals s.heap m₀) (N : News h₀ env.locals s.heap (Led c₀)) (hk : ∀ p ∈ ps c₀, m₀ p.1 = some p.2) (hp : P 0 c₀ s.gens)
    (turn : ∀ (i : Nat) c (k : Int) t (u : Str → Option Value) h tk gs I o, i < n → k = a₀ + i → P i c gs → Fr h₀ env.locals h (fun y => if y = x then u y else kstB (fun z => if stored.contains z then u z else m₀ z) (ps c) y) →
      News h₀ env.locals h ((I, o) :: Led c) → (∀ p ∈ Led c, p.1 ≠ I) →
      wpAny (model prog w) A (assign (.Name x px) env (.int k t)) (fun _ s₂ => wpAny (model prog w) A (execs body env) (JPost h₀ env.locals s x Led ps stored m₀ (P (i + 1)) I o Q) E s₂) E { s with heap := h, toks := tk, gens := gs })
    (done : ∀ c (u : Str → Option Value) h tk gs, P n c gs → Fr h₀ env.locals h (fun y => if y = x then u y else kstB (fun z => if stored.contains z then u z else m₀ z) (ps c) y) → News h₀ env.locals h (Led c) →
      Q .next { s with heap := h, toks := tk, gens := gs }) :
    wpAny (model prog w) A (pyIter (.ref r)) (fun it s₂ => LoopC prog w A h₀ env x px body Led ps stored P m₀ Q E it s₂) E s := by
  refine wpAny_pyIter_range hr hsmall ?_
  have W : Walks prog w A s.heap.objs.size [s.heap.objs.size] [s.heap.objs.size] n (fun i v => i < n ∧ ∃ t, v = .int (a₀ + i * 1) t)
      (fun i h => IsRangeIter h s.heap.objs.size (a₀ + (i : Nat) * 1) ((n : Int) - (i : Nat)) 1) := (Walks.range hh _ a₀ 1 n).bound
  refine ⟨_, _, _, n, _, _, c₀, rfl, W, by simp, next_is_new F, ?_, ?_, ?_, ?_, (by show IsRangeIter _ _ _ _ _; rw [hn]; simpa using Heap.get?_push_size _ rfl), F.push _, fun p hp => ⟨Heap.get?_push_of_some _ (N p hp).1, (N p hp).2⟩, ?_, hk, hp, ?_, ?_⟩
  · intro hm
    exact absurd F.ns.lt ((List.mem_singleton.mp hm) ▸ Nat.lt_irrefl _)
  · intro b hb
    exact .inl (List.mem_singleton.mp hb)
  · intro b hb
    exact List.mem_singleton.mp hb
  · intro i h st
    exact ⟨_, st⟩
  · intro p hp e
    exact absurd (Heap.lt_size (N p hp).1) (e ▸ Nat.lt_irrefl _)
  · rintro i c v u h tk gs o' hi ⟨_, t, rfl⟩ hP F₁ N₁ hne
    exact turn i c _ t u h tk gs _ o' hi (by omega) hP F₁ N₁ hne
  · intro c u h tk gs hP F₁ N₁
    exact done c u h tk gs hP F₁ N₁
end
section
variable {prog : Program} {w : World} {A : Around} {E : Value → Shared → Prop} {env : Env} {h₀ : Heap} {x : Str} {body : List Stmt} {Q : Flow → Shared → Prop}
def LoopE (prog : Program) (w : World) (A : Around) (h₀ : Heap) (env : Env) (x : Str) (body : List Stmt) (Q : Flow → Shared → Prop) (E : Value → Shared → Prop) (it : Value) (s₂ : Shared) : Prop :=
  ∃ (s : Shared) (σ : Type) (Led : σ → List (Addr × Obj)) (ps : σ → List (Str × Value)) (stored : List Str) (P : Nat → σ → Array GenState → Prop) (m₀ : Str → Option Value), s₂ = { s with heap := s₂.heap, toks := s₂.toks, gens := s₂.gens } ∧ LoopG prog w A h₀ env x body Led ps stored P m₀ Q E it s₂
theorem For_E {s : Shared} {px pos : Pos} {iter : Expr}
    (hx : env.kindOf x = some .local) (hp : (env.scope.kind == .class || (env.scope.kind == .module && env.locals != env.globals)) = false)
    (h : wpAny (model prog w) A (eval iter env) (fun xv s₁ => wpAny (model prog w) A (pyIter xv) (fun it s₂ => LoopE prog w A h₀ env x body Q E it s₂) E s₁) E s)
    (hs : ∀ x, foldedSetIterable iter env x = pure x := by intro _; rfl)
    (hE : PassesOwn (model prog w) A env E := by passes_own) :
    wpAny (model prog w) A (exec (.For (.Name x px) iter body [] pos) env) Q E s := by
  refine wpAny_For (wpAny_mono h (fun xv s₁ h₁ => wpAny_mono h₁ (fun it s₂ h₂ => ?_) fun _ _ e => e) fun _ _ e => e) hs
  obtain ⟨_, σ, Led, ps, stored, P, m₀, _, I, fp, wr, n, Pv, St, c₀, rfl, W, hIf, hI0, hLf, hfp, hwr, hob, hst, F, N, hnI, hps, hP, turn, done⟩ := h₂
  exact codeAny_forG (R := fun r s' => match r with | .ok f => Q f s' | .error e => cameBackBy (model prog w) A env E e s') hx hp
    ⟨I, fp, wr, n, Pv, St, c₀, rfl, W, hIf, hI0, hLf, hfp, hwr, hob, hst, F, N, hnI, hps, hP, (by intros; exact wpAny_passesOwn hE (by apply turn <;> assumption)), done⟩
theorem loopE {xv : Value} {s : Shared} {σ : Type} {Led : σ → List (Addr × Obj)} {ps : σ → List (Str × Value)} {stored : List Str} {P : Nat → σ → Array GenState → Prop} {m₀ : Str → Option Value}
    (h : wpAny (model prog w) A (pyIter xv) (fun it s₂ => LoopG prog w A h₀ env x body Led ps stored P m₀ Q E it s₂) E s) : wpAny (model prog w) A (pyIter xv) (fun it s₂ => LoopE prog w A h₀ env x body Q E it s₂) E s :=
  wpAny_mono h (fun _ s₂ h₂ => ⟨s₂, σ, Led, ps, stored, P, m₀, rfl, h₂⟩) fun _ _ e => e
end
theorem slice_ints {prog : Program} {w : World} {A : Around} {E : Value → Shared → Prop} {s : Shared} {value slice : PySem.Expr} {h₀ : Heap} {L : Addr} {m : Str → Option Value} {news : List (Addr × Obj)} {Q : Value → Shared → Prop} {l : Addr} {vs : List Value} {ns : List Int} {j : Int} {uj : Tok}
    (F : Fr h₀ L s.heap m) (N : News h₀ L s.heap news) (hl : s.heap.IsList l vs.toArray) (hi : IntsAre vs ns) (hz : vs.length ≤ 1000)
    (h : ∀ D h' ws, IntsAre ws (pickNums ns (some j) none none) → Fr h₀ L h' m → News h₀ L h' ((D, listOf ws.toArray 0) :: news) → (∀ p ∈ news, p.1 < D) → Q (.ref D) { s with heap := h' })
    (hs : subscripted slice false (.ref l) (.ref s.heap.objs.size) = operate [.ref s.heap.objs.size, .ref l] (getItem (.ref l) (.ref s.heap.objs.size)) := by with_unfolding_all rfl) :
    wpAny (model prog w) A (subscriptTail value slice (.ref l) (.ref s.heap.objs.size)) Q E { s with heap := s.heap.push { cls := .type "slice", data := .fields #[.int j uj, .none, .none] } } := by
  refine kba_turn (value' := PySem.Expr.Name (PySem.Str.ofString "_") ⟨0, 0, 0, 0⟩) (fun _ => rfl) ?_
  refine kmk_slice (lo := some j) (hi := none) F N hl (by constructor) (by constructor) (fun D h' F' N' l1 => ?_) hs (fun _ => rfl) (by rw [List.size_toArray]; exact Nat.le_trans hz (by rw [sizeLine_eq]; decide))
  refine h D h' (slicePick vs.toArray (some j) none none).toList (IntsAre.pick hi _ _ _) F' ?_ l1
  rw [Array.toArray_toList]
  exact N'
end Mine
end
section
open PySem PySem.W PyProof.Rows PySem.Calls PyProof
open PyProof.V (keyEnc_int)
set_option Elab.async false
set_option maxRecDepth 100000
set_option maxHeartbeats 8000000
namespace Mine
def SS (rs : List Int) (k : Nat) : Int := sumF (fun n => rs.getD (n % 5) 0) (qsL k)
def sgG (s : List Int) (p : Int) (l : List Int) (k : Int) : List Int := if Int.fmod p k = 0 then l ++ [s.getD k.toNat 0] else l
def sgL : Nat → List Int
  | 0 => [0, 1]
  | i + 1 => sgL i ++ [-((rangeKs 1 (i + 1)).foldl (sgG (sgL i) ((i : Int) + 2)) []).sum]
def mobT : List Int := [0, 1, -1, -1, 0, -1, 1, -1, 0, 0, 1, -1, 0, -1, 1, 1, 0, -1, 0, -1, 0]
theorem mob_step : ∀ i : Nat, i < 19 → mobT.take (i + 2) ++ [-((rangeKs 1 (i + 1)).foldl (sgG (mobT.take (i + 2)) ((i : Int) + 2)) []).sum] = mobT.take (i + 3) := by decide +kernel
theorem sgL_eq : ∀ i : Nat, i ≤ 19 → sgL i = mobT.take (i + 2) := by
  intro i
  induction i with
  | zero => intro _; rfl
  | succ i ih =>
    intro h
    rw [sgL, ih (by omega)]
    exact mob_step i (by omega)
theorem mob_bd : ∀ j : Nat, -1 ≤ mobT.getD j 0 ∧ mobT.getD j 0 ≤ 1 := by
  intro j
  by_cases h : j < 21
  · revert j; decide +kernel
  · have : mobT.getD j 0 = 0 := by
      rw [List.getD_eq_getElem?_getD, List.getElem?_eq_none (show mobT.length ≤ j by show 21 ≤ j; omega)]; rfl
    omega
theorem take_getD (l : List Int) (n j : Nat) (h : j < n) : (l.take n).getD j 0 = l.getD j 0 := by
  simp [List.getD_eq_getElem?_getD, h]
def posP (q : Nat) (ps : List Nat) : List Nat := ps.flatMap fun p => if mobT.getD p 0 = 1 then qsL (q / p) else []
def negP (q : Nat) (ps : List Nat) : List Nat := ps.flatMap fun p => if mobT.getD p 0 = -1 then qsL (q / p) else []
theorem pn_perm : ∀ q : Nat, q ≤ 20 → 1 ≤ q → (posP q ((List.range q).map (· + 1))).Perm (q :: negP q ((List.range q).map (· + 1))) := by decide +kernel
theorem pn_sum (F : Nat → Int) (q : Nat) : ∀ ps : List Nat, (ps.map fun p => mobT.getD p 0 * sumF F (qsL (q / p))).sum = sumF F (posP q ps) - sumF F (negP q ps) := by
  intro ps
  induction ps with
  | nil => rfl
  | cons p r ih =>
    have hb := mob_bd p
    rw [List.map_cons, List.sum_cons, ih]
    simp only [posP, negP, List.flatMap_cons, sumF_append]
    have h3 : mobT.getD p 0 = -1 ∨ mobT.getD p 0 = 0 ∨ mobT.getD p 0 = 1 := by omega
    rcases h3 with h | h | h <;> rw [h] <;> simp [sumF] <;> omega
theorem ss_law (q : Nat) (h1 : 1 ≤ q) (h2 : q ≤ 20) (rs : List Int) : ((rangeKs 1 q).map (fun k => mobT.getD k.toNat 0 * SS rs (q / k.toNat))).sum = rs.getD (q % 5) 0 := by
  have e : (rangeKs 1 q).map (fun k => mobT.getD k.toNat 0 * SS rs (q / k.toNat)) = ((List.range q).map (· + 1)).map (fun p => mobT.getD p 0 * sumF (fun n => rs.getD (n % 5) 0) (qsL (q / p))) := by
    rw [rangeKs, List.map_map, List.map_map]
    refine List.map_congr_left fun j _ => ?_
    have : ((1 : Int) + (j : Int)).toNat = j + 1 := by omega
    simp only [Function.comp, this, SS]
  rw [e, pn_sum, sumF_perm _ (pn_perm q h2 h1)]
  simp only [sumF]
  omega

theorem sgL_len (i : Nat) : (sgL i).length = i + 2 := by
  induction i with
  | zero => rfl
  | succ i ih => rw [sgL, List.length_append, ih]; rfl
def keysOf (q : Nat) : Nat → List Nat
  | 0 => []
  | i + 1 => if q / (i + 1) ∈ keysOf q i then keysOf q i else keysOf q i ++ [q / (i + 1)]
def dD (q : Nat) (rs : List Int) : Nat → List (PyData × PyData)
  | 0 => []
  | i + 1 => if q / (i + 1) ∈ keysOf q i then dD q rs i else PyProof.V.putD (PyData.int ((q / (i + 1) : Nat) : Int)) (PyData.int (SS rs (q / (i + 1)))) (dD q rs i)
theorem dD_look (q : Nat) (rs : List Int) : ∀ (i k : Nat), PySem.Spec.lookup (PyData.int (k : Int)) (dD q rs i) = if k ∈ keysOf q i then some (PyData.int (SS rs k)) else none := by
  intro i
  induction i with
  | zero => intro k; rfl
  | succ i ih =>
    intro k
    rw [dD, keysOf]
    by_cases h : q / (i + 1) ∈ keysOf q i
    · rw [if_pos h, if_pos h]; exact ih k
    · rw [if_neg h, if_neg h, lookup_putK (enc := PyData.int) keyEnc_int, ih k]
      by_cases e : k = q / (i + 1)
      · subst e; simp
      · have e2 : ¬ ((k : Int) = ((q / (i + 1) : Nat) : Int)) := by omega
        rw [if_neg e2]
        simp [e]
theorem dD_fit {q i : Nat} {rs : List Int} (hi : i < q) (hq : q ≤ 20) : (dD q rs i).length ≤ sizeLine := by
  have h : ∀ j, (dD q rs j).length ≤ j := by
    intro j
    induction j with
    | zero => exact Nat.le_refl _
    | succ j ih =>
      rw [dD]
      split
      · omega
      · exact Nat.le_trans (PyProof.V.putD_length_le _ _ _) (by omega)
  exact Nat.le_trans (h i) (by rw [sizeLine_eq]; omega)
theorem keys_mem (q : Nat) : ∀ (i j : Nat), 1 ≤ j → j ≤ i → q / j ∈ keysOf q i := by
  intro i
  induction i with
  | zero => intro j h1 h2; omega
  | succ i ih =>
    intro j h1 h2
    rw [keysOf]
    by_cases e : j = i + 1
    · subst e
      split
      · assumption
      · simp
    · have := ih j h1 (by omega)
      split
      · exact this
      · exact List.mem_append_left _ this
theorem sg_bd (q : Nat) (h1 : 1 ≤ q) (h2 : q ≤ 20) (j : Nat) : -1 ≤ (sgL (q - 1)).getD j 0 ∧ (sgL (q - 1)).getD j 0 ≤ 1 := by
  rw [sgL_eq _ (by omega)]
  by_cases h : j < q - 1 + 2
  · rw [take_getD _ _ _ h]; exact mob_bd j
  · rw [List.getD_eq_getElem?_getD, List.getElem?_eq_none (by rw [List.length_take]; omega)]
    decide
theorem ss_range (rs : List Int) (n : Nat) : ((rangeKs 1 n).map (fun k => rs.getD (n / k.toNat % 5) 0)).sum = SS rs n := by
  have key : ∀ l : List Nat, ((l.map fun (j : Nat) => (1 : Int) + (j : Int)).map (fun k => rs.getD (n / k.toNat % 5) 0)).sum = sumF (fun n => rs.getD (n % 5) 0) (l.map fun j => n / (j + 1)) := by
    intro l
    induction l with
    | nil => rfl
    | cons j r ih =>
      have : ((1 : Int) + (j : Int)).toNat = j + 1 := by omega
      simp only [List.map_cons, List.sum_cons, sumF, ih, this]
  exact key (List.range n)
theorem sg_law (q : Nat) (h1 : 1 ≤ q) (h2 : q ≤ 20) (rs : List Int) : ((rangeKs 1 q).map (fun k => (sgL (q - 1)).getD k.toNat 0 * SS rs (q / k.toNat))).sum = rs.getD (q % 5) 0 := by
  rw [← ss_law q h1 h2 rs]
  congr 1
  refine List.map_congr_left fun k hk => ?_
  have hb := mem_rangeKs hk
  rw [sgL_eq _ (by omega), take_getD _ _ _ (by omega)]
theorem mem_putD {dk dv k v : PyData} {D : List (PyData × PyData)} (h : (k, v) ∈ PyProof.V.putD dk dv D) : k = dk ∨ ∃ v', (k, v') ∈ D := by
  unfold PyProof.V.putD at h
  split at h
  · obtain ⟨⟨a, b⟩, hp, he⟩ := List.mem_map.mp h
    split at he
    · cases he; exact .inr ⟨_, hp⟩
    · cases he; exact .inr ⟨_, hp⟩
  · rcases List.mem_append.mp h with h | h
    · exact .inr ⟨_, h⟩
    · cases List.mem_singleton.mp h; exact .inl rfl
theorem dD_keys (q : Nat) (rs : List Int) : ∀ (i : Nat) (k : Int) (v : PyData), (PyData.int k, v) ∈ dD q rs i → ∃ n ∈ keysOf q i, k = (n : Int) := by
  intro i
  induction i with
  | zero => intro k v h; exact absurd h (by simp [dD])
  | succ i ih =>
    intro k v h
    rw [dD] at h
    rw [keysOf]
    split at h
    · rename_i hc
      obtain ⟨n, hn, e⟩ := ih k v h
      exact ⟨n, by rw [if_pos hc]; exact hn, e⟩
    · rename_i hc
      rw [if_neg hc]
      rcases mem_putD h with e | ⟨v', h'⟩
      · cases e; exact ⟨_, List.mem_append_right _ (.head _), rfl⟩
      · obtain ⟨n, hn, e⟩ := ih k v' h'
        exact ⟨n, List.mem_append_left _ hn, e⟩
theorem kvs_keys {q i : Nat} {rs : List Int} {kvs : List (Int × Value)} (hf : PyProof.V.FlatPairs PyData.int kvs (dD q rs i)) : ∀ k ∈ kvs.map Prod.fst, ∃ n ∈ keysOf q i, k = (n : Int) := by
  intro k hk
  obtain ⟨⟨a, x⟩, hp, rfl⟩ := List.mem_map.mp hk
  obtain ⟨j, hj⟩ := List.getElem?_of_mem hp
  obtain ⟨dv, hD, _⟩ := hf.at hj
  exact dD_keys q rs i a dv (List.mem_of_getElem? hD)
theorem keysOf_bd (q : Nat) : ∀ i : Nat, i ≤ q → ∀ n ∈ keysOf q i, 1 ≤ n ∧ n ≤ q := by
  intro i
  induction i with
  | zero => intro _ n h; exact absurd h (by simp [keysOf])
  | succ i ih =>
    intro hi n h
    rw [keysOf] at h
    split at h
    · exact ih (by omega) n h
    · rcases List.mem_append.mp h with h | h
      · exact ih (by omega) n h
      · rw [List.mem_singleton.mp h]
        exact ⟨Nat.div_pos hi (by omega), Nat.div_le_self _ _⟩
theorem dD_len (q : Nat) (rs : List Int) : ∀ j, (dD q rs j).length ≤ j := by
  intro j
  induction j with
  | zero => exact Nat.le_refl _
  | succ j ih =>
    rw [dD]
    split
    · omega
    · exact Nat.le_trans (PyProof.V.putD_length_le _ _ _) (by omega)
theorem kvs_fit {q : Nat} {rs : List Int} {kvs : List (Int × Value)} (hf : PyProof.V.FlatPairs PyData.int kvs (dD q rs q)) (hq : q ≤ 20) : kvs.length ≤ sizeLine := by
  rw [← hf.length]
  exact Nat.le_trans (dD_len q rs q) (by rw [sizeLine_eq]; omega)
theorem row_idx (j : Nat) (k : Int) (hk : 1 ≤ k) : Int.fmod (Int.fdiv (j : Int) k) 5 = ((j / k.toNat % 5 : Nat) : Int) := by
  obtain ⟨p, rfl⟩ : ∃ p : Nat, k = (p : Int) := ⟨k.toNat, by omega⟩
  rw [Int.fdiv_eq_ediv_of_nonneg _ (by omega), Int.fmod_eq_emod_of_nonneg _ (by decide)]
  rfl
end Mine
end
section
open PySem PySem.W PyProof.Rows PySem.Calls PyProof
open PyProof.V (FlatPairs)
set_option Elab.async false
set_option maxRecDepth 100000
set_option maxHeartbeats 8000000
namespace Mine
section
variable {prog : Program} {w : World} {A : Around} {E : Value → Shared → Prop} {s : Shared} {h₀ : Heap} {L : Addr} {m : Str → Option Value} {env : Env}
/-- the keys of a dict of ints, walked; the dict's own object stays what it was -/
theorem walks_keysO (hh : A.handled = none) {I d : Addr} {od : Obj} {kvs : List (Int × Value)} {ep : Nat} (hne : d ≠ I) (a : KdkAt (PySem.intKind prog w) od kvs ep) :
    Walks prog w A I [I, d] [I] kvs.length (fun i v => ∃ k t, (kvs.map Prod.fst)[i]? = some k ∧ v = .int k t) (fun i h => h.IsKeyIter I d i kvs.length ep ∧ h.get? d = some od) :=
  let W := Walks.dictKeys (knd := PySem.intKind prog w) (A := A) hh I d hne kvs ep
  { sub := W.sub
    frame := fun i h h' st hk => ⟨st.1.at fun o e => hk I (by simp) o e, hk d (by simp) _ st.2⟩
    item := fun i s Q E hi st hQ => W.item i s Q E hi ⟨st.1, a.dictAt st.2⟩ fun v h' tk hP hst' hk' => hQ v h' tk (by
      obtain ⟨k, x, hx, hv⟩ := hP
      obtain ⟨t, rfl⟩ := Value.isInt_shape hv
      exact ⟨k, t, by rw [List.getElem?_map, hx]; rfl, rfl⟩) ⟨hst'.1, hk' d od (by simpa using hne) st.2⟩ hk'
    done := fun s Q E st hQ => W.done s Q E ⟨st.1, a.dictAt st.2⟩ hQ
    self := fun i s Q E st hQ => W.self i s Q E ⟨st.1, a.dictAt st.2⟩ hQ }

inductive SrcD (prog : Program) (w : World) (A : Around) (h₀ : Heap) (L : Addr) (m : Str → Option Value) (env : Env) (elt : Expr) (x : Str) (scope : Scope) (cl : List (Str × Addr)) (Fin : Shared → List Value → List (Addr × Obj) → Prop) (xv : Value) (s₁ : Shared) : Prop
  | mk (d : Addr) (od : Obj) (kvs : List (Int × Value)) (news : List (Addr × Obj)) (hx : xv = .ref d) (hh : A.handled = none) (F : Fr h₀ L s₁.heap m) (N : News h₀ L s₁.heap news) (hm : (d, od) ∈ news) (lo : (d == sysModules) = false) (hd : od.IsDictOf (PySem.intKind prog w) kvs) (hsz : kvs.length ≤ sizeLine)
    (R : ∀ s₂ : Shared, (∃ h, s₂ = { s₁ with heap := h }) → LCg.CompRest prog w A h₀ L m env elt x scope cl s₂ (fun nw => (d, od) ∈ nw) (fun i v => ∃ k t, (kvs.map Prod.fst)[i]? = some k ∧ v = .int k t) (Fin s₂) kvs.length 0 [] news) : SrcD prog w A h₀ L m env elt x scope cl Fin xv s₁

theorem SrcD.intro {elt : Expr} {x : Str} {scope : Scope} {cl : List (Str × Addr)} {Fin : Shared → List Value → List (Addr × Obj) → Prop} {d : Addr} {od : Obj} {kvs : List (Int × Value)} {news : List (Addr × Obj)} {s₁ : Shared}
    (hh : A.handled = none) (F : Fr h₀ L s₁.heap m) (N : News h₀ L s₁.heap news) (hm : (d, od) ∈ news) (lo : (d == sysModules) = false) (hd : od.IsDictOf (PySem.intKind prog w) kvs) (hsz : kvs.length ≤ sizeLine)
    (h : ∀ g, LCg.CompRest prog w A h₀ L m env elt x scope cl { s₁ with heap := g } (fun nw => (d, od) ∈ nw) (fun i v => ∃ k t, (kvs.map Prod.fst)[i]? = some k ∧ v = .int k t) (Fin { s₁ with heap := g }) kvs.length 0 [] news) :
    SrcD prog w A h₀ L m env elt x scope cl Fin (.ref d) s₁ := ⟨d, od, kvs, news, rfl, hh, F, N, hm, lo, hd, hsz, fun _ ⟨g, e⟩ => e ▸ h g⟩

theorem ListComp_D {elt iter : Expr} {x : Str} {px : Pos} {scope : Scope} {cl : List (Str × Addr)} {pos : Pos} {Q : Value → Shared → Prop} (_F₀ : Fr h₀ L s.heap m)
    (hclos : closureFor scope env = pure cl) (hcell : ∀ y ∈ scope.names, y.2 ≠ .cell) (hkind : scope.kind = .function)
    (hnames : ∀ y ∈ scope.names, y.2 = .local → scope.names.lookup y.1 = some .local) (hx : scope.names.lookup x = some .local)
    (h : wpAny (model prog w) A (eval iter env) (SrcD prog w A h₀ L m env elt x scope cl (fun s₂ => LCg.FinE h₀ L m s₂ Q)) E s)
    (hs : ∀ x, foldedSetIterable iter env x = pure x := by intro _; rfl) :
    wpAny (model prog w) A (eval (.ListComp elt [⟨.Name x px, iter, [], 0⟩] scope pos) env) Q E s := by
  rw [eval_ListComp]
  refine wpAny_comprehension_free (use := none) rfl hs hclos hkind hnames (wpAny_mono h (fun xv s₁ h₁ => ?_) fun _ _ e => e)
  obtain ⟨d, od, kvs, news, rfl, hh, F, N, hm, lo, hd, hsz, R⟩ := h₁
  obtain ⟨ep, a⟩ := KdkAt.of hd
  have ho := (N _ hm).1
  have hlt := Heap.lt_size ho
  refine wpAny_pyIter_dict lo (a.dictAt ho) ?_
  refine LCg.block_U (walks_keysO hh (I := s₁.heap.objs.size) (Nat.ne_of_lt hlt) a) hsz (fun i h st => by obtain ⟨⟨o, e, _⟩, _⟩ := st; exact ⟨o, e⟩)
    (fun i h h' o nw st e e' k N' hm' => ⟨st.1.at fun o2 q => by rw [e] at q; cases q; exact e', (N' _ hm').1⟩) hcell hkind hx ⟨⟨_, Heap.get?_push_size _ rfl, rfl, rfl⟩, Heap.get?_push_of_some _ ho⟩ (fun b hb => ?_)
    (F.keeps fun _ _ e => Heap.get?_push_of_some _ e) (N.grown fun _ _ e => Heap.get?_push_of_some _ e) (Nat.ne_of_lt F.ns.lt) (next_is_new F) (fun p hp => Nat.ne_of_lt (Heap.lt_size (N p hp).1)) hm (R _ ⟨_, rfl⟩) ?_
  · show b < (s₁.heap.push _).objs.size
    rw [Heap.size_push]
    rcases List.mem_cons.mp hb with rfl | hb
    · exact Nat.lt_succ_self _
    · rw [List.mem_singleton.mp hb]; exact Nat.lt_succ_of_lt hlt
  · intro D C h tk m' ys news' F' N' o1 hn hC₀ hD₀ hCL hDL hCD offC fin
    refine ⟨m', hn, fun h'' hs'' => fin D h'' tk (F'.change hs'' hCL hC₀) (fun p hp => ?_) o1⟩
    refine ⟨hs''.extBut _ _ ?_ (N' p hp).1, (N' p hp).2⟩
    rcases List.mem_cons.mp hp with rfl | hp
    · exact Ne.symm hCD
    · exact offC p hp

/-- a block's own env with one cell, its target's -/
theorem newEnv_cell {scope : Scope} {cl : List (Str × Addr)} {x : Str} {Q : Env → Shared → Prop} {M : Model}
    (hcf : ∀ a, cellsFrom a scope.names cl = (x, a) :: cl) (hpc : ∀ h : Heap, pushCells h scope.names = h.push { cls := .type "cell", data := .cell none })
    (h : Q { scope := scope, locals := s.heap.objs.size, globals := env.globals, cells := (x, s.heap.objs.size + 1) :: cl, qual := env.qual, func := none, code := env.code, frame := env.frame, builtins := env.builtins }
      { s with heap := (s.heap.push { cls := .type "dict", data := .dict #[] }).push { cls := .type "cell", data := .cell none } }) :
    wpAny M A (newFunctionEnv scope env.globals cl [] env.qual none .none (some env)) Q E s := by
  simp only [newFunctionEnv, Option.isSome_some, if_true]
  refine wpAny_bind (wpAny_alloc ?_)
  refine wpAny_bind (wpAny_layCells _ (fun name kind cells => by cases hkc : kind == NameKind.cell <;> simp) _ _ _ _ ?_)
  rw [show ({ s with heap := s.heap.push { cls := .type "dict", data := .dict #[] } } : Shared).heap.objs.size = s.heap.objs.size + 1 from Heap.size_push ..]
  rw [hcf, hpc]
  rw [List.forIn_nil]
  exact wpAny_bind (wpAny_pure (wpAny_pure h))

inductive KInv (h₀ : Heap) (L : Addr) (m : Str → Option Value) (s₂ : Shared) (C : Addr) (oC : Obj) (D K : Addr) (ks : List Int) (g : Int → Int) (news : List (Addr × Obj)) (St : Nat → Heap → Prop) (n k : Nat) (s' : Shared) : Prop
  | mk (h' : Heap) (tk i : Nat) (ys : List Value) (oK : Obj) (e : s' = { s₂ with heap := h', toks := tk }) (hi : i ≤ n) (hk : k = n + 1 - i) (hyl : ys.length = i) (st : St i h') (F : Fr h₀ L h' m) (N : News h₀ L h' ((C, oC) :: (D, LCg.lst ys) :: (K, oK) :: news))
    (hv : ∃ v, oK.data = .cell v) (hI : IntsAre ys ((ks.take i).map g)) : KInv h₀ L m s₂ C oC D K ks g news St n k s'
theorem block_K {elt iter : Expr} {x : Str} {px : Pos} {scope : Scope} {cl : List (Str × Addr)} {pos : Pos} {s₂ : Shared} {I : Addr} {fp : List Addr} {n : Nat} {ks : List Int} {St : Nat → Heap → Prop} {news : List (Addr × Obj)}
    {RR : Value → Addr → Result → Shared → Prop} (g : Int → Int)
    (W : Walks prog w A I fp [I] n (fun i v => ∃ k t, ks[i]? = some k ∧ v = .int k t) St) (hks : ks.length = n) (hsz : n ≤ sizeLine) (hIo : ∀ i h, St i h → ∃ o, h.get? I = some o)
    (hSt : ∀ i h h' o, St i h → h.get? I = some o → h'.get? I = some o → News h₀ L h' news → St i h')
    (hkind : scope.kind = .function) (hx : (relabel scope env).names.lookup x = some .cell)
    (hcf : ∀ a, cellsFrom a scope.names cl = (x, a) :: cl) (hpc : ∀ h : Heap, pushCells h scope.names = h.push { cls := .type "cell", data := .cell none })
    (hst : St 0 s₂.heap) (hfp : ∀ b ∈ fp, b < s₂.heap.objs.size)
    (F : Fr h₀ L s₂.heap m) (N : News h₀ L s₂.heap news) (hIL : L ≠ I) (hI₀ : h₀.get? I = none) (off : ∀ p ∈ news, p.1 ≠ I)
    (turn : ∀ k t oI C oC K oK D ys h tk (E' : Value → Shared → Prop), k ∈ ks → oK.data = .cell (some (.int k t)) → Fr h₀ L h m → News h₀ L h ((I, oI) :: (C, oC) :: (D, LCg.lst ys) :: (K, oK) :: news) →
      LCg.Off3 I C D ((K, oK) :: news) → LCg.Off1 K news → ((@Ne Nat I C) ∧ (@Ne Nat I D) ∧ (@Ne Nat C D)) →
      wpAny (model prog w) A (eval elt (compEnvC scope ((x, K) :: cl) C env)) (fun y s' => ∃ h' tk', s' = { s₂ with heap := h', toks := tk' } ∧ Fr h₀ L h' m ∧ News h₀ L h' ((I, oI) :: (C, oC) :: (D, LCg.lst ys) :: (K, oK) :: news) ∧ ∃ t', y = .int (g k) t') E' { s₂ with heap := h, toks := tk })
    (hRR : ∀ D C h tk m' ys, Fr h₀ L h m → News h₀ L h ((D, LCg.lst ys) :: news) → LCg.Off1 D news → h.Ns C m' → h₀.get? C = none → C ≠ L → C ≠ D → (∀ p ∈ news, p.1 ≠ C) → IntsAre ys (ks.map g) → RR (.ref D) C (.ok .next) { s₂ with heap := h, toks := tk }) :
    wpAny (model prog w) A (newList []) (fun acc s₃ => wpAny (model prog w) A (newFunctionEnv scope env.globals cl [] env.qual none .none (some env)) (fun cenv s₄ =>
      codeAny (model prog w) A (.compStart (.ListComp elt [⟨.Name x px, iter, [], 0⟩] scope pos) 0 (.ref I) acc { cenv with scope := relabel scope env }) (RR acc cenv.locals) s₄) E s₃) E s₂ := by
  refine wpAny_newObj_type (newEnv_cell hcf hpc ?_)
  dsimp only
  generalize hH2 : s₂.heap.push { cls := .type "list", dict := none, data := .seq ([] : List Value).toArray } = H2
  have hC : H2.objs.size = s₂.heap.objs.size + 1 := by rw [← hH2, Heap.size_push]
  have hsH : (H2.push { cls := .type "dict", data := .dict #[] }).objs.size = H2.objs.size + 1 := Heap.size_push ..
  generalize hH1 : (H2.push { cls := .type "dict", data := .dict #[] }).push { cls := .type "cell", data := .cell none } = h₁
  have hns₁ : h₁.Ns H2.objs.size (fun _ => none) := hH1 ▸ (Heap.Ns.new H2 (.type "dict")).push _
  obtain ⟨K, hK⟩ : ∃ K, K = H2.objs.size + 1 := ⟨_, rfl⟩
  rw [← hK]
  have heK₁ : h₁.get? K = some { cls := .type "cell", data := .cell none } := by rw [← hH1, hK, ← hsH]; exact Heap.get?_push_size _ rfl
  obtain ⟨C, hCe⟩ : ∃ C, C = H2.objs.size := ⟨_, rfl⟩
  rw [← hCe] at hns₁ hK hC ⊢
  obtain ⟨D, hDe⟩ : ∃ D, D = s₂.heap.objs.size := ⟨_, rfl⟩
  rw [← hDe] at hC ⊢
  have up : ∀ b o, H2.get? b = some o → h₁.get? b = some o := fun b o e => hH1 ▸ Heap.get?_push_of_some _ (Heap.get?_push_of_some _ e)
  have old : ∀ b o, s₂.heap.get? b = some o → h₁.get? b = some o := fun b o e => up b o (hH2 ▸ Heap.get?_push_of_some _ e)
  have hacc : h₁.get? D = some (LCg.lst []) := up _ _ (by rw [hDe, ← hH2]; exact Heap.get?_push_size _ rfl)
  obtain ⟨oC, heC, hoC⟩ := LCg.ns_obj hns₁
  have below : ∀ b, b < s₂.heap.objs.size → b ≠ C ∧ b ≠ D ∧ b ≠ K := fun b hb => by
    rw [← hDe] at hb
    refine ⟨Nat.ne_of_lt (by omega), Nat.ne_of_lt (by omega), Nat.ne_of_lt (by omega)⟩
  have hDC : D ≠ C := Nat.ne_of_lt (by omega)
  have hDK : D ≠ K := Nat.ne_of_lt (by omega)
  have hCK : C ≠ K := Nat.ne_of_lt (by omega)
  have hDf : D ∉ fp := fun hm => (below _ (hfp _ hm)).2.1 rfl
  have hKf : K ∉ fp := fun hm => (below _ (hfp _ hm)).2.2 rfl
  have hIf : I ∈ fp := W.sub I (List.mem_singleton.mpr rfl)
  have hIlt : I < s₂.heap.objs.size := hfp I hIf
  obtain ⟨hCI, hDI, hKI⟩ := below I hIlt
  have fresh : ∀ a, s₂.heap.objs.size ≤ a → s₂.heap.get? a = none := fun a ha => by
    cases e : s₂.heap.get? a with
    | none => rfl
    | some o' => exact absurd (Heap.lt_size e) (Nat.not_lt.mpr ha)
  have fresh₀ : ∀ a, s₂.heap.objs.size ≤ a → h₀.get? a = none := fun a ha => by
    cases e : h₀.get? a with
    | none => rfl
    | some o' => have := F.keep a o' e; rw [fresh a ha] at this; cases this
  have hD₀ : h₀.get? D = none := fresh₀ _ (Nat.le_of_eq hDe.symm)
  have hC₀ : h₀.get? C = none := fresh₀ _ (by rw [hC, hDe]; exact Nat.le_succ _)
  have hK₀ : h₀.get? K = none := fresh₀ _ (by rw [hK, hC, hDe]; exact Nat.le_succ_of_le (Nat.le_succ _))
  obtain ⟨hCL, hDL, hKL⟩ := below L F.ns.lt
  have offs : ∀ p ∈ news, p.1 ≠ I ∧ p.1 ≠ C ∧ p.1 ≠ D ∧ p.1 ≠ K := fun p hp => ⟨off p hp, (below _ (Heap.lt_size (N p hp).1))⟩
  have hst₁ : St 0 h₁ := W.frame _ _ _ hst fun b _ o e => old b o e
  have N₁ : News h₀ L h₁ ((C, oC) :: (D, LCg.lst []) :: (K, { cls := .type "cell", data := .cell none }) :: news) := fun p hp => by
    rcases List.mem_cons.mp hp with rfl | hp
    · exact ⟨heC, Ne.symm hCL, hC₀⟩
    rcases List.mem_cons.mp hp with rfl | hp
    · exact ⟨hacc, Ne.symm hDL, hD₀⟩
    rcases List.mem_cons.mp hp with rfl | hp
    · exact ⟨heK₁, Ne.symm hKL, hK₀⟩
    · exact ⟨old _ _ (N p hp).1, (N p hp).2⟩
  have loop : ∀ s₃ : Shared, s₃ = { s₂ with heap := h₁ } →
      codeAny (model prog w) A (.compLoop (.ListComp elt [⟨.Name x px, iter, [], 0⟩] scope pos) 0 (.ref I) (.ref D) (compEnvC scope ((x, K) :: cl) C env)) (RR (.ref D) C) s₃ := by
    rintro s₃ rfl
    refine codeAny_compLoop_tests
      (KInv h₀ L m s₂ C oC D K ks g news St n) ?_ (n + 1)
      ⟨h₁, _, 0, [], _, rfl, Nat.zero_le _, rfl, rfl, hst₁, F.keeps old, N₁, ⟨_, rfl⟩, .nil⟩
    rintro k s' ⟨h', tk, i, ys, oK, rfl, hi, rfl, hyl, hst', F', N', ⟨v₀, hv₀⟩, hI'⟩
    by_cases hlt : i < n
    · refine W.item i _ _ _ hlt hst' fun v h₂ tk₂ hPv hst₂ hk₂ => ?_
      obtain ⟨k, t, hk, rfl⟩ := hPv
      have N₂ : News h₀ L h₂ ((C, oC) :: (D, LCg.lst ys) :: (K, oK) :: news) := LCg.news_but N' hk₂ fun p hp => by
        rcases List.mem_cons.mp hp with rfl | hp
        · exact Ne.symm hCI
        rcases List.mem_cons.mp hp with rfl | hp
        · exact Ne.symm hDI
        rcases List.mem_cons.mp hp with rfl | hp
        · exact Ne.symm hKI
        · exact off p hp
      refine wpAny_assign_Name (wpAny_storeName_cell (c := K) hkind hx (by simp [compEnvC]) ⟨oK, (N₂ _ (.tail _ (.tail _ (.head _)))).1, hv₀⟩ fun h₃ hc₃ hs₃ => ?_)
      refine wpAny_tests_nil ?_
      simp only [if_true]
      have hst₃ : St (i + 1) h₃ := W.frame _ _ _ hst₂ fun b hb o e => hs₃.extBut b o (fun q => hKf (by have q' : b = K := q; rw [← q']; exact hb)) e
      obtain ⟨oI, heI⟩ := hIo _ _ hst₃
      obtain ⟨oK', heK, hdK⟩ := hc₃
      have F₃ : Fr h₀ L h₃ m := (LCg.fr_but F' hk₂ hIL hI₀).change hs₃ (Ne.symm hKL) hK₀
      have N₃ : News h₀ L h₃ ((I, oI) :: (C, oC) :: (D, LCg.lst ys) :: (K, oK') :: news) := fun p hp => by
        rcases List.mem_cons.mp hp with rfl | hp
        · exact ⟨heI, Ne.symm hIL, hI₀⟩
        rcases List.mem_cons.mp hp with rfl | hp
        · exact ⟨hs₃.extBut _ _ hCK (N₂ _ (.head _)).1, (N₂ _ (.head _)).2⟩
        rcases List.mem_cons.mp hp with rfl | hp
        · exact ⟨hs₃.extBut _ _ hDK (N₂ _ (.tail _ (.head _))).1, (N₂ _ (.tail _ (.head _))).2⟩
        rcases List.mem_cons.mp hp with rfl | hp
        · exact ⟨heK, Ne.symm hKL, hK₀⟩
        · have z := N₂ p (.tail _ (.tail _ (.tail _ hp)))
          exact ⟨hs₃.extBut _ _ (offs p hp).2.2.2 z.1, z.2⟩
      refine wpAny_mono (turn k t oI C oC K oK' D ys h₃ _ _ (List.mem_of_getElem? hk) hdK F₃ N₃ (LCg.Off3.of fun p hp => ?_) (by
        have : ∀ l : List (Addr × Obj), (∀ p ∈ l, p.1 ≠ K) → LCg.Off1 K l := by
          intro l
          induction l with
          | nil => intro _; trivial
          | cons a r ih => exact fun hh => ⟨hh _ (.head _), ih fun p hp => hh p (.tail _ hp)⟩
        exact this news fun p hp => (offs p hp).2.2.2) ⟨hCI, hDI, Ne.symm hDC⟩) (fun y s₄ h₄ => ?_) fun _ _ e => e
      · rcases List.mem_cons.mp hp with rfl | hp
        · exact ⟨Ne.symm hKI, Ne.symm hCK, Ne.symm hDK⟩
        · exact ⟨(offs p hp).1, (offs p hp).2.1, (offs p hp).2.2.1⟩
      obtain ⟨h₄, tk₄, rfl, F₄, N₄, t', rfl⟩ := h₄
      have zI := (N₄ _ (.head _)).1
      have zD := (N₄ _ (.tail _ (.tail _ (.head _)))).1
      have hst₄ : St (i + 1) h₄ := hSt _ _ _ _ hst₃ heI zI fun p hp => N₄ p (.tail _ (.tail _ (.tail _ (.tail _ hp))))
      refine append_at (hsz := by show ys.toArray.size ≤ sizeLine; rw [List.size_toArray, hyl]; exact Nat.le_trans hi hsz) zD fun h₅ hs₅ hD₅ => ?_
      refine ⟨n + 1 - (i + 1), by omega, h₅, tk₄, i + 1, ys ++ [.int (g k) t'], oK', rfl, hlt, rfl, by rw [List.length_append, List.length_singleton, hyl], W.frame _ _ _ hst₄ fun b hb o e => hs₅.extBut b o (fun q => hDf (by have q' : b = D := q; rw [← q']; exact hb)) e,
        F₄.change hs₅ (Ne.symm hDL) hD₀, fun p hp => ?_, ⟨_, hdK⟩, ?_⟩
      · rcases List.mem_cons.mp hp with rfl | hp
        · exact ⟨hs₅.extBut _ _ (Ne.symm hDC) (N₄ _ (.tail _ (.head _))).1, (N₄ _ (.tail _ (.head _))).2⟩
        rcases List.mem_cons.mp hp with rfl | hp
        · exact ⟨hD₅.trans (congrArg some (LCg.lst_snoc ys _)), Ne.symm hDL, hD₀⟩
        rcases List.mem_cons.mp hp with rfl | hp
        · exact ⟨hs₅.extBut _ _ (Ne.symm hDK) (N₄ _ (.tail _ (.tail _ (.tail _ (.head _))))).1, (N₄ _ (.tail _ (.tail _ (.tail _ (.head _))))).2⟩
        · have z := N₄ p (.tail _ (.tail _ (.tail _ (.tail _ hp))))
          exact ⟨hs₅.extBut _ _ (offs p hp).2.2.1 z.1, z.2⟩
      · rw [List.take_add_one, hk]
        simpa using IntsAre.append hI' (.cons (g k) t' .nil)
    · obtain rfl : i = n := Nat.le_antisymm hi (Nat.not_lt.mp hlt)
      refine W.done _ _ _ hst' fun h₂ tk₂ hk₂ => ?_
      rw [List.take_of_length_le (Nat.le_of_eq hks)] at hI'
      have N₂ : News h₀ L h₂ ((C, oC) :: (D, LCg.lst ys) :: (K, oK) :: news) := LCg.news_but N' hk₂ fun p hp => by
        rcases List.mem_cons.mp hp with rfl | hp
        · exact Ne.symm hCI
        rcases List.mem_cons.mp hp with rfl | hp
        · exact Ne.symm hDI
        rcases List.mem_cons.mp hp with rfl | hp
        · exact Ne.symm hKI
        · exact off p hp
      refine hRR D C h₂ tk₂ _ ys (LCg.fr_but F' hk₂ hIL hI₀) (fun p hp => ?_) (LCg.Off3.one (I := I) (C := C) (LCg.Off3.of fun p hp => ⟨(offs p hp).1, (offs p hp).2.1, (offs p hp).2.2.1⟩)) (hoC.ns (N₂ _ (.head _)).1) hC₀ (Ne.symm hCL) (Ne.symm hDC) (fun p hp => (offs p hp).2.1) hI'
      rcases List.mem_cons.mp hp with rfl | hp
      · exact N₂ _ (.tail _ (.head _))
      · exact N₂ _ (.tail _ (.tail _ (.tail _ hp)))
  exact codeAny_compStart_list (loop _ rfl) (W.self 0 _ _ _ hst₁ (loop _ rfl))

def TurnK (prog : Program) (w : World) (A : Around) (h₀ : Heap) (L : Addr) (m : Str → Option Value) (env : Env) (elt : Expr) (x : Str) (scope : Scope) (cl : List (Str × Addr)) (ks : List Int) (g : Int → Int) (news : List (Addr × Obj)) (s₂ : Shared) : Prop :=
  ∀ k t I oI C oC K oK D ys h tk (E' : Value → Shared → Prop), k ∈ ks → oK.data = .cell (some (.int k t)) → Fr h₀ L h m → News h₀ L h ((I, oI) :: (C, oC) :: (D, LCg.lst ys) :: (K, oK) :: news) →
      LCg.Off3 I C D ((K, oK) :: news) → LCg.Off1 K news → ((@Ne Nat I C) ∧ (@Ne Nat I D) ∧ (@Ne Nat C D)) →
      wpAny (model prog w) A (eval elt (compEnvC scope ((x, K) :: cl) C env)) (LCg.CompEnd h₀ L m { s₂ with heap := h, toks := tk } I oI C oC D (LCg.lst ys) (fun _ => True) (fun y news' => KCfEl ((K, oK) :: news) (g k) y news')) E' { s₂ with heap := h, toks := tk }
inductive SrcK (prog : Program) (w : World) (A : Around) (h₀ : Heap) (L : Addr) (m : Str → Option Value) (env : Env) (elt : Expr) (x : Str) (scope : Scope) (cl : List (Str × Addr)) (Q : Value → Shared → Prop) (xv : Value) (s₁ : Shared) : Prop
  | mk (d : Addr) (od : Obj) (kvs : List (Int × Value)) (news : List (Addr × Obj)) (g : Int → Int) (hx : xv = .ref d) (hh : A.handled = none) (F : Fr h₀ L s₁.heap m) (N : News h₀ L s₁.heap news) (hm : (d, od) ∈ news) (lo : (d == sysModules) = false) (hd : od.IsDictOf (PySem.intKind prog w) kvs) (hsz : kvs.length ≤ sizeLine)
    (T : ∀ hh, TurnK prog w A h₀ L m env elt x scope cl (kvs.map Prod.fst) g news { s₁ with heap := hh })
    (R : ∀ D h tk ys, IntsAre ys ((kvs.map Prod.fst).map g) → Fr h₀ L h m → News h₀ L h ((D, LCg.lst ys) :: news) → LCg.Off1 D news → Q (.ref D) { s₁ with heap := h, toks := tk }) : SrcK prog w A h₀ L m env elt x scope cl Q xv s₁
theorem SrcK.intro {elt : Expr} {x : Str} {scope : Scope} {cl : List (Str × Addr)} {Q : Value → Shared → Prop} {d : Addr} {od : Obj} {kvs : List (Int × Value)} {news : List (Addr × Obj)} {s₁ : Shared} (g : Int → Int)
    (hh : A.handled = none) (F : Fr h₀ L s₁.heap m) (N : News h₀ L s₁.heap news) (hm : (d, od) ∈ news) (lo : (d == sysModules) = false) (hd : od.IsDictOf (PySem.intKind prog w) kvs) (hsz : kvs.length ≤ sizeLine)
    (turn : ∀ hh, TurnK prog w A h₀ L m env elt x scope cl (kvs.map Prod.fst) g news { s₁ with heap := hh })
    (fin : ∀ D h tk ys, IntsAre ys ((kvs.map Prod.fst).map g) → Fr h₀ L h m → News h₀ L h ((D, LCg.lst ys) :: news) → LCg.Off1 D news → Q (.ref D) { s₁ with heap := h, toks := tk }) :
    SrcK prog w A h₀ L m env elt x scope cl Q (.ref d) s₁ := ⟨d, od, kvs, news, g, rfl, hh, F, N, hm, lo, hd, hsz, turn, fin⟩
theorem ListComp_K {elt iter : Expr} {x : Str} {px : Pos} {scope : Scope} {cl : List (Str × Addr)} {pos : Pos} {Q : Value → Shared → Prop} (_F₀ : Fr h₀ L s.heap m)
    (hclos : closureFor scope env = pure cl) (hkind : scope.kind = .function)
    (hnames : ∀ y ∈ scope.names, y.2 = .local → scope.names.lookup y.1 = some .local) (hx : (relabel scope env).names.lookup x = some .cell)
    (hcf : ∀ a, cellsFrom a scope.names cl = (x, a) :: cl) (hpc : ∀ h : Heap, pushCells h scope.names = h.push { cls := .type "cell", data := .cell none })
    (h : wpAny (model prog w) A (eval iter env) (SrcK prog w A h₀ L m env elt x scope cl Q) E s)
    (hs : ∀ x, foldedSetIterable iter env x = pure x := by intro _; rfl) :
    wpAny (model prog w) A (eval (.ListComp elt [⟨.Name x px, iter, [], 0⟩] scope pos) env) Q E s := by
  rw [eval_ListComp]
  refine wpAny_comprehension_free (use := none) rfl hs hclos hkind hnames (wpAny_mono h (fun xv s₁ h₁ => ?_) fun _ _ e => e)
  obtain ⟨d, od, kvs, news, g, rfl, hh, F, N, hm, lo, hd, hsz, T, R⟩ := h₁
  obtain ⟨ep, a⟩ := KdkAt.of hd
  have ho := (N _ hm).1
  have hlt := Heap.lt_size ho
  refine wpAny_pyIter_dict lo (a.dictAt ho) ?_
  refine block_K g (walks_keysO hh (I := s₁.heap.objs.size) (Nat.ne_of_lt hlt) a) (List.length_map ..) hsz (fun i h st => by obtain ⟨⟨o, e, _⟩, _⟩ := st; exact ⟨o, e⟩)
    (fun i h h' o st e e' N' => ⟨st.1.at fun o2 q => by rw [e] at q; cases q; exact e', (N' _ hm).1⟩) hkind hx hcf hpc ⟨⟨_, Heap.get?_push_size _ rfl, rfl, rfl⟩, Heap.get?_push_of_some _ ho⟩ (fun b hb => ?_)
    (F.keeps fun _ _ e => Heap.get?_push_of_some _ e) (N.grown fun _ _ e => Heap.get?_push_of_some _ e) (Nat.ne_of_lt F.ns.lt) (next_is_new F) (fun p hp => Nat.ne_of_lt (Heap.lt_size (N p hp).1)) ?_ ?_
  · show b < (s₁.heap.push _).objs.size
    rw [Heap.size_push]
    rcases List.mem_cons.mp hb with rfl | hb
    · exact Nat.lt_succ_self _
    · rw [List.mem_singleton.mp hb]; exact Nat.lt_succ_of_lt hlt
  · intro k t oI C oC K oK D ys h tk E' hk hK F' N' o3 o1 ne
    refine wpAny_mono (T s₁.heap k t _ oI C oC K oK D ys h tk E' hk hK F' N' o3 o1 ne) (fun y s' hq => ?_) fun _ _ e => e
    obtain ⟨h', tk', news', rfl, F₂, N₂, _, _, rfl, t', rfl⟩ := hq
    exact ⟨h', tk', rfl, F₂, N₂, t', rfl⟩
  · intro D C h tk m' ys F' N' o1 hn hC₀ hCL hCD offC hI
    refine ⟨m', hn, fun h'' hs'' => R D h'' tk ys hI (F'.change hs'' hCL hC₀) (fun p hp => ?_) o1⟩
    refine ⟨hs''.extBut _ _ ?_ (N' p hp).1, (N' p hp).2⟩
    rcases List.mem_cons.mp hp with rfl | hp
    · exact Ne.symm hCD
    · exact offC p hp
end
end Mine
end
section
open PySem PySem.W PyProof.Rows PySem.Calls PyProof
open PyProof.V (keyEnc_int)
set_option Elab.async false
set_option maxRecDepth 100000
set_option maxHeartbeats 8000000
set_option pp.maxSteps 300
namespace Mine
theorem freshLaw : True := by
  k_with_none
  w_top off
  trivial
local macro_rules | `(tactic| walk_at $s:str) => `(tactic| k_extra $s)
set_option linter.unusedVariables false
local macro_rules | `(tactic| k_behind $G:ident $ho:ident $hd:ident $hcd:ident $hD:ident $hmg:ident $hpre:ident $hlay:ident $hrd:ident $hwl:ident $hlo:ident $cd:ident) => `(tactic| (
  have X := (Ground.X $G).1
  have V := (Ground.X $G).2
  have GL := glob_more (Ground.glob $G (by decide +kernel) (by decide +kernel)) V
  refine Ground.open $G ?_
  intro T B D TE TW
  refine guard_noD D (by decide +kernel) ?_
  clear D
  obtain ⟨_, _, M⟩ := bmod_of_top T
  obtain ⟨_, _, he, B0⟩ := based_of_top T rfl $hmg $ho $hd
  have he' : $cd = _ := he
  subst he'
  clear he $hmg
  wrow_args $hpre $hlay $hrd $hwl $hlo
  refine enter_call ?_
  w_top on
  have K0 := below_caller (Top.heap T)
  w_call any $ho $hd $hcd $hD T F
  clear $hd
  k_drop))
theorem pick_drop' : ∀ n : Nat, n ≤ 6 → pickNums [11, 1, 2, 4, 8, 16] (some (n : Int)) none none = ([11, 1, 2, 4, 8, 16] : List Int).drop n := by decide +kernel
theorem pick_drop (n : Nat) (h : n ≤ 6) : pickNums [11, 1, 2, 4, 8, 16] (some (n : Int)) none none = ([11, 1, 2, 4, 8, 16] : List Int).drop n := pick_drop' n h
theorem take_drop (l : List Int) : (List.take 6 l ++ ([11, 1, 2, 4, 8, 16] : List Int).drop (List.take 6 l).length).length = 6 := by simp; omega
theorem size_nat (nn : List Int) : ∃ q : Nat, 1 ≤ q ∧ q ≤ 20 ∧ Int.fmod (nn.getD 0 0) 20 + 1 = (q : Int) := by
  have h1 := Int.emod_nonneg (nn.getD 0 0) (show (20 : Int) ≠ 0 by decide)
  have h2 := Int.emod_lt_of_pos (nn.getD 0 0) (show (0 : Int) < 20 by decide)
  rw [Int.fmod_eq_emod_of_nonneg _ (by decide)]
  exact ⟨((nn.getD 0 0) % 20 + 1).toNat, by omega, by omega, by omega⟩
theorem row_ok (nn : List Int) (h : nn.length = 6) : ((List.drop 1 nn).map (fun k' => Int.fmod k' 4096)).length = 5 ∧ ∀ r ∈ (List.drop 1 nn).map (fun k' => Int.fmod k' 4096), 0 ≤ r ∧ r < 4096 := by
  refine ⟨by simp [h], fun r hr => ?_⟩
  obtain ⟨k, _, rfl⟩ := List.mem_map.mp hr
  rw [Int.fmod_eq_emod_of_nonneg _ (by decide)]
  exact ⟨Int.emod_nonneg _ (by decide), Int.emod_lt_of_pos _ (by decide)⟩
theorem led_trim {h₀ h : Heap} {L : Addr} {a b c1 c2 c3 c4 c5 c6 : Addr × Obj} {r : List (Addr × Obj)} (N : News h₀ L h (a :: b :: c1 :: c2 :: c3 :: c4 :: c5 :: c6 :: r)) : News h₀ L h (a :: b :: r) := by
  intro p hp
  refine N p ?_
  rcases List.mem_cons.mp hp with rfl | hp
  · exact .head _
  rcases List.mem_cons.mp hp with rfl | hp
  · exact .tail _ (.head _)
  · exact .tail _ (.tail _ (.tail _ (.tail _ (.tail _ (.tail _ (.tail _ (.tail _ hp)))))))
structure OcSt where
  vs : List Value
  k : Nat
abbrev psRd2 (_ : OcSt) : List (Str × Value) := []
abbrev ledOc (lo Dn : Addr) (us : List Value) (rest : List (Addr × Obj)) (c : OcSt) : List (Addr × Obj) := (lo, listOf c.vs.toArray c.k) :: (Dn, listOf us.toArray 0) :: rest
def octs (l : List Int) : List Int := l.flatMap fun v => [64 + Int.fdiv v 64, Int.fmod v 64]
structure OcP (ms : List Int) (g0 : Array GenState) (i : Nat) (c : OcSt) (gs : Array GenState) : Prop where
  hg : gs = g0
  hv : IntsAre c.vs (octs (ms.take i))
theorem octs_len (l : List Int) : (octs l).length = 2 * l.length := by
  induction l with
  | nil => rfl
  | cons a r ih => simp only [octs, List.flatMap_cons, List.length_append, List.length_cons, List.length_nil] at ih ⊢; omega
theorem octs_append (a b : List Int) : octs (a ++ b) = octs a ++ octs b := List.flatMap_append
theorem getD_bd {ms : List Int} (hb : ∀ r ∈ ms, 0 ≤ r ∧ r < 4096) (j : Nat) : 0 ≤ ms.getD j 0 ∧ ms.getD j 0 < 4096 := by
  rw [List.getD_eq_getElem?_getD]
  cases e : ms[j]? with
  | none => simp
  | some r => exact hb r (List.mem_of_getElem? e)
theorem octs_ab (ms : List Int) (hb : ∀ r ∈ ms, 0 ≤ r ∧ r < 4096) : ∀ j, j < 6 → (ms.getD j 0 / 64).toNat < 64 ∧ (ms.getD j 0 % 64).toNat < 64 := by
  intro j _
  have := getD_bd hb j
  omega
theorem octs_at : ∀ (ms : List Int) {vs : List Value}, IntsAre vs (octs ms) → ∀ j, j < ms.length → ∃ t u, vs[2 * j]? = some (.int (64 + Int.fdiv (ms.getD j 0) 64) t) ∧ vs[2 * j + 1]? = some (.int (Int.fmod (ms.getD j 0) 64) u)
  | [], _, _, j, hj => absurd hj (Nat.not_lt_zero _)
  | m :: r, _, .cons _ t (.cons _ u hv), j, hj => by
    cases j with
    | zero => exact ⟨t, u, rfl, rfl⟩
    | succ j => exact octs_at r hv j (Nat.lt_of_succ_lt_succ hj)
theorem octs_get (ms : List Int) (h6 : ms.length = 6) (hb : ∀ r ∈ ms, 0 ≤ r ∧ r < 4096) {vs : List Value} (hv : IntsAre vs (octs ms)) :
    ∀ j, j < 6 → ∃ t u, vs[2 * j]? = some (.int (64 + (((fun j => (ms.getD j 0 / 64).toNat) j : Nat) : Int)) t) ∧ vs[2 * j + 1]? = some (.int (((fun j => (ms.getD j 0 % 64).toNat) j : Nat) : Int) u) := by
  intro j hj
  obtain ⟨t, u, h1, h2⟩ := octs_at ms hv j (by omega)
  have hd := getD_bd hb j
  refine ⟨t, u, ?_, ?_⟩
  · rw [h1, Int.fdiv_eq_ediv_of_nonneg _ (by decide)]
    congr 2; dsimp only; omega
  · rw [h2, Int.fmod_eq_emod_of_nonneg _ (by decide)]
    congr 2; dsimp only; omega
theorem octs_back (ms : List Int) (h6 : ms.length = 6) (hb : ∀ r ∈ ms, 0 ≤ r ∧ r < 4096) :
    (List.range 6).map (fun j => 64 * (((fun j => (ms.getD j 0 / 64).toNat) j : Nat) : Int) + (((fun j => (ms.getD j 0 % 64).toNat) j : Nat) : Int)) = ms := by
  apply List.ext_getElem
  · simp [h6]
  · intro j h1 h2
    have hd := getD_bd hb j
    have e : ms.getD j 0 = ms[j] := by simp [List.getD, h2]
    rw [e] at hd
    simp only [List.getElem_map, List.getElem_range, e]
    omega
theorem led_two {I lo : Addr} {x e : Addr × Obj} {o' : Obj} {rest : List (Addr × Obj)} (h1 : @Ne Nat lo I) (h2 : ∀ q ∈ rest, q.1 ≠ I) : ∀ q ∈ (lo, o') :: rest, q ∈ x :: e :: (lo, o') :: rest ∧ q.1 ≠ I := by
  intro q hq
  refine ⟨.tail _ (.tail _ hq), ?_⟩
  rcases List.mem_cons.mp hq with rfl | hq
  · exact h1
  · exact h2 q hq
structure DSt where
  od : Obj
  oc : Obj
  kvs : List (Int × Value)
abbrev psD (_ : DSt) : List (Str × Value) := []
abbrev ledD (ds lt : Addr) (tv : List Value) (ktt : Nat) (Dr : Addr) (ys : List Value) (a5 a4 a3 a2 a1 : Addr) (o5 oSu oR oS : Obj) (c : DSt) : List (Addr × Obj) :=
  [(ds, c.od), (lt, listOf tv.toArray ktt), (Dr, LCg.lst ys), (a5, o5), (a4, c.oc), (a3, oSu), (a2, oR), (a1, oS)]
structure DP (w : World) (q : Nat) (rs : List Int) (i : Nat) (c : DSt) (gs : Array GenState) : Prop where
  hg : AllBare gs
  hd : c.od.IsDictOf (PySem.intKind (OpenLaw.row PySem.Challenge.rw_wc0009_01).toRowW.prog w) c.kvs
  hf : PyProof.V.FlatPairs PyData.int c.kvs (dD q rs i)
  hc : ∃ v, c.oc.data = .cell v
theorem kD_some {K : Type} {enc : K → PyData} {k k' : K} {D : List (PyData × PyData)} {C : PyData → Prop} {N : Prop} {dv : PyData} (e : k = k') (hl : PySem.Spec.lookup (enc k') D = some dv) (h : C dv) : KysD enc k D C N := by
  subst e; unfold KysD; rw [hl]; exact h
theorem kD_none {K : Type} {enc : K → PyData} {k k' : K} {D : List (PyData × PyData)} {C : PyData → Prop} {N : Prop} (e : k = k') (hl : PySem.Spec.lookup (enc k') D = none) (h : N) : KysD enc k D C N := by
  subst e; unfold KysD; rw [hl]; exact h
theorem led_same2 {I : Addr} {a b : Addr × Obj} {led : List (Addr × Obj)} (h : ∀ q ∈ led, q.1 ≠ I) : ∀ q ∈ led, q ∈ a :: b :: led ∧ q.1 ≠ I := fun q hq => ⟨.tail _ (.tail _ hq), h q hq⟩
structure AddrF (a Dr lt ds : Nat) : Prop where
  n1 : a ≠ Dr
  n2 : a + 1 ≠ Dr
  n3 : a + 1 + 1 ≠ Dr
  n4 : a + 1 + 1 + 1 ≠ Dr
  n5 : a + 1 + 1 + 1 + 1 ≠ Dr
  h1 : a + 1 + 1 + 1 + 1 < lt
  h2 : Dr < lt
  h3 : lt < ds
theorem ne8 {I ds lt : Addr} {tv : List Value} {ktt : Nat} {Dr : Addr} {ys : List Value} {a5 a4 a3 a2 a1 : Addr} {o5 oSu oR oS : Obj} {c : DSt}
    (h : (@Ne Nat ds I) ∧ (@Ne Nat lt I) ∧ (@Ne Nat Dr I) ∧ (@Ne Nat a5 I) ∧ (@Ne Nat a4 I) ∧ (@Ne Nat a3 I) ∧ (@Ne Nat a2 I) ∧ (@Ne Nat a1 I)) : ∀ p ∈ ledD ds lt tv ktt Dr ys a5 a4 a3 a2 a1 o5 oSu oR oS c, p.1 ≠ I := by
  simp only [ledD, List.forall_mem_cons]
  exact ⟨h.1, h.2.1, h.2.2.1, h.2.2.2.1, h.2.2.2.2.1, h.2.2.2.2.2.1, h.2.2.2.2.2.2.1, h.2.2.2.2.2.2.2, fun _ hh => nomatch hh⟩
theorem led_two_of {h₀ h : Heap} {L : Addr} {a b c : Addr × Obj} {x y : Addr} {o5 o4 : Obj} {r : List (Addr × Obj)} (_N : News h₀ L h (a :: b :: c :: (x, o5) :: (y, o4) :: r)) : ∃ p p' : Obj, p = o5 ∧ p' = o4 := ⟨_, _, rfl, rfl⟩
theorem led_trim2 {h₀ h : Heap} {L : Addr} {a b c d e f : Addr × Obj} {r : List (Addr × Obj)} (N : News h₀ L h (a :: b :: c :: d :: e :: f :: r)) : News h₀ L h (a :: d :: r) := by
  intro p hp
  refine N p ?_
  rcases List.mem_cons.mp hp with rfl | hp
  · exact .head _
  rcases List.mem_cons.mp hp with rfl | hp
  · exact .tail _ (.tail _ (.tail _ (.head _)))
  · exact .tail _ (.tail _ (.tail _ (.tail _ (.tail _ (.tail _ hp)))))
theorem not_long {b : Bool} (n : Nat) (h : n ≤ 20) : ¬((b && Builtin.List.listTooLong n) = true) := by
  have e : Builtin.List.listTooLong n = false := by
    revert n
    decide +kernel
  rw [e]; simp
theorem led_pick2 {h₀ h : Heap} {L : Addr} {a b c : Addr × Obj} {r : List (Addr × Obj)} (N : News h₀ L h (a :: b :: c :: r)) : News h₀ L h (c :: a :: r) := by
  intro p hp
  refine N p ?_
  rcases List.mem_cons.mp hp with rfl | hp
  · exact .tail _ (.tail _ (.head _))
  rcases List.mem_cons.mp hp with rfl | hp
  · exact .head _
  · exact .tail _ (.tail _ (.tail _ hp))
abbrev ledOcX (lo : Addr) (rest : List (Addr × Obj)) (c : OcSt) : List (Addr × Obj) := (lo, listOf c.vs.toArray c.k) :: rest
structure SgSt where
  vs : List Value
  kz : Nat
  oc : Obj
abbrev psSg (_ : SgSt) : List (Str × Value) := []
abbrev ledSg (ls ds lt : Addr) (tv : List Value) (ktt : Nat) (Dr : Addr) (ys : List Value) (a5 a4 a3 a2 a1 : Addr) (od o5 oSu oR oS : Obj) (c : SgSt) : List (Addr × Obj) :=
  [(ls, listOf c.vs.toArray c.kz), (ds, od), (lt, listOf tv.toArray ktt), (Dr, LCg.lst ys), (a5, o5), (a4, c.oc), (a3, oSu), (a2, oR), (a1, oS)]
theorem ne9 {I ls ds lt : Addr} {tv : List Value} {ktt : Nat} {Dr : Addr} {ys : List Value} {a5 a4 a3 a2 a1 : Addr} {od o5 oSu oR oS : Obj} {c : SgSt}
    (h : (@Ne Nat ls I) ∧ (@Ne Nat ds I) ∧ (@Ne Nat lt I) ∧ (@Ne Nat Dr I) ∧ (@Ne Nat a5 I) ∧ (@Ne Nat a4 I) ∧ (@Ne Nat a3 I) ∧ (@Ne Nat a2 I) ∧ (@Ne Nat a1 I)) : ∀ p ∈ ledSg ls ds lt tv ktt Dr ys a5 a4 a3 a2 a1 od o5 oSu oR oS c, p.1 ≠ I := by
  simp only [ledSg, List.forall_mem_cons]
  exact ⟨h.1, h.2.1, h.2.2.1, h.2.2.2.1, h.2.2.2.2.1, h.2.2.2.2.2.1, h.2.2.2.2.2.2.1, h.2.2.2.2.2.2.2.1, h.2.2.2.2.2.2.2.2, fun _ hh => nomatch hh⟩
structure SgP (g0 : Array GenState) (i : Nat) (c : SgSt) (gs : Array GenState) : Prop where
  hg : gs = g0
  hv : IntsAre c.vs (sgL i)
  hc : ∃ v, c.oc.data = .cell v
theorem law1 : PySem.Challenge.rw_wc0009_01.Holds := Mine.hd (by
  w_strict (
    k_fill
    intro w s₀ s₁ mg mb G Y fa o pm cd doc dV kV ho hd hcd hD hmg hg args vals as hpre hlay hrd hwl hlo
    have KX := kIn_of Y
    k_behind G ho hd hcd hD hmg hpre hlay hrd hwl hlo cd
    (all_goals try k_fold)
    (repeat' ((fail_if_success (with_reducible show wpAny _ _ (subscriptTail (PySem.Expr.List _ _) _ _ _) _ _ _)); first | (k_unfold; (try dsimp only)) | (k_end; wrow_close) | walk1 | (dsimp only; walk1) | (leave1; walk_say "STEP leave1"; try dsimp only) | fail "no step"))
    (k_dflt (refine' slice_ints (ns := [11, 1, 2, 4, 8, 16]) (s := ⟨_, _, _, _, _⟩) ?F ?N ?l ?i ?z ?_ ?s; (case F => k_asm); (case N => k_asm); (case l => exact News.isList (by k_asm) (by k_mem)); (case i => exact .cons _ _ (.cons _ _ (.cons _ _ (.cons _ _ (.cons _ _ (.cons _ _ .nil)))))); (case z => exact Nat.le_of_ble_eq_true rfl); (case s => with_unfolding_all rfl)))
    intro D' h' ws' hI' F' N' l1; (try k_lt l1)
    (repeat' ((fail_if_success (with_reducible show wpAny _ _ (binaryOp .Add (.ref _) (.ref _)) _ _ _)); first | (k_unfold; (try dsimp only)) | walk1 | (dsimp only; walk1) | fail "no step"))
    rw [pick_drop _ (by simp only [List.length_take]; omega)] at hI'
    k_dflt (refine' kmk_add_ints ?F2 ?N2 ?a2 ?b2 ?i2 hI' ?_ ?z2; (case F2 => k_asm); (case N2 => k_asm); (case a2 => kmk_list); (case b2 => kmk_list); (case i2 => assumption); (case z2 => exact Nat.le_trans (Nat.le_of_eq (List.length_append.symm.trans (take_drop _))) (by rw [sizeLine_eq]; decide)))
    intro D6 nv h' F' N' l1 hnv
    have hn6 := take_drop ‹List Int›
    generalize (List.take 6 _ ++ _) = nn at hnv hn6
    (try k_lt l1)
    (repeat' ((fail_if_success (with_reducible show wpAny _ _ (exec (PySem.Stmt.For _ _ _ _ _) _) _ _ _)); first | (k_unfold; (try dsimp only)) | (k_end; wrow_close) | walk1 | (dsimp only; walk1) | (leave1; walk_say "STEP leave1"; try dsimp only) | fail "no step"))
    rename_i oS dS D1 ws1 _ hI1 _ _ l1a _ _ _ _ _ _ _ hI8 _ Dr _ _ o1r _ oR dR _ lo _ lo1 _ F' N'
    have hq : ∃ q : Nat, 1 ≤ q ∧ q ≤ 20 ∧ Int.fmod (nn.getD 0 0) 20 + 1 = (q : Int) := size_nat nn
    obtain ⟨q, hq1, hq20, hqe⟩ := hq
    rw [show Int.fmod (nn.getD (Int.toNat 0) 0) 20 + 1 = (q : Int) from hqe] at dS
    have hrs := row_ok nn hn6
    generalize List.map (fun k' => Int.fmod k' 4096) (List.drop 1 nn) = rs at hI8 hrs
    obtain ⟨hr5, hrb⟩ := hrs
    have N2 := led_trim N'
    clear N' l1a hI1 hqe
    obtain ⟨m₀, hm₀⟩ := fr_map F'
    obtain ⟨rest, hrest⟩ := led_rest N2
    refine For_E (h₀ := s₁.heap) rfl rfl ?_
    (repeat' ((fail_if_success (with_reducible show wpAny _ _ (pyIter (Value.ref _)) _ _ _)); first | (k_unfold; (try dsimp only)) | walk1 | (dsimp only; walk1)))
    rename_i lq _ lq1 Dn us _ Fn Nn hus ln1
    rw [List.singleton_append] at hus
    refine' loopE (Led := ledOc lo Dn us rest) (ps := psRd2) (stored := []) (P := OcP (↑q :: rs) s₁.gens) (m₀ := m₀) ?_
    refine' iter_listG (Led := ledOc lo Dn us rest) (ps := psRd2) (stored := []) (P := OcP (↑q :: rs) s₁.gens) (m₀ := m₀) (c₀ := (⟨[], 0⟩ : OcSt)) ?hh ?hl ?hF ?hN ?hk ?hp ?ht ?hd
    case hh => rfl
    case hl => intro c; exact .tail _ (.head _)
    case hF => subst hm₀; k_asm
    case hN => subst hrest; exact led_pick2 Nn
    case hk => subst hm₀; kst_all
    case hp => exact ⟨rfl, .nil⟩
    case ht =>
      subst hm₀ hrest
      rintro i ⟨vs, k0⟩ v u h tk gs I o hvi ⟨hgs, hv⟩ hF hN hne
      dsimp only [ledOc, psRd2, kstB] at hv hF hN hne
      obtain ⟨n1, t1, rfl, hni⟩ := IntsAre.at hus i v hvi
      have hI1 : @Ne Nat lo I := fun e => hne _ (.head _) e
      have hI2 : @Ne Nat Dr I := fun e => hne _ (.tail _ (.tail _ (.head _))) e
      subst hgs
      (repeat' (first | (k_unfold; (try dsimp only)) | (k_end; wrow_close)  | walk1 | (dsimp only; walk1) | (leave1; walk_say "STEP leave1"; try dsimp only) | fail "no step"))
      rename_i lx _ Fx Nx lx1
      have hvl : vs.length ≤ 10 := by
        rw [hv.length, octs_len, List.length_take]
        have := (List.getElem?_eq_some_iff.mp hni).1
        simp only [List.length_cons, hr5] at this ⊢
        omega
      k_dflt (refine' kl_extend (its := vs.toArray) (l := vs ++ [_, _]) ?xF ?xN ?xb ?xe ?xne ?xU ?xd ?xz ?xy ?_; (case xF => k_asm); (case xN => k_asm); (case xb => k_mem); (case xU => k_upd); (case xe => exact rfl); (case xne => exact Nat.succ_ne_zero _); (case xd => exact not_long _ (by simp only [List.size_toArray, List.length_cons, List.length_nil]; omega)); (case xz => exact Nat.le_trans hvl (by rw [sizeLine_eq]; decide)); (case xy => simp only [List.size_toArray, List.length_cons, List.length_nil]; rw [sizeLine_eq]; omega))
      intro h' F' N'
      (repeat' (first | (k_unfold; (try dsimp only)) | (k_end; wrow_close)  | walk1 | (dsimp only; walk1) | (leave1; walk_say "STEP leave1"; try dsimp only) | fail "no step"))
      refine' JEnd.intro (c' := (⟨vs ++ [_, _], k0 + 1⟩ : OcSt)) F' N' (.tail _ (.head _)) (led_two hI1 fun q hq => hne q (.tail _ hq)) ?k1 ?k2 ⟨rfl, ?k3⟩
      case k1 => kst_all
      case k2 =>
        intro z h1 h2 _
        simp [h1]
      case k3 =>
        dsimp only
        rw [List.take_add_one, hni, octs_append]
        exact hv.append (.cons _ _ (.cons _ _ .nil))
    case hd =>
      subst hm₀ hrest
      rintro ⟨vs, k0⟩ u h tk gs ⟨hgs, hv⟩ hF hN
      dsimp only [ledOc, psRd2, kstB] at hv hF hN
      have hus6 : us.length = 6 := by rw [hus.length]; simp [hr5]
      rw [hus6, List.take_of_length_le (by simp [hr5])] at hv
      have hb6 : ∀ r ∈ (↑q :: rs : List Int), 0 ≤ r ∧ r < 4096 := by
        intro r hr
        rcases List.mem_cons.mp hr with rfl | hr
        · omega
        · exact hrb r hr
      have hvl : vs.length = 12 := by rw [hv.length, octs_len]; simp [hr5]
      have hO := octs_get (↑q :: rs) (by simp [hr5]) hb6 hv
      subst hgs
      (repeat' ((fail_if_success (with_reducible show wpAny _ _ (call (Value.ref _) _) _ _ _)); first | (k_unfold; (try dsimp only)) | (k_end; wrow_close)  | walk1 | (dsimp only; walk1) | (leave1; walk_say "STEP leave1"; try dsimp only) | fail "no step"))
      k_dflt (refine' c_read w _ mg mb _ lo vs k0 _ _ ?hab hO hvl _ _ _ _ _ _ _ _ _ _ _ _ _ _ _ ?r1 ?r2 ?r3 ?r4 ?r5 ?rK ?rd ?ru ?rR)
      case r1 => k_asm
      case r2 => k_asm
      case r3 => k_asm
      case r4 => k_asm
      case r5 => k_asm
      case rK => rfl
      case rd => decide
      case ru => decide
      case hab => exact octs_ab _ hb6
      intro lt tv ktt h3 tk3 htv F3 N3 l3
      (try k_lt l3)
      clear hF hN
      try dsimp only
      rw [octs_back _ (by simp [hr5]) hb6] at htv
      (repeat' ((fail_if_success (with_reducible show wpAny _ _ (exec (PySem.Stmt.For _ _ _ _ _) _) _ _ _)); first | (k_unfold; (try dsimp only)) | (k_end; wrow_close) | walk1 | (dsimp only; walk1) | (leave1; walk_say "STEP leave1"; try dsimp only) | fail "no step"))
      rotate_left
      · rename_i hno
        exact absurd rfl hno
      · rename_i ds _ od lod _ _ hdi hfi ld1 _ oSu FS NS dSu
        have NS2 := led_trim2 NS
        clear NS
        obtain ⟨m₁, hm₁⟩ := fr_map FS
        obtain ⟨rest, hrest⟩ := led_all NS2
        obtain ⟨o5, o4, ho5, ho4⟩ := led_two_of NS2
        subst ho5 ho4
        have hA0 : AddrF (s₁.heap.objs.size + 1) Dr lt ds := ⟨by omega, by omega, by omega, by omega, by omega, by omega, by omega, by omega⟩
        repeat (with_reducible rename _ ∧ _ => hz; clear hz)
        have hA : @Ne Nat (s₁.heap.objs.size + 1) Dr ∧ @Ne Nat (s₁.heap.objs.size + 1 + 1) Dr ∧ @Ne Nat (s₁.heap.objs.size + 1 + 1 + 1) Dr ∧ @Ne Nat (s₁.heap.objs.size + 1 + 1 + 1 + 1) Dr ∧ @Ne Nat (s₁.heap.objs.size + 1 + 1 + 1 + 1 + 1) Dr ∧ @LT.lt Nat _ (s₁.heap.objs.size + 1 + 1 + 1 + 1 + 1) lt ∧ @LT.lt Nat _ Dr lt ∧ @LT.lt Nat _ lt ds :=
          ⟨hA0.n1, hA0.n2, hA0.n3, hA0.n4, hA0.n5, hA0.h1, hA0.h2, hA0.h3⟩
        clear hA0
        refine For_C (h₀ := s₁.heap) (σ := DSt) (Led := ledD ds lt tv ktt Dr ys (s₁.heap.objs.size + 1 + 1 + 1 + 1 + 1) (s₁.heap.objs.size + 1 + 1 + 1 + 1) (s₁.heap.objs.size + 1 + 1 + 1) (s₁.heap.objs.size + 1 + 1) (s₁.heap.objs.size + 1) o5 oSu oR oS) (ps := psD) (stored := [Str.ofString "quotient"]) (P := DP w q rs) (m₀ := m₁) ?_
        (repeat' ((fail_if_success (with_reducible show wpAny _ _ (pyIter (Value.ref _)) _ _ _)); first | (k_unfold; (try dsimp only)) | walk1 | (dsimp only; walk1)))
        rename_i rgX FR NR rgK
        refine' iter_rangeC (n := q) (Led := _) (ps := psD) (stored := [Str.ofString "quotient"]) (P := DP w q rs) (c₀ := (⟨od, o4, []⟩ : DSt)) ?sh rgX ?ssm ?ssz ?sF ?sN ?sk ?sp ?st ?sd
        case sh => rfl
        case ssm => exact small_one (by omega) (by omega) (by omega) (by omega)
        case ssz => rw [rangeSize_nat]; omega
        case sF => subst hm₁; exact FR
        case sN => exact NR
        case sk => subst hm₁; kst_all
        case sp => exact ⟨by rw [hg]; exact AllBare.empty, by assumption, .nil, ⟨_, by assumption⟩⟩
        case st =>
          subst hm₁
          rintro i ⟨od, oc, kvs⟩ k t u h tk gs I o hi hk ⟨hgs, hdi, hfi, vc, hoc⟩ hF hN hne
          dsimp only [ledD, psD, kstB] at hdi hfi hoc hF hN hne
          clear FR NR rgX rgK
          have hneI := hne
          simp only [List.forall_mem_cons] at hneI
          have hneN : (@Ne Nat ds I) ∧ (@Ne Nat lt I) ∧ (@Ne Nat Dr I) ∧ (@Ne Nat (s₁.heap.objs.size + 1 + 1 + 1 + 1 + 1) I) ∧ (@Ne Nat (s₁.heap.objs.size + 1 + 1 + 1 + 1) I) ∧ (@Ne Nat (s₁.heap.objs.size + 1 + 1 + 1) I) ∧ (@Ne Nat (s₁.heap.objs.size + 1 + 1) I) ∧ (@Ne Nat (s₁.heap.objs.size + 1) I) :=
            ⟨hneI.1, hneI.2.1, hneI.2.2.1, hneI.2.2.2.1, hneI.2.2.2.2.1, hneI.2.2.2.2.2.1, hneI.2.2.2.2.2.2.1, hneI.2.2.2.2.2.2.2.1⟩
          clear hneI
          obtain ⟨p, hp⟩ : ∃ p : Nat, p = i + 1 := ⟨_, rfl⟩
          have hkp : k = (p : Int) := by omega
          subst hkp
          clear hk
          have hfd : Int.fdiv (q : Int) (p : Int) = ((q / p : Nat) : Int) := by rw [Int.fdiv_eq_ediv_of_nonneg _ (by omega)]; rfl
          have hlk := dD_look q rs i (q / p)
          refine wpAny_assign_Name ?_
          by_cases hin : q / p ∈ keysOf q i
          · rw [if_pos hin] at hlk
            k_with "compareOp NotIn int ref" => (k_dflt (refine kys_notin (knd := PySem.intKind _ _) (enc := PyData.int) PyProof.V.same_int (intKind_is _ _ _ _) (by k_tabat) (kD_some hfd hlk ?_)))
            (repeat' (first | (k_unfold; (try dsimp only)) | (k_end; wrow_close) | walk1 | (dsimp only; walk1) | (leave1; walk_say "STEP leave1"; try dsimp only) | fail "no step"))
            rename_i _ oc2 hoc2 _ _ FB NB
            subst hp
            refine' JEnd.intro (c' := (⟨od, oc2, kvs⟩ : DSt)) FB NB (.head _) (led_same (ne8 hneN)) ?a1 ?a2 ⟨hgs, hdi, ?a3, ⟨_, hoc2⟩⟩
            case a1 => kst_all
            case a2 =>
              intro z h1 h2 h3
              have h4 : z ≠ Str.ofString "quotient" := by rintro rfl; simp at h3
              simp only [h1, h3, h4, if_false, Bool.false_eq_true, List.contains_nil]
            case a3 => dsimp only; rw [dD, if_pos hin]; exact hfi
          · rw [if_neg hin] at hlk
            k_with "compareOp NotIn int ref" => (k_dflt (refine kys_notin (knd := PySem.intKind _ _) (enc := PyData.int) PyProof.V.same_int (intKind_is _ _ _ _) (by k_tabat) (kD_none hfd hlk ?_)))
            (repeat' ((fail_if_success (with_reducible show wpAny _ _ (call (Value.ref _) _) _ _ _)); first | (k_unfold; (try dsimp only)) | (k_end; wrow_close) | walk1 | (dsimp only; walk1) | (leave1; walk_say "STEP leave1"; try dsimp only) | fail "no step"))
            rename_i Dw wsw _ FB NB hIw _ _ lw1
            rw [hfd]
            k_dflt (refine' c_sum w _ mg mb _ (q / p) ?g1 ?g2 _ Dw wsw 0 rs hIw hr5 _ _ _ _ _ _ _ _ _ _ _ s₁.heap _ _ _ _ _ ?c1 ?c2 ?c3 ?c4 ?c5 ?cK ?cd ?cu ?cR)
            case c1 => k_asm
            case c2 => k_asm
            case c3 => k_asm
            case c4 => k_asm
            case c5 => k_asm
            case cK => rfl
            case cd => decide
            case cu => decide
            case g1 => exact Nat.div_pos (by omega) (by omega)
            case g2 => exact Nat.le_trans (Nat.div_le_self q p) hq20
            intro t9 h9 tk9 gs9 hg9 F9 N9
            try dsimp only
            (repeat' ((fail_if_success (with_reducible show wpAny _ _ (setItem _ _ _) _ _ _)); first | (k_unfold; (try dsimp only)) | (k_end; wrow_close) | walk1 | (dsimp only; walk1) | (leave1; walk_say "STEP leave1"; try dsimp only) | fail "no step"))
            rw [hfd]
            k_dflt (refine' setItem_K (dv := PyData.int (SS rs (q / p))) PyProof.V.same_int (intKind_is _ _ _ _) (PyProof.V.Flat.int _ _) ?eF ?eN ?eU hdi hfi ?_ ?ez; (case eF => k_asm); (case eN => k_asm); (case eU => k_updF); (case ez => exact dD_fit hi hq20))
            intro h' o' F' N' hd' hf'
            (try dsimp only at N')
            (try k_sweep)
            (repeat' (first | (k_unfold; (try dsimp only)) | (k_end; wrow_close) | walk1 | (dsimp only; walk1) | (leave1; walk_say "STEP leave1"; try dsimp only) | fail "no step"))
            subst hp
            refine' JEnd.intro (c' := (⟨o', _, PySem.stored kvs ((q / (i + 1) : Nat) : Int) (.int (SS rs (q / (i + 1))) t9)⟩ : DSt)) F' N' (.tail _ (.head _)) (led_same2 (ne8 hneN)) ?b1 ?b2 ⟨hg9 hgs, hd', ?b3, ⟨_, by assumption⟩⟩
            case b1 => kst_all
            case b2 =>
              intro z h1 h2 h3
              have h4 : z ≠ Str.ofString "quotient" := by rintro rfl; simp at h3
              simp only [h1, h3, h4, if_false, Bool.false_eq_true, List.contains_nil]
            case b3 => dsimp only; rw [dD, if_neg hin]; exact hf'
        case sd =>
          subst hm₁
          rintro ⟨od, oc, kvs⟩ u h tk gs ⟨hgs, hdi, hfi, vc, hoc⟩ hF hN
          dsimp only [ledD, psD, kstB] at hdi hfi hoc hF hN
          clear FR NR rgX rgK
          dsimp only
          (repeat' ((fail_if_success (with_reducible show wpAny _ _ (exec (PySem.Stmt.For _ _ _ _ _) _) _ _ _)); first | (k_unfold; (try dsimp only)) | (k_end; wrow_close) | walk1 | (dsimp only; walk1) | (leave1; walk_say "STEP leave1"; try dsimp only) | fail "no step"))
          rename_i ls _ _ _ lls _ o5 FG NG d5
          (try clear hF hN)
          obtain ⟨m₂, hm₂⟩ := fr_map FG
          refine For_C (h₀ := s₁.heap) (σ := SgSt) (Led := ledSg ls ds lt tv ktt Dr ys (s₁.heap.objs.size + 1 + 1 + 1 + 1 + 1) (s₁.heap.objs.size + 1 + 1 + 1 + 1) (s₁.heap.objs.size + 1 + 1 + 1) (s₁.heap.objs.size + 1 + 1) (s₁.heap.objs.size + 1) od o5 oSu oR oS) (ps := psSg) (stored := []) (P := SgP gs) (m₀ := m₂) ?_
          (repeat' ((fail_if_success (with_reducible show wpAny _ _ (pyIter (Value.ref _)) _ _ _)); first | (k_unfold; (try dsimp only)) | walk1 | (dsimp only; walk1)))
          rename_i rgX FR NR rgK
          refine' iter_rangeC (n := q - 1) (Led := _) (ps := psSg) (stored := []) (P := SgP gs) (c₀ := (⟨_, _, oc⟩ : SgSt)) ?yh rgX ?ysm ?ysz ?yF ?yN ?yk ?yp ?yt ?yd
          case yh => rfl
          case ysm => exact small_one (by omega) (by omega) (by omega) (by omega)
          case ysz => rw [show ((q : Int) + 1) = 2 + ((q - 1 : Nat) : Int) by omega, rangeSize_nat]; omega
          case yF => subst hm₂; exact FR
          case yN => exact NR
          case yk => subst hm₂; kst_all
          case yp => exact ⟨rfl, .cons _ _ (.cons _ _ .nil), ⟨_, hoc⟩⟩
          case yt =>
            subst hm₂
            rintro i ⟨vs, kz, oc⟩ k t u h tk gs I o hi hk ⟨hgs, hv, vc, hoc⟩ hF hN hne
            dsimp only [ledSg, psSg, kstB] at hv hoc hF hN hne
            clear FR NR rgX rgK
            have hneI := hne
            simp only [List.forall_mem_cons] at hneI
            have hneN : (@Ne Nat ls I) ∧ (@Ne Nat ds I) ∧ (@Ne Nat lt I) ∧ (@Ne Nat Dr I) ∧ (@Ne Nat (s₁.heap.objs.size + 1 + 1 + 1 + 1 + 1) I) ∧ (@Ne Nat (s₁.heap.objs.size + 1 + 1 + 1 + 1) I) ∧ (@Ne Nat (s₁.heap.objs.size + 1 + 1 + 1) I) ∧ (@Ne Nat (s₁.heap.objs.size + 1 + 1) I) ∧ (@Ne Nat (s₁.heap.objs.size + 1) I) :=
              ⟨hneI.1, hneI.2.1, hneI.2.2.1, hneI.2.2.2.1, hneI.2.2.2.2.1, hneI.2.2.2.2.2.1, hneI.2.2.2.2.2.2.1, hneI.2.2.2.2.2.2.2.1, hneI.2.2.2.2.2.2.2.2.1⟩
            clear hneI
            obtain ⟨p, hp⟩ : ∃ p : Nat, p = i + 2 := ⟨_, rfl⟩
            have hkp : k = (p : Int) := by omega
            subst hkp
            clear hk
            subst hgs
            have hsl := sgL_len i
            refine wpAny_assign_Name ?_
            (repeat' ((fail_if_success (with_reducible show wpAny _ _ (eval (PySem.Expr.ListComp _ _ _ _) _) _ _ _)); first | (k_unfold; (try dsimp only)) | (k_end; wrow_close) | walk1 | (dsimp only; walk1) | (leave1; walk_say "STEP leave1"; try dsimp only) | fail "no step"))
            k_dflt (refine LCt.ListComp_T (F₀ := by k_asm) (by with_unfolding_all rfl) (by decide) (by rfl) (by decide) (by rfl) ?_)
            (repeat' ((fail_if_success (with_reducible show LCt.CompSrcT _ _ _ _ _ _ _ _ _ _ _ _ _ _ _)); first | (k_unfold; (try dsimp only)) | walk1 | (dsimp only; walk1) | fail "no step"))
            rename_i rgY FY NY rgYK
            k_dflt (refine LCt.CompSrcT.range (n := i + 1) (by rfl) (by k_asm) (by k_asm) rgY (small_one (by omega) (by omega) (by omega) (by omega)) (by rw [show (p : Int) = 1 + ((i + 1 : Nat) : Int) by omega, rangeSize_nat]; omega) (by rw [PySem.sizeLine_eq]; omega) ?_)
            intro g'
            refine' kci_range (sgG (sgL i) (p : Int)) (fun k' t' I' oI' C' oC' D' m' ys' l' h' tk' E' hlo' hhi' hI' hC' hx' F' N' off' ne' mk' => ?wt) ?wf ?wg
            case wg =>
              intro l k
              unfold sgG
              split <;> simp
            case wt =>
              have off0 := off'
              (try (simp only [LCg.Off3, and_true] at off'))
              (repeat' ((fail_if_success (with_reducible show LCg.CompEnd _ _ _ _ _ _ _ _ _ _ _ _ _ _)); first | (k_unfold; (try dsimp only)) | walk1 | (dsimp only; walk1) | fail "no step"))
              · exact LCg.CompEnd.intro F' N' _ (fun _ hp => hp) off0 True.intro (kci_el (by rw [sgG, if_pos (by assumption)]) rfl rfl)
              · exact LCg.CompEnd.intro F' N' _ (fun _ hp => hp) off0 True.intro (kci_no (by rw [sgG, if_neg (by assumption)]) rfl)
            case wf =>
              unfold KPfDone
              intro ys' hys' hyl'
              obtain ⟨fs, hfs⟩ : ∃ fs, fs = (rangeKs 1 (i + 1)).foldl (sgG (sgL i) (p : Int)) [] := ⟨_, rfl⟩
              rw [← hfs] at hys'
              have hfl := hys'.length
              (repeat' ((fail_if_success (with_reducible show wpAny _ _ (eval (PySem.Expr.ListComp _ _ _ _) _) _ _ _)); first | (k_unfold; (try dsimp only)) | walk1 | (dsimp only; walk1) | fail "no step"))
              rename_i tkJ tJ hJ FJ NJ
              simp only [List.push_toArray] at NJ
              subst hp
              refine' JEnd.intro (c' := (⟨vs ++ [.int (-fs.sum) tkJ], kz + 1, _⟩ : SgSt)) FJ NJ (.tail _ (.head _)) (led_same2 (ne9 hneN)) ?u1 ?u2 ⟨rfl, ?u3, ⟨_, by assumption⟩⟩
              case u1 => kst_all
              case u2 =>
                intro z h1 h2 h3
                simp only [h1, if_false, Bool.false_eq_true, List.contains_nil]
              case u3 =>
                dsimp only
                rw [sgL, hfs]
                exact hv.append (.cons _ _ .nil)
          case yd =>
            subst hm₂
            rintro ⟨vs, kz, oc⟩ u h tk gs ⟨hgs, hv, vc, hoc⟩ hF hN
            dsimp only [ledSg, psSg, kstB] at hv hoc hF hN
            clear FR NR rgX rgK
            subst hgs
            dsimp only
            (repeat' ((fail_if_success (with_reducible show wpAny _ _ (eval (PySem.Expr.ListComp _ _ _ _) _) _ _ _)); first | (k_unfold; (try dsimp only)) | walk1 | (dsimp only; walk1) | fail "no step"))
            have hsl : (sgL (q - 1)).length = q + 1 := by rw [sgL_len]; omega
            k_dflt (refine LCg.ListComp_U (F₀ := by k_asm) (by with_unfolding_all rfl) (by decide) (by rfl) (by decide) (by rfl) ?_)
            (repeat' ((fail_if_success (with_reducible show LCg.CompSrc _ _ _ _ _ _ _ _ _ _ _ _ _ _)); first | (k_unfold; (try dsimp only)) | walk1 | (dsimp only; walk1) | fail "no step"))
            rename_i rgY FY NY rgYK
            k_dflt (refine LCg.CompSrc.range (n := q) (by rfl) (by k_asm) (by k_asm) rgY (small_one (by omega) (by omega) (by omega) (by omega)) (by rw [show (q : Int) + 1 = 1 + (q : Int) by omega, rangeSize_nat]; omega) (by rw [PySem.sizeLine_eq]; omega) ?_)
            intro g'
            refine' kcf_range (fun k => (sgL (q - 1)).getD k.toNat 0 * SS rs (q / k.toNat)) (fun k' t' I' oI' C' oC' D' m' ys' h' tk' E' hlo' hhi' hC' hx' F' N' off' ne' mk' => ?lt) ?lf
            case lt =>
              have off0 := off'
              (try (simp only [LCg.Off3, and_true] at off'))
              obtain ⟨j, hj⟩ : ∃ j : Nat, k' = (j : Int) := ⟨k'.toNat, by omega⟩
              subst hj
              have hfd : Int.fdiv (q : Int) (j : Int) = ((q / j : Nat) : Int) := by rw [Int.fdiv_eq_ediv_of_nonneg _ (by omega)]; rfl
              have hlk := dD_look q rs q (q / j)
              have hsb1 := (sg_bd q hq1 hq20 ((j : Int).toNat)).1
              have hsb2 := (sg_bd q hq1 hq20 ((j : Int).toNat)).2
              rw [if_pos (keys_mem q q j (by omega) (by omega))] at hlk
              (repeat' ((fail_if_success (with_reducible show LCg.CompEnd _ _ _ _ _ _ _ _ _ _ _ _ _ _)); (fail_if_success (with_reducible show wpAny _ _ (subscriptTail _ _ (Value.ref ds) _) _ _ _)); first | (k_unfold; (try dsimp only)) | walk1 | (dsimp only; walk1) | fail "no step"))
              k_dflt (refine kys_item (knd := PySem.intKind _ _) (enc := PyData.int) PyProof.V.same_int (intKind_is _ _ _ _) (by k_tabat) (kD_some hfd hlk ?_))
              refine KysVal.intro ?_
              intro v hv9
              obtain ⟨tv9, rfl⟩ := PyProof.V.Flat.int_inv hv9
              (repeat' ((fail_if_success (with_reducible show LCg.CompEnd _ _ _ _ _ _ _ _ _ _ _ _ _ _)); first | (k_unfold; (try dsimp only)) | walk1 | (dsimp only; walk1) | fail "no step"))
              refine LCg.CompEnd.intro F' N' _ (fun _ hp => hp) off0 ?_ ?_
              · exact True.intro
              · exact kcf_el rfl rfl rfl
            case lf =>
              unfold KPfDone
              intro ys' hys'
              obtain ⟨fs, hfs⟩ : ∃ fs, fs = (rangeKs 1 q).map (fun k => (sgL (q - 1)).getD k.toNat 0 * SS rs (q / k.toNat)) := ⟨_, rfl⟩
              rw [← hfs] at hys'
              have hfl := hys'.length
              have hlaw : fs.sum = rs.getD (Int.toNat (Int.fmod (q : Int) 5)) 0 := by
                rw [hfs, sg_law q hq1 hq20, Int.fmod_eq_emod_of_nonneg _ (by decide)]; rfl
              (repeat' ((fail_if_success (with_reducible show wpAny _ _ (eval (PySem.Expr.ListComp _ _ _ _) _) _ _ _)); first | (k_unfold; (try dsimp only)) | walk1 | (dsimp only; walk1) | fail "no step"))
              · exact absurd hlaw (by assumption)
              have hsz := kvs_fit hfi hq20
              k_dflt (refine ListComp_D (by k_asm) (by with_unfolding_all rfl) (by decide) (by rfl) (by decide) (by rfl) ?_)
              (repeat' ((fail_if_success (with_reducible show Mine.SrcD _ _ _ _ _ _ _ _ _ _ _ _ _ _)); first | (k_unfold; (try dsimp only)) | walk1 | (dsimp only; walk1) | fail "no step"))
              k_dflt (refine SrcD.intro (by rfl) (by k_asm) (by k_asm) (by k_mem) lod hdi hsz ?_)
              intro g'
              refine' kcf_rest (ks := kvs.map Prod.fst) (fun k => SS rs k.toNat) (List.length_map ..) (fun i v _ hv => hv) (fun k' t' I' oI' C' oC' D' m' ys' h' tk' E' hk' hC' hx' F' N' off' ne' mk' => ?dt) ?df
              case dt =>
                have off0 := off'
                (try (simp only [LCg.Off3, and_true] at off'))
                obtain ⟨j, hjm, hj⟩ := kvs_keys hfi k' hk'
                subst hj
                have hlk := dD_look q rs q j
                rw [if_pos hjm] at hlk
                (repeat' ((fail_if_success (with_reducible show wpAny _ _ (subscriptTail _ _ (Value.ref ds) _) _ _ _)); first | (k_unfold; (try dsimp only)) | walk1 | (dsimp only; walk1) | fail "no step"))
                k_dflt (refine kys_item (knd := PySem.intKind _ _) (enc := PyData.int) PyProof.V.same_int (intKind_is _ _ _ _) (by k_tabat) (kD_some rfl hlk ?_))
                refine KysVal.intro ?_
                intro v hv9
                obtain ⟨tv9, rfl⟩ := PyProof.V.Flat.int_inv hv9
                (repeat' ((fail_if_success (with_reducible show LCg.CompEnd _ _ _ _ _ _ _ _ _ _ _ _ _ _)); first | (k_unfold; (try dsimp only)) | walk1 | (dsimp only; walk1) | fail "no step"))
                refine LCg.CompEnd.intro F' N' _ (fun _ hp => hp) off0 ?_ ?_
                · k_mem
                · exact kcf_el rfl rfl rfl
              case df =>
                unfold KPfDone
                intro ys1 hys1
                (repeat' ((fail_if_success (with_reducible show wpAny _ _ (eval (PySem.Expr.ListComp _ _ _ _) _) _ _ _)); first | (k_unfold; (try dsimp only)) | walk1 | (dsimp only; walk1) | fail "no step"))
                k_dflt (refine ListComp_K (by k_asm) (by with_unfolding_all rfl) (by rfl) (by decide) (by rfl) (by intro a; rfl) (by intro h; rfl) ?_)
                (repeat' ((fail_if_success (with_reducible show Mine.SrcK _ _ _ _ _ _ _ _ _ _ _ _ _ _)); first | (k_unfold; (try dsimp only)) | walk1 | (dsimp only; walk1) | fail "no step"))
                k_dflt (refine SrcK.intro (fun k => SS rs k.toNat) (by rfl) (by k_asm) (by k_asm) (by k_mem) lod hdi hsz ?kt ?kf)
                case kt =>
                  intro hh k' t' I' oI' C' oC' K' oK' D' ys' h' tk' E' hk' hoK' F' N' off' offK' ne'
                  have off0 := off'
                  (try (simp only [LCg.Off3, and_true] at off'))
                  (try (simp only [LCg.Off1, and_true] at offK'))
                  obtain ⟨j, hjm, hj⟩ := kvs_keys hfi k' hk'
                  subst hj
                  have hjb := keysOf_bd q q (Nat.le_refl _) j hjm
                  (repeat' ((fail_if_success (with_reducible show wpAny _ _ (eval (PySem.Expr.ListComp _ _ _ _) _) _ _ _)); first | (k_unfold; (try dsimp only)) | walk1 | (dsimp only; walk1) | fail "no step"))
                  k_dflt (refine LCg.ListComp_U (F₀ := by k_asm) (by with_unfolding_all rfl) (by decide) (by rfl) (by decide) (by rfl) ?_)
                  (repeat' ((fail_if_success (with_reducible show LCg.CompSrc _ _ _ _ _ _ _ _ _ _ _ _ _ _)); first | (k_unfold; (try dsimp only)) | walk1 | (dsimp only; walk1) | fail "no step"))
                  rename_i rgZ FZ NZ rgZK
                  k_dflt (refine LCg.CompSrc.range (n := j) (by rfl) (by k_asm) (by k_asm) rgZ (small_one (by omega) (by omega) (by omega) (by omega)) (by rw [show (j : Int) + 1 = 1 + (j : Int) by omega, rangeSize_nat]; omega) (by rw [PySem.sizeLine_eq]; omega) ?_)
                  intro g2
                  refine' kcf_range (fun k => rs.getD (j / k.toNat % 5) 0) (fun k2 t2 I2 oI2 C2 oC2 D2 m2 ys2 h2 tk2 E2 hlo2 hhi2 hC2 hx2 F' N' off2 ne2 mk2 => ?nit) ?nif
                  case nit =>
                    have off3 := off2
                    (try (simp only [LCg.Off3, and_true] at off2))
                    have hix := row_idx j k2 hlo2
                    have hmd : j / k2.toNat % 5 < 5 := Nat.mod_lt _ (by decide)
                    (repeat' ((fail_if_success (with_reducible show LCg.CompEnd _ _ _ _ _ _ _ _ _ _ _ _ _ _)); (fail_if_success (with_reducible show wpAny _ _ (subscriptTail _ _ (Value.ref Dr) _) _ _ _)); first | (k_unfold; (try dsimp only)) | walk1 | (dsimp only; walk1) | fail "no step"))
                    rw [hix]
                    k_dflt (refine' item_list_ints (ns := rs) ?p1 hI8 ?p3 ?p4 ?p5 ?_; (case p1 => is_list); (case p3 => omega); (case p4 => rw [hr5]; omega); (case p5 => omega))
                    intro t9
                    refine LCg.CompEnd.intro F' N' _ (fun _ hp => hp) off3 ?_ ?_
                    · exact True.intro
                    · exact kcf_el rfl rfl rfl
                  case nif =>
                    unfold KPfDone
                    intro ys3 hys3
                    have hss := ss_range rs j
                    obtain ⟨fs3, hfs3⟩ : ∃ fs3, fs3 = (rangeKs 1 j).map (fun k => rs.getD (j / k.toNat % 5) 0) := ⟨_, rfl⟩
                    rw [← hfs3] at hys3 hss
                    have hfl3 := hys3.length
                    (repeat' ((fail_if_success (with_reducible show LCg.CompEnd _ _ _ _ _ _ _ _ _ _ _ _ _ _)); first | (k_unfold; (try dsimp only)) | walk1 | (dsimp only; walk1) | fail "no step"))
                    rename_i FE NE
                    refine LCg.CompEnd.intro FE NE _ (fun _ hp => .tail _ hp) off0 ?_ ?_
                    · exact True.intro
                    · exact kcf_el hss.symm rfl rfl
                case kf =>
                  intro D1 h1 tk1 ys2 hys2 F1 N1 o1
                  (try simp only [LCg.Off1, and_true] at o1)
                  (repeat' (first | (k_unfold; (try dsimp only)) | walk1 | (dsimp only; walk1) | fail "no step"))
                  exact ⟨.inl ⟨_, _, [], rfl, (by first | exact fun _ => rfl | exact raisesW_false (by wrow_none_raised)), ReadsW.bool true, (by first | rfl | wrow_post), fun _ => ⟨List.nodup_nil, fun _ hm => nomatch hm⟩⟩, .of_keep F1.keep, rfl, (by dsimp only; assumption)⟩))
end Mine
end
set_option Elab.async false
theorem PySem.Challenge.cw_wc0009_01_holds : PySem.Challenge.rw_wc0009_01.Holds := by
  exact Mine.law1
