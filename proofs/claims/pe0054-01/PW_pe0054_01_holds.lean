import PyProof.Rows.All
import Wide.All
import OpenK.AllK
import Wide.FinOn
import Lean
import PySem.Challenge.RW_pe0054_01
set_option Elab.async false

section
open PySem PySem.W PySem.W.X PyProof.Rows
set_option Elab.async false
section
namespace Mine
set_option maxRecDepth 100000
set_option maxHeartbeats 0
-- the head as a theorem, by the head of open_z: it tells the token counter
local macro_rules | `(tactic| k_head) => `(tactic| z_head)
open_top hd for PySem.Challenge.rw_pe0054_01
end Mine
end
section
namespace Mine
set_option maxRecDepth 100000
set_option maxHeartbeats 0
-- the objects that the walks speak of, as open_k's head writes them out; no proof of the head a second time
local macro_rules | `(tactic| o_head $_) => `(tactic| assumption)
theorem kTop (h : PySem.Challenge.rw_pe0054_01.row.Holds) : PySem.Challenge.rw_pe0054_01.row.Holds := by k_head
end Mine
end

end

section
open PySem PySem.W PyProof.Rows
set_option Elab.async false
namespace Mine

theorem runs_toks {M : Model} {Γ : Ctx} {p : Pos} {t : Sem Fin} {fs : List Frame} {s : Shared} {e : End} {s' : Shared}
    (h : Runs M Γ p t fs s e s') : s.toks ≤ s'.toks := by
  induction h <;> first | exact Nat.le_refl _ | assumption | omega | (simp only [Shared.setGen] at *; first | assumption | omega)

theorem wakes_toks {M : Model} {Γ : Ctx} {p : Pos} {g : Nat} {r : Resume} {s : Shared} {res : GenResult} {s' : Shared}
    (hw : Wakes M Γ p g r s res s') : s.toks ≤ s'.toks := by
  unfold Wakes at hw
  cases hg : s.gens[g]? with
  | none => simp only [hg] at hw
  | some gs =>
    simp only [hg] at hw
    cases gs with
    | fresh c =>
      cases r with
      | send v =>
        by_cases hv : v = .none
        · subst hv
          obtain ⟨e₁, s₂, h₁, hq, rfl, rfl⟩ := hw
          exact (have := runs_toks h₁; this)
        · have : res = .justStarted ∧ s' = s := by cases v <;> first | exact absurd rfl hv | exact hw
          obtain ⟨rfl, rfl⟩ := this
          exact Nat.le_refl _
      | throw x => obtain ⟨rfl, rfl⟩ := hw; exact Nat.le_refl _
    | suspended k₀ l₀ c₀ p₀ fs cl => obtain ⟨e₁, s₂, h₁, hq, rfl, rfl⟩ := hw; exact (have := runs_toks h₁; this)
    | running => obtain ⟨rfl, rfl⟩ := hw; exact Nat.le_refl _
    | finished => obtain ⟨rfl, rfl⟩ := hw; exact Nat.le_refl _

theorem wp_toks {α : Type} {M : Model} {Γ : Ctx} (t : Sem α) {Q : α → Pos → Shared → Prop} {E : Value → Pos → Shared → Prop} {p : Pos} {s : Shared} {k : Nat}
    (hk : k ≤ s.toks) (h : Sem.wp M Γ t Q E p s) : Sem.wp M Γ t (fun a p' s' => k ≤ s'.toks ∧ Q a p' s') (fun e p' s' => k ≤ s'.toks ∧ E e p' s') p s := by
  induction t generalizing p s with
  | pure x => exact ⟨hk, h⟩
  | raise v => exact ⟨hk, h⟩
  | unsupported | finish | yield | fork | await | register => exact h
  | rule _ k ih | «at» _ k ih | alloc _ k ih | loadIfAlive _ k ih | point _ k ih | ask k ih | os _ _ k ih | handled _ k ih | newGen _ k ih | stack k ih | thread k ih => exact ih _ hk h
  | fresh k ih => exact ih _ (Nat.le_succ_of_le hk) h
  | load a _ k ih | genState a k ih => exact let ⟨o, ho, h⟩ := h; ⟨o, ho, ih _ hk h⟩
  | update a _ f k ih | choose _ _ k ih => exact let ⟨ha, h⟩ := h; ⟨ha, ih _ hk h⟩
  | call c h' g l k ih =>
    obtain ⟨r, s₁, hr, h₁⟩ := h
    exact ⟨r, s₁, hr, ih _ (Nat.le_trans hk (runs_toks hr)) h₁⟩
  | resume g r l k ih =>
    obtain ⟨res, s₁, hw, h₁⟩ := h
    exact ⟨res, s₁, hw, ih _ (Nat.le_trans hk (wakes_toks hw)) h₁⟩

/-- The counter of tokens never falls: a post may take it for granted. -/
theorem wpAny_up {α : Type} {M : Model} {A : Around} {t : Sem α} {Q : α → Shared → Prop} {E : Value → Shared → Prop} {s : Shared}
    (h : wpAny M A t (fun a s' => s.toks ≤ s'.toks → Q a s') E s) : wpAny M A t Q E s := fun Γ p hΓ =>
  Sem.wp_mono M Γ t (fun _ _ _ x => x.2 x.1) (fun _ _ _ x => x.2) p s (wp_toks t (Nat.le_refl _) (h Γ p hΓ))

theorem codeAny_up {M : Model} {A : Around} {c : Code} {R : Result → Shared → Prop} {s : Shared}
    (h : codeAny M A c (fun r s' => s.toks ≤ s'.toks → R r s') s) : codeAny M A c R s := fun Γ p hc hΓ =>
  let ⟨r, s', hr, hR⟩ := h Γ p hc hΓ
  ⟨r, s', hr, hR (runs_toks hr)⟩
end Mine

end

section
open PySem PySem.W PyProof.Rows PySem.Spec
set_option Elab.async false
namespace Mine
set_option maxRecDepth 100000

section
variable {prog : Program} {w : World} {A : Around} {E : Value → Shared → Prop} {s : Shared} {env : Env} {Q : Flow → Shared → Prop}

/-- A turn's end in a while: a way out, or the next turn's state with a smaller measure. -/
def WPost (I : Nat → Shared → Prop) (n : Nat) (Q : Flow → Shared → Prop) (f : Flow) (s : Shared) : Prop :=
  match f with
  | .next => ∃ m, m < n ∧ I m s
  | .cont => ∃ m, m < n ∧ I m s
  | .brk => Q .next s
  | .ret v => Q (.ret v) s

/-- A while loop by an invariant over the whole state and a measure. -/
theorem While_inv {test : Expr} {body orelse : List Stmt} {pos : Pos} (I : Nat → Shared → Prop) (hE : PassesOwn (model prog w) A env E)
    (turn : ∀ n s, I n s → wpAny (model prog w) A (isTrue test env (eval test env)) (fun b s₂ => WhlIf b
      (wpAny (model prog w) A (execs body env) (WPost I n Q) E s₂) (wpAny (model prog w) A (execs orelse env) Q E s₂)) E s)
    (n : Nat) (h : I n s) : wpAny (model prog w) A (exec (.While test body orelse pos) env) Q E s := by
  refine whl_start 0 ?_
  have key : ∀ n s, I n s → WhlRest prog w A E env test body orelse Q 1 s := by
    intro n
    induction n using Nat.strongRecOn with
    | ind n ih =>
      intro s hs
      refine whl_turn (k := 0) hE (wpAny_mono (turn n s hs) (fun b s₂ h₂ => ?_) fun _ _ e => e)
      cases b with
      | false => exact WhlIf.no rfl (by simpa [WhlIf] using h₂)
      | true =>
        refine WhlIf.yes rfl ?_
        have h₃ : wpAny (model prog w) A (execs body env) _ E s₂ := h₂
        refine wpAny_mono h₃ (fun f s₃ h₄ => ?_) fun _ _ e => e
        cases f with
        | next => obtain ⟨m, hm, hI⟩ := h₄; exact ih m hm s₃ hI
        | cont => obtain ⟨m, hm, hI⟩ := h₄; exact ih m hm s₃ hI
        | brk => exact h₄
        | ret v => exact h₄
  exact key n s h

variable {h₀ : Heap} {x : Str} {body orelse : List Stmt}

/-- A turn's end: a way out, or the next turn's state. -/
def FPost (h₀ : Heap) (L : Addr) (wr : List Addr) (own : List (Addr × Obj)) (J : (Str → Option Value) → List (Addr × Obj) → Nat → Prop) (s : Shared) (Q : Flow → Shared → Prop) (f : Flow) (s₂ : Shared) : Prop :=
  match f with
  | .ret v => Q (.ret v) s₂
  | .brk => Q .next s₂
  | _ => ∃ h' tk m' news', s₂ = { s with heap := h', toks := tk } ∧ Fr h₀ L h' m' ∧ News h₀ L h' (own ++ news') ∧ (∀ p ∈ news', p.1 ∉ wr) ∧ J m' news' tk

theorem FPost.next {L : Addr} {wr : List Addr} {own : List (Addr × Obj)} {J : (Str → Option Value) → List (Addr × Obj) → Nat → Prop} {h' : Heap} {tk : Nat} {m' : Str → Option Value} {news' : List (Addr × Obj)} (F : Fr h₀ L h' m') (N : News h₀ L h' (own ++ news')) (off : ∀ p ∈ news', p.1 ∉ wr) (j : J m' news' tk) :
    FPost h₀ L wr own J s Q .next { s with heap := h', toks := tk } := ⟨h', tk, m', news', rfl, F, N, off, j⟩

theorem FPost.brk {L : Addr} {wr : List Addr} {own : List (Addr × Obj)} {J : (Str → Option Value) → List (Addr × Obj) → Nat → Prop} {s₂ : Shared} (h : Q .next s₂) : FPost h₀ L wr own J s Q .brk s₂ := h

def LoopM (prog : Program) (w : World) (A : Around) (h₀ : Heap) (env : Env) (x : Str) (body orelse : List Stmt) (Q : Flow → Shared → Prop) (E : Value → Shared → Prop) (it : Value) (s : Shared) : Prop :=
  ∃ (I : Addr) (fp wr : List Addr) (n : Nat) (P : Nat → Value → Prop) (St : Nat → Heap → Prop) (m : Str → Option Value) (news : List (Addr × Obj)) (J : Nat → (Str → Option Value) → List (Addr × Obj) → Nat → Prop),
    it = .ref I ∧ Walks prog w A I fp wr n P St ∧ env.locals ∉ fp ∧ (∀ b ∈ wr, h₀.get? b = none) ∧ (∀ p ∈ news, p.1 ∉ wr) ∧ St 0 s.heap ∧ Fr h₀ env.locals s.heap m ∧ News h₀ env.locals s.heap news ∧ J 0 m news s.toks ∧
    (∀ i m₁ nw t t', t ≤ t' → J i m₁ nw t → J i m₁ nw t') ∧
    (∀ i v m₁ news₁ h tk own, i < n → P i v → J i m₁ news₁ tk → s.toks ≤ tk → (∀ p ∈ news₁, p.1 ∉ wr) → (∀ p ∈ own, p.1 ∈ fp) →
      Fr h₀ env.locals h (fun y => if y = x then some v else m₁ y) → News h₀ env.locals h (own ++ news₁) →
      wpAny (model prog w) A (execs body env) (FPost h₀ env.locals wr own (J (i + 1)) s Q) E { s with heap := h, toks := tk }) ∧
    ∀ h tk m' news', Fr h₀ env.locals h m' → News h₀ env.locals h news' → (∀ p ∈ news', p.1 ∉ wr) → J n m' news' tk → s.toks ≤ tk → wpAny (model prog w) A (execs orelse env) Q E { s with heap := h, toks := tk }

theorem For_M {px pos : Pos} {iter : Expr} (hx : env.kindOf x = some .local)
    (hp : (env.scope.kind == .class || (env.scope.kind == .module && env.locals != env.globals)) = false) (hE : PassesOwn (model prog w) A env E)
    (h : wpAny (model prog w) A (eval iter env) (fun xv s₁ => wpAny (model prog w) A (pyIter xv) (fun it s₂ => LoopM prog w A h₀ env x body orelse Q E it s₂) E s₁) E s)
    (hs : ∀ x, foldedSetIterable iter env x = pure x := by intro _; rfl) :
    wpAny (model prog w) A (exec (.For (.Name x px) iter body orelse pos) env) Q E s := by
  refine wpAny_For (wpAny_mono h (fun xv s₁ h₁ => wpAny_mono h₁ (fun it s₂ h₂ => ?_) fun _ _ e => e) fun _ _ e => e) hs
  clear h h₁
  obtain ⟨I, fp, wr, n, P, St, m, news, J, rfl, W, hLf, hwr, hnw, hst, F, N, h0, mono, step, fin⟩ := h₂
  have hLw : env.locals ∉ wr := fun h => hLf (W.sub _ h)
  have old : ∀ b o, h₀.get? b = some o → b ∉ wr := fun b o e hb => by rw [hwr b hb] at e; cases e
  refine codeAny_forLoop
    (fun k s' => ∃ h' tk m' news' i, s' = { s₂ with heap := h', toks := tk } ∧ St i h' ∧ Fr h₀ env.locals h' m' ∧ News h₀ env.locals h' news' ∧ (∀ p ∈ news', p.1 ∉ wr) ∧ J i m' news' tk ∧ s₂.toks ≤ tk ∧ i ≤ n ∧ k = n + 1 - i) ?_ (n + 1)
    ⟨s₂.heap, s₂.toks, m, news, 0, rfl, hst, F, N, hnw, h0, Nat.le_refl _, Nat.zero_le _, rfl⟩
  rintro k s' ⟨h', tk, m', news', i, rfl, hst', F', N', hnw', hJ, htk, hi, rfl⟩
  have next : ∀ h₁ : Heap, (∀ b o, b ∉ wr → h'.get? b = some o → h₁.get? b = some o) → Fr h₀ env.locals h₁ m' ∧ News h₀ env.locals h₁ news' := fun h₁ hk₁ =>
    ⟨⟨F'.ns.at' fun o e => hk₁ _ o hLw e, fun b o e => hk₁ b o (old b o e) (F'.keep b o e), F'.above⟩, fun p hp => ⟨hk₁ _ _ (hnw' p hp) (N' p hp).1, (N' p hp).2⟩⟩
  by_cases hlt : i < n
  · refine wpAny_up (W.item i _ _ _ hlt hst' fun v h₁ tk₁ hP hst₁ hk₁ up₁ => ?_)
    obtain ⟨F₁, N₁⟩ := next h₁ hk₁
    have up₁' : tk ≤ tk₁ := up₁
    refine wpAny_assign_Name (wpAny_storeName_local hx F₁.ns (fun h₂ hn₂ hs₂ => ?_) hp)
    have F₂ := F₁.set hn₂ hs₂
    have Nown : News h₀ env.locals h₂ (ownOf h₀ fp h₂) := news_ownOf hLf
    have hst₂ : St (i + 1) h₂ := W.frame _ _ _ hst₁ fun b hb o e => (hs₂.2 b fun q => hLf (q ▸ hb)).trans e
    refine wpAny_up (wpAny_mono (wpAny_passesOwn hE (step i v m' news' h₂ (tk₁ + 1) (ownOf h₀ fp h₂) hlt hP (mono _ _ _ _ _ (by omega) hJ) (by omega) hnw' ownOf_sub F₂ (Nown.append (N₁.set hs₂)))) (fun f s₃ h₃ up₃ => ?_) fun _ _ e => e)
    have up₃' : tk₁ + 1 ≤ s₃.toks := up₃
    have fin3 : (∃ h' tk m' news', s₃ = { s₂ with heap := h', toks := tk } ∧ Fr h₀ env.locals h' m' ∧ News h₀ env.locals h' (ownOf h₀ fp h₂ ++ news') ∧ (∀ p ∈ news', p.1 ∉ wr) ∧ J (i + 1) m' news' tk) → s₂.toks ≤ s₃.toks →
        ∃ k, k < n + 1 - i ∧ ∃ h' tk m' news' i, s₃ = { s₂ with heap := h', toks := tk } ∧ St i h' ∧ Fr h₀ env.locals h' m' ∧ News h₀ env.locals h' news' ∧ (∀ p ∈ news', p.1 ∉ wr) ∧ J i m' news' tk ∧ s₂.toks ≤ tk ∧ i ≤ n ∧ k = n + 1 - i := by
      rintro ⟨h₃', tk₃, m₂, news₂, rfl, F₃, N₃, ha₃, hJ₃⟩ up₃
      refine ⟨n + 1 - (i + 1), by omega, h₃', tk₃, m₂, news₂, i + 1, rfl, ?_, F₃, N₃.right, ha₃, hJ₃, up₃, hlt, rfl⟩
      refine W.frame _ _ _ hst₁ fun b hb o e => ?_
      have e₂ : h₂.get? b = some o := (hs₂.2 b fun q => hLf (q ▸ hb)).trans e
      cases hn : h₀.get? b with
      | some o₀ =>
        have : o₀ = o := by have := F₂.keep b o₀ hn; rw [e₂] at this; exact (Option.some.inj this).symm
        exact this ▸ F₃.keep b o₀ hn
      | none => exact (N₃ _ (List.mem_append_left _ (mem_ownOf hb hn e₂))).1
    cases f with
    | next => exact fin3 h₃ (by omega)
    | cont => exact fin3 h₃ (by omega)
    | brk => exact h₃
    | ret v => exact h₃
  · have hin : i = n := by omega
    subst hin
    refine wpAny_up (W.done _ _ _ hst' fun h₁ tk₁ hk₁ up₁ => ?_)
    obtain ⟨F₁, N₁⟩ := next h₁ hk₁
    have up₁' : tk ≤ tk₁ := up₁
    exact wpAny_passesOwn hE (fin h₁ tk₁ m' news' F₁ N₁ hnw' (mono _ _ _ _ _ up₁' hJ) (by omega))

/-- Over a range, by ones or by any step. -/
theorem iter_rangeM {r : Addr} {a b c : Int} {t u v : Tok} {n : Nat} {m : Str → Option Value} {news : List (Addr × Obj)} (hh : A.handled = none) (hr : IsRange s.heap r a b c t u v)
    (hsm : Builtin.Range.small a b c = true) (hn : Builtin.Range.rangeSize a b c = (n : Int)) (F : Fr h₀ env.locals s.heap m) (N : News h₀ env.locals s.heap news)
    (J : Nat → (Str → Option Value) → List (Addr × Obj) → Nat → Prop) (h0 : J 0 m news s.toks) (mono : ∀ i m₁ nw t t', t ≤ t' → J i m₁ nw t → J i m₁ nw t')
    (turn : ∀ i t m₁ news₁ h tk own I, i < n → J i m₁ news₁ tk → s.toks ≤ tk → (∀ p ∈ news₁, p.1 ≠ I) → (∀ p ∈ own, p.1 = I) →
      Fr h₀ env.locals h (fun y => if y = x then some (.int (a + (i : Int) * c) t) else m₁ y) → News h₀ env.locals h (own ++ news₁) →
      wpAny (model prog w) A (execs body env) (FPost h₀ env.locals [I] own (J (i + 1)) s Q) E { s with heap := h, toks := tk })
    (fin : ∀ h tk m' news', Fr h₀ env.locals h m' → News h₀ env.locals h news' → J n m' news' tk → s.toks ≤ tk → wpAny (model prog w) A (execs orelse env) Q E { s with heap := h, toks := tk }) :
    wpAny (model prog w) A (pyIter (.ref r)) (fun it s₂ => LoopM prog w A h₀ env x body orelse Q E it s₂) E s := by
  refine wpAny_pyIter_range hr hsm ?_
  refine ⟨_, _, _, n, _, _, m, news, J, rfl, Walks.range hh s.heap.objs.size a c n, ?_, ?_, ?_, ?_, F.push _, N.grown (fun _ _ e => Heap.get?_push_of_some _ e), h0, mono, ?_, ?_⟩
  · exact fun hm => absurd F.ns.lt ((List.mem_singleton.mp hm) ▸ Nat.lt_irrefl _)
  · exact fun b hb => by rw [List.mem_singleton.mp hb]; exact next_is_new F
  · exact fun p hp hI => absurd (Heap.lt_size (N p hp).1) ((List.mem_singleton.mp hI) ▸ Nat.lt_irrefl _)
  · show IsRangeIter _ _ _ _ _
    rw [hn]; simpa using Heap.get?_push_size _ rfl
  · rintro i v m₁ news₁ h tk own hi ⟨t, rfl⟩ hJ htk hnw hown F₁ N₁
    exact turn i t m₁ news₁ h tk own s.heap.objs.size hi hJ htk (fun p hp e => hnw p hp (List.mem_singleton.mpr e)) (fun p hp => List.mem_singleton.mp (hown p hp)) F₁ N₁
  · exact fun h tk m' news' F' N' _ hJ htk => fin h tk m' news' F' N' hJ htk

/-- A turn's end where the ledger stays. -/
def LPost (h₀ : Heap) (L : Addr) (led : List (Addr × Obj)) (J : (Str → Option Value) → Nat → Prop) (s : Shared) (Q : Flow → Shared → Prop) (f : Flow) (s₂ : Shared) : Prop :=
  match f with
  | .ret v => Q (.ret v) s₂
  | .brk => Q .next s₂
  | _ => ∃ h' tk m', s₂ = { s with heap := h', toks := tk } ∧ Fr h₀ L h' m' ∧ News h₀ L h' led ∧ J m' tk
theorem LPost.next {L : Addr} {led : List (Addr × Obj)} {J : (Str → Option Value) → Nat → Prop} {h' : Heap} {tk : Nat} {m' : Str → Option Value} (F : Fr h₀ L h' m') (N : News h₀ L h' led) (j : J m' tk) : LPost h₀ L led J s Q .next { s with heap := h', toks := tk } := ⟨h', tk, m', rfl, F, N, j⟩

/-- Over a list of the ledger that the loop does not change. -/
theorem iter_listM {l : Addr} {vs : List Value} {m : Str → Option Value} {news : List (Addr × Obj)} (hh : A.handled = none) (hl : ∃ o, (l, o) ∈ news ∧ o.cls = .type "list" ∧ ∃ k, o.data = .seq vs.toArray k)
    (F : Fr h₀ env.locals s.heap m) (N : News h₀ env.locals s.heap news)
    (J : Nat → (Str → Option Value) → Nat → Prop) (h0 : J 0 m s.toks) (mono : ∀ i m₁ t t', t ≤ t' → J i m₁ t → J i m₁ t')
    (turn : ∀ i v m₁ h tk own, vs[i]? = some v → J i m₁ tk → s.toks ≤ tk →
      Fr h₀ env.locals h (fun y => if y = x then some v else m₁ y) → News h₀ env.locals h (own ++ news) →
      wpAny (model prog w) A (execs body env) (LPost h₀ env.locals (own ++ news) (J (i + 1)) s Q) E { s with heap := h, toks := tk })
    (fin : ∀ h tk m', Fr h₀ env.locals h m' → News h₀ env.locals h news → J vs.length m' tk → s.toks ≤ tk → wpAny (model prog w) A (execs orelse env) Q E { s with heap := h, toks := tk }) :
    wpAny (model prog w) A (pyIter (.ref l)) (fun it s₂ => LoopM prog w A h₀ env x body orelse Q E it s₂) E s := by
  obtain ⟨ol, hml, hcl, k, hdl⟩ := hl
  have hls : s.heap.IsList l vs.toArray := ⟨ol, (N _ hml).1, hcl, k, hdl⟩
  have hlt : l < s.heap.objs.size := Heap.lt_size (N _ hml).1
  have hne : l ≠ s.heap.objs.size := Nat.ne_of_lt hlt
  have hlL : l ≠ env.locals := (N _ hml).2.1
  refine wpAny_pyIter_list hls ?_
  refine ⟨_, _, _, vs.toArray.size, _, _, m, news, (fun i m₁ nw tk => nw = news ∧ J i m₁ tk), rfl, Walks.list hh s.heap.objs.size l hne vs.toArray, ?_, ?_, ?_, ⟨⟨_, Heap.get?_push_size _ rfl, rfl, rfl⟩, hls.at fun o e => Heap.get?_push_of_some _ e⟩, F.push _, N.grown (fun _ _ e => Heap.get?_push_of_some _ e), ⟨rfl, h0⟩,
    (fun i m₁ nw t t' ht hj => ⟨hj.1, mono i m₁ t t' ht hj.2⟩), ?_, ?_⟩
  · intro hm
    rcases List.mem_cons.mp hm with e | hm
    · exact absurd F.ns.lt (e ▸ Nat.lt_irrefl _)
    · exact hlL (List.mem_singleton.mp hm).symm
  · exact fun b hb => by rw [List.mem_singleton.mp hb]; exact next_is_new F
  · exact fun p hp hI => absurd (Heap.lt_size (N p hp).1) ((List.mem_singleton.mp hI) ▸ Nat.lt_irrefl _)
  · rintro i v m₁ news₁ h tk own hi hP ⟨rfl, hJ⟩ htk hnw hown F₁ N₁
    refine wpAny_mono (turn i v m₁ h tk own (by simpa using hP) hJ htk F₁ N₁) (fun f s₂ h₂ => ?_) fun _ _ e => e
    cases f with
    | ret v => exact h₂
    | brk => exact h₂
    | next => obtain ⟨h', tk', m', e, F', N', hj⟩ := h₂; exact ⟨h', tk', m', news₁, e, F', N', hnw, rfl, hj⟩
    | cont => obtain ⟨h', tk', m', e, F', N', hj⟩ := h₂; exact ⟨h', tk', m', news₁, e, F', N', hnw, rfl, hj⟩
  · rintro h tk m' news' F' N' _ ⟨rfl, hJ⟩ htk
    exact fin h tk m' F' N' (by simpa using hJ) htk
end
end Mine

end

section
open PySem PySem.W PyProof.Rows PySem.Spec
set_option Elab.async false
namespace Mine
set_option maxRecDepth 100000

section
variable {prog : Program} {w : World} {A : Around} {E : Value → Shared → Prop} {s : Shared} {env : Env} {Q : Flow → Shared → Prop} {h₀ : Heap} {xi xc : Str} {body orelse : List Stmt}

def PairM (prog : Program) (w : World) (A : Around) (h₀ : Heap) (env : Env) (xi xc : Str) (body orelse : List Stmt) (Q : Flow → Shared → Prop) (E : Value → Shared → Prop) (it : Value) (s : Shared) : Prop :=
  ∃ (I : Addr) (fp wr : List Addr) (n : Nat) (Pt : Nat → Array Value → Prop) (St : Nat → Heap → Prop) (Mid : Nat → Addr → Heap → Prop) (P2 : Nat → Value → Value → Prop) (m : Str → Option Value) (news : List (Addr × Obj)) (J : Nat → (Str → Option Value) → Prop),
    it = .ref I ∧ WalksT prog w A I fp wr n Pt St Mid ∧ (∀ i vals, Pt i vals → ∃ v0 v1, vals = #[v0, v1] ∧ P2 i v0 v1) ∧ env.locals ∉ fp ∧ (∀ b ∈ wr, h₀.get? b = none) ∧ (∀ p ∈ news, p.1 ∉ wr) ∧ St 0 s.heap ∧
    Fr h₀ env.locals s.heap m ∧ News h₀ env.locals s.heap news ∧ J 0 m ∧
    (∀ i v0 v1 m₁ h tk own, i < n → P2 i v0 v1 → J i m₁ →
      Fr h₀ env.locals h (fun y => if y = xc then some v1 else if y = xi then some v0 else m₁ y) → News h₀ env.locals h (own ++ news) →
      wpAny (model prog w) A (execs body env) (LPost h₀ env.locals (own ++ news) (fun m' _ => J (i + 1) m') s Q) E { s with heap := h, toks := tk }) ∧
    ∀ h tk m', Fr h₀ env.locals h m' → News h₀ env.locals h news → J n m' → wpAny (model prog w) A (execs orelse env) Q E { s with heap := h, toks := tk }

theorem For_pairM {pk pv pt pos : Pos} {x1 : Nat} {iter : Expr} (hh : A.handled = none) (hxi : env.kindOf xi = some .local) (hxc : env.kindOf xc = some .local)
    (hp : (env.scope.kind == .class || (env.scope.kind == .module && env.locals != env.globals)) = false) (hE : PassesOwn (model prog w) A env E)
    (h : wpAny (model prog w) A (eval iter env) (fun xv s₁ => wpAny (model prog w) A (pyIter xv) (fun it s₂ => PairM prog w A h₀ env xi xc body orelse Q E it s₂) E s₁) E s)
    (hs : ∀ x, foldedSetIterable iter env x = pure x := by intro _; rfl) :
    wpAny (model prog w) A (exec (.For (.Tuple [.Name xi pk, .Name xc pv] x1 pt) iter body orelse pos) env) Q E s := by
  refine wpAny_For (wpAny_mono h (fun xv s₁ h₁ => wpAny_mono h₁ (fun it s₂ h₂ => ?_) fun _ _ e => e) fun _ _ e => e) hs
  clear h h₁
  obtain ⟨I, fp, wr, n, Pt, St, Mid, P2, m, news, J, rfl, W, h2, hLf, hwr, hnw, hst, F, N, h0, step, fin⟩ := h₂
  have hLw : env.locals ∉ wr := fun h => hLf (W.sub _ h)
  have old : ∀ b o, h₀.get? b = some o → b ∉ wr := fun b o e hb => by rw [hwr b hb] at e; cases e
  refine codeAny_forLoop_any
    (fun k s' => ∃ h' tk m' i, s' = { s₂ with heap := h', toks := tk } ∧ St i h' ∧ Fr h₀ env.locals h' m' ∧ News h₀ env.locals h' news ∧ J i m' ∧ i ≤ n ∧ k = n + 1 - i) ?_ (n + 1)
    ⟨s₂.heap, s₂.toks, m, 0, rfl, hst, F, N, h0, Nat.zero_le _, rfl⟩
  rintro k s' ⟨H, tk, m', i, rfl, hst', F', N', hJ, hi, rfl⟩
  have next : ∀ h₁ : Heap, (∀ b o, b ∉ wr → H.get? b = some o → h₁.get? b = some o) → Fr h₀ env.locals h₁ m' ∧ News h₀ env.locals h₁ news := fun h₁ hk₁ =>
    ⟨⟨F'.ns.at' fun o e => hk₁ _ o hLw e, fun b o e => hk₁ b o (old b o e) (F'.keep b o e), F'.above⟩, fun p hp => ⟨hk₁ _ _ (hnw p hp) (N' p hp).1, (N' p hp).2⟩⟩
  by_cases hlt : i < n
  · refine W.item i _ _ _ hlt hst' fun T vals h₁ tk₁ hPt _ hT hMid hk₁ => ?_
    obtain ⟨v0, v1, rfl, hP2⟩ := h2 i vals hPt
    refine W.go _ x1 pt i T _ _ _ hMid fun h₂ hst₂ hk₂ => ?_
    have ht₂ : h₂.IsTuple T #[v0, v1] := hT.at fun o e => hk₂ T o (W.apart i T h₁ hMid) e
    refine wpAny_assign_Tuple hh ht₂ rfl rfl fun h₃ hx₃ => ?_
    replace hx₃ : Heap.ExtBut h₂.objs.size h₂ h₃ := hx₃
    have up₃ : ∀ b o, h₂.get? b = some o → h₃.get? b = some o := fun b o x => hx₃ b o (Nat.ne_of_lt (Heap.lt_size x)) x
    obtain ⟨F₃, N₃⟩ := next h₃ fun b o hb x => up₃ b o (hk₂ b o hb (hk₁ b o hb x))
    show wpAny _ A (do holding [v1] (assign (.Name xi pk) env v0); do holding [] (assign (.Name xc pv) env v1); pure ()) _ _ _
    refine wpAny_bind (wpAny_holding (wpAny_assign_Name (wpAny_storeName_local hxi F₃.ns (fun h₄ hn₄ hs₄ => ?_) hp)))
    replace hs₄ : Heap.SameBut env.locals h₃ h₄ := hs₄
    have F₄ := F₃.set hn₄ hs₄
    refine wpAny_bind (wpAny_holding (wpAny_assign_Name (wpAny_storeName_local hxc F₄.ns (fun h₅ hn₅ hs₅ => wpAny_pure ?_) hp)))
    replace hs₅ : Heap.SameBut env.locals h₄ h₅ := hs₅
    have F₅ := F₄.set hn₅ hs₅
    have N₅ : News h₀ env.locals h₅ news := (N₃.set hs₄).set hs₅
    have hst₅ : St (i + 1) h₅ := W.frame _ _ _ hst₂ fun b hb o e => hs₅.extBut b o (fun q => hLf (q ▸ hb)) (hs₄.extBut b o (fun q => hLf (q ▸ hb)) (up₃ b o e))
    refine wpAny_mono (wpAny_passesOwn hE (step i v0 v1 m' h₅ _ (ownOf h₀ fp h₅) hlt hP2 hJ F₅ ((news_ownOf hLf).append N₅))) (fun f s₃ h₆ => ?_) fun _ _ e => e
    have fin3 : (∃ h' tk m', s₃ = { s₂ with heap := h', toks := tk } ∧ Fr h₀ env.locals h' m' ∧ News h₀ env.locals h' (ownOf h₀ fp h₅ ++ news) ∧ J (i + 1) m') →
        ∃ k, k < n + 1 - i ∧ ∃ h' tk m' i, s₃ = { s₂ with heap := h', toks := tk } ∧ St i h' ∧ Fr h₀ env.locals h' m' ∧ News h₀ env.locals h' news ∧ J i m' ∧ i ≤ n ∧ k = n + 1 - i := by
      rintro ⟨h₆', tk₆, m₂, rfl, F₆, N₆, hJ₆⟩
      refine ⟨n + 1 - (i + 1), by omega, h₆', tk₆, m₂, i + 1, rfl, ?_, F₆, N₆.right, hJ₆, hlt, rfl⟩
      refine W.frame _ _ _ hst₅ fun b hb o e => ?_
      cases hn : h₀.get? b with
      | some o₀ =>
        have : o₀ = o := by have q := F₅.keep b o₀ hn; rw [e] at q; exact (Option.some.inj q).symm
        exact this ▸ F₆.keep b o₀ hn
      | none => exact (N₆ _ (List.mem_append_left _ (mem_ownOf hb hn e))).1
    cases f with
    | ret v => exact h₆
    | brk => exact h₆
    | next => exact fin3 h₆
    | cont => exact fin3 h₆
  · have hin : i = n := by omega
    subst hin
    refine W.done _ _ _ hst' fun h₁ tk₁ hk₁ => ?_
    obtain ⟨F₁, N₁⟩ := next h₁ hk₁
    exact wpAny_passesOwn hE (fin h₁ tk₁ m' F₁ N₁ hJ)

/-- enumerate of a list of the ledger, which the loop leaves as it is. -/
theorem enum_callM {l : Addr} {vs : List Value} {m : Str → Option Value} {news : List (Addr × Obj)} (hh : A.handled = none) (hl : ∃ o, (l, o) ∈ news ∧ o.cls = .type "list" ∧ ∃ k, o.data = .seq vs.toArray k)
    (F : Fr h₀ env.locals s.heap m) (N : News h₀ env.locals s.heap news) (J : Nat → (Str → Option Value) → Prop) (h0 : J 0 m)
    (turn : ∀ i v t m₁ h tk own, vs[i]? = some v → J i m₁ →
      Fr h₀ env.locals h (fun y => if y = xc then some v else if y = xi then some (.int (i : Nat) t) else m₁ y) → News h₀ env.locals h (own ++ news) →
      wpAny (model prog w) A (execs body env) (LPost h₀ env.locals (own ++ news) (fun m' _ => J (i + 1) m') s Q) E { s with heap := h, toks := tk })
    (fin : ∀ h tk m', Fr h₀ env.locals h m' → News h₀ env.locals h news → J vs.length m' → wpAny (model prog w) A (execs orelse env) Q E { s with heap := h, toks := tk }) :
    wpAny (model prog w) A (call (.type "enumerate") [.ref l]) (fun xv s₁ => wpAny (model prog w) A (pyIter xv) (fun it s₂ => PairM prog w A h₀ env xi xc body orelse Q E it s₂) E s₁) E s := by
  obtain ⟨ol, hml, hcl, k, hdl⟩ := hl
  have hls : s.heap.IsList l vs.toArray := ⟨ol, (N _ hml).1, hcl, k, hdl⟩
  have hlt : l < s.heap.objs.size := Heap.lt_size (N _ hml).1
  have hLs : env.locals < s.heap.objs.size := F.ns.lt
  have hlL : l ≠ env.locals := (N _ hml).2.1
  have hab : h₀.objs.size ≤ env.locals := F.above
  refine call_enumerate_list hls fun h' he hit hsz hk => ?_
  have F' : Fr h₀ env.locals h' m := ⟨F.ns.keeps hk, fun b o e => hk b o (F.keep b o e), F.above⟩
  have N' : News h₀ env.locals h' news := fun p hp => ⟨hk _ _ (N p hp).1, (N p hp).2⟩
  have W := WalksT.enumerate (prog := prog) (w := w) hh (s.heap.objs.size + 1) s.heap.objs.size l (Nat.succ_ne_self _) (Nat.ne_of_lt (Nat.lt_succ_of_lt hlt)) (Nat.ne_of_lt hlt) vs.toArray
  refine W.self 0 _ _ _ ⟨⟨_, he⟩, hit, hls.at fun o e => hk l o e⟩ ?_
  refine ⟨_, _, _, _, _, _, _, (fun i v0 v1 => ∃ t, v0 = .int (i : Nat) t ∧ vs[i]? = some v1), m, news, J, rfl, W, ?_, ?_, ?_, ?_, ⟨⟨_, he⟩, hit, hls.at fun o e => hk l o e⟩, F', N', h0, ?_, ?_⟩
  · rintro i vals ⟨t, x, hx, rfl⟩
    exact ⟨_, _, rfl, t, rfl, by simpa using hx⟩
  · intro hm
    rcases List.mem_cons.mp hm with e | hm
    · exact Nat.ne_of_lt (Nat.lt_succ_of_lt hLs) e
    · rcases List.mem_cons.mp hm with e | hm
      · exact Nat.ne_of_lt hLs e
      · exact hlL (List.mem_singleton.mp hm).symm
  · intro b hb
    refine Heap.get?_none_of_le ?_
    rcases List.mem_cons.mp hb with e | hb
    · rw [e]; exact Nat.le_trans hab (Nat.le_of_lt (Nat.lt_succ_of_lt hLs))
    · rw [List.mem_singleton.mp hb]; exact Nat.le_trans hab (Nat.le_of_lt hLs)
  · intro p hp hb
    have hp1 : p.1 < s.heap.objs.size := Heap.lt_size (N p hp).1
    rcases List.mem_cons.mp hb with e | hb
    · exact Nat.ne_of_lt (Nat.lt_succ_of_lt hp1) e
    · exact Nat.ne_of_lt hp1 (List.mem_singleton.mp hb)
  · rintro i v0 v1 m₁ h tk own hi ⟨t, rfl, hx⟩ hJ F₁ N₁
    exact turn i v1 t m₁ h tk own hx hJ F₁ N₁
  · intro h tk m' F₁ N₁ hJ
    exact fin h tk m' F₁ N₁ (by simpa using hJ)
end
end Mine

end

section
open PySem PySem.W PyProof.Rows PySem.Spec
set_option Elab.async false
namespace Mine
set_option maxRecDepth 100000
open LCg (NsObj Off3 Off1 lst SrcAt)

section
variable {prog : Program} {w : World} {A : Around} {E : Value → Shared → Prop} {s : Shared} {h₀ : Heap} {L : Addr} {m : Str → Option Value} {env : Env}

/-- What a turn of a comprehension leaves: the element, the made objects, the token counter. -/
def CEnd (h₀ : Heap) (L : Addr) (m : Str → Option Value) (s₁ : Shared) (I : Addr) (oI : Obj) (C : Addr) (oC : Obj) (D : Addr) (oD : Obj) (S : List (Addr × Obj) → Prop) (rest : Value → List (Addr × Obj) → Nat → Prop) (y : Value) (s₂ : Shared) : Prop :=
  ∃ h' tk news', s₂ = { s₁ with heap := h', toks := tk } ∧ Fr h₀ L h' m ∧ News h₀ L h' ((I, oI) :: (C, oC) :: (D, oD) :: news') ∧ Off3 I C D news' ∧ S news' ∧ rest y news' tk

/-- The turns, by an invariant J of the turn's number, the elements so far, the ledger and the token counter. -/
structure CTurns (prog : Program) (w : World) (A : Around) (h₀ : Heap) (L : Addr) (m : Str → Option Value) (env : Env) (elt : Expr) (x : Str) (scope : Scope) (cl : List (Str × Addr)) (s : Shared) (S : List (Addr × Obj) → Prop) (P : Nat → Value → Prop)
    (n : Nat) (J : Nat → List Value → List (Addr × Obj) → Nat → Prop) : Prop where
  mono : ∀ i ys nw t t', t ≤ t' → J i ys nw t → J i ys nw t'
  turn : ∀ i v ys news I oI C oC D m₂ h tk (E' : Value → Shared → Prop), i < n → P i v → J i ys news tk → s.toks ≤ tk → ys.length = i → NsObj oC m₂ → m₂ x = some v → Fr h₀ L h m → News h₀ L h ((I, oI) :: (C, oC) :: (D, lst ys) :: news) → Off3 I C D news →
    ((@Ne Nat I C) ∧ (@Ne Nat I D) ∧ (@Ne Nat C D)) → S news →
    wpAny (model prog w) A (eval elt (compEnvC scope cl C env)) (CEnd h₀ L m { s with heap := h, toks := tk } I oI C oC D (lst ys) S (fun y news' tk' => tk ≤ tk' → J (i + 1) (ys ++ [y]) news' tk')) E' { s with heap := h, toks := tk }

theorem block_M {elt iter : Expr} {x : Str} {px : Pos} {scope : Scope} {cl : List (Str × Addr)} {pos : Pos} {s₂ : Shared} {I : Addr} {fp : List Addr} {n : Nat} {P : Nat → Value → Prop} {St : Nat → Heap → Prop} {S : List (Addr × Obj) → Prop} {news : List (Addr × Obj)}
    {J : Nat → List Value → List (Addr × Obj) → Nat → Prop} {RR : Value → Addr → Result → Shared → Prop}
    (W : Walks prog w A I fp [I] n P St) (hsz : n ≤ sizeLine) (hIo : ∀ i h, St i h → ∃ o, h.get? I = some o)
    (hSt : ∀ i h h' o nw, St i h → h.get? I = some o → h'.get? I = some o → (∀ b o, h₀.get? b = some o → h'.get? b = some o) → News h₀ L h' nw → S nw → St i h')
    (hcell : ∀ y ∈ scope.names, y.2 ≠ .cell) (hkind : scope.kind = .function) (hx : scope.names.lookup x = some .local) (hst : St 0 s₂.heap) (hfp : ∀ b ∈ fp, b < s₂.heap.objs.size)
    (F : Fr h₀ L s₂.heap m) (N : News h₀ L s₂.heap news) (hIL : L ≠ I) (hI₀ : h₀.get? I = none) (off : ∀ p ∈ news, p.1 ≠ I) (hS : S news)
    (R : CTurns prog w A h₀ L m env elt x scope cl s₂ S P n J) (hJ0 : J 0 [] news s₂.toks)
    (hRR : ∀ D C h tk m' ys news', Fr h₀ L h m → News h₀ L h ((D, lst ys) :: news') → Off1 D news' → h.Ns C m' → h₀.get? C = none → h₀.get? D = none → C ≠ L → D ≠ L → C ≠ D → (∀ p ∈ news', p.1 ≠ C) → ys.length = n → s₂.toks ≤ tk → J n ys news' tk → RR (.ref D) C (.ok .next) { s₂ with heap := h, toks := tk }) :
    wpAny (model prog w) A (newList []) (fun acc s₃ => wpAny (model prog w) A (newFunctionEnv scope env.globals cl [] env.qual none .none (some env)) (fun cenv s₄ =>
      codeAny (model prog w) A (.compStart (.ListComp elt [⟨.Name x px, iter, [], 0⟩] scope pos) 0 (.ref I) acc { cenv with scope := relabel scope env }) (RR acc cenv.locals) s₄) E s₃) E s₂ := by
  refine wpAny_newObj_type (wpAny_newFunctionEnv hcell (by intro y hy; simp at hy) (fun h₁ hns₁ hsb₁ => ?_) hkind)
  dsimp only at hns₁ hsb₁ ⊢
  generalize hH2 : s₂.heap.push { cls := .type "list", dict := none, data := .seq ([] : List Value).toArray } = H2 at hns₁ hsb₁ ⊢
  have hC : H2.objs.size = s₂.heap.objs.size + 1 := by rw [← hH2, Heap.size_push]
  have hDC : s₂.heap.objs.size ≠ H2.objs.size := by rw [hC]; exact Nat.ne_of_lt (Nat.lt_succ_self _)
  have below : ∀ b, b < s₂.heap.objs.size → b ≠ H2.objs.size ∧ b ≠ s₂.heap.objs.size := fun b hb => ⟨by rw [hC]; exact Nat.ne_of_lt (Nat.lt_succ_of_lt hb), Nat.ne_of_lt hb⟩
  have hDf : s₂.heap.objs.size ∉ fp := fun hm => Nat.lt_irrefl _ (hfp _ hm)
  have hCf : H2.objs.size ∉ fp := fun hm => by have := hfp _ hm; rw [hC] at this; exact Nat.lt_irrefl _ (Nat.lt_of_succ_lt this)
  have hIf : I ∈ fp := W.sub I (List.mem_singleton.mpr rfl)
  have hIlt : I < s₂.heap.objs.size := hfp I hIf
  have old : ∀ b o, s₂.heap.get? b = some o → h₁.get? b = some o := fun b o e => hsb₁.extBut b o (below b (Heap.lt_size e)).1 (Heap.get?_push_of_some _ (hH2 ▸ Heap.get?_push_of_some _ e))
  have hacc : h₁.get? s₂.heap.objs.size = some (lst []) := hsb₁.extBut _ _ hDC (Heap.get?_push_of_some _ (hH2 ▸ Heap.get?_push_size _ rfl))
  have hst₁ : St 0 h₁ := W.frame _ _ _ hst fun b _ o e => old b o e
  have fresh : ∀ a, s₂.heap.objs.size ≤ a → s₂.heap.get? a = none := fun a ha => by
    cases e : s₂.heap.get? a with
    | none => rfl
    | some o' => exact absurd (Heap.lt_size e) (Nat.not_lt.mpr ha)
  have fresh₀ : ∀ a, s₂.heap.objs.size ≤ a → h₀.get? a = none := fun a ha => by
    cases e : h₀.get? a with
    | none => rfl
    | some o' => have := F.keep a o' e; rw [fresh a ha] at this; cases this
  have hD₀ : h₀.get? s₂.heap.objs.size = none := fresh₀ _ (Nat.le_refl _)
  have hC₀ : h₀.get? H2.objs.size = none := fresh₀ _ (by rw [hC]; exact Nat.le_succ _)
  have hLlt : L < s₂.heap.objs.size := F.ns.lt
  have hDL : s₂.heap.objs.size ≠ L := Ne.symm (below L hLlt).2
  have hCL : H2.objs.size ≠ L := Ne.symm (below L hLlt).1
  have hCI : I ≠ H2.objs.size := (below I hIlt).1
  have hDI : I ≠ s₂.heap.objs.size := (below I hIlt).2
  have off₀ : Off3 I H2.objs.size s₂.heap.objs.size news := Off3.of fun p hp => ⟨off p hp, (below _ (Heap.lt_size (N p hp).1)).1, (below _ (Heap.lt_size (N p hp).1)).2⟩
  have loop : ∀ s₃ : Shared, s₃ = { s₂ with heap := h₁, toks := s₂.toks + ([] : List (Str × Value)).length } →
      codeAny (model prog w) A (.compLoop (.ListComp elt [⟨.Name x px, iter, [], 0⟩] scope pos) 0 (.ref I) (.ref s₂.heap.objs.size) (compEnvC scope cl H2.objs.size env))
        (RR (.ref s₂.heap.objs.size) H2.objs.size) s₃ := by
    rintro s₃ rfl
    refine codeAny_compLoop_tests
      (fun k s' => ∃ h' tk i ys m' news', s' = { s₂ with heap := h', toks := tk } ∧ i ≤ n ∧ k = n + 1 - i ∧ ys.length = i ∧ St i h' ∧ Fr h₀ L h' m ∧ h'.Ns H2.objs.size m' ∧ News h₀ L h' ((s₂.heap.objs.size, lst ys) :: news') ∧
        Off3 I H2.objs.size s₂.heap.objs.size news' ∧ S news' ∧ s₂.toks ≤ tk ∧ J i ys news' tk) ?_ (n + 1)
      ⟨h₁, _, 0, [], _, news, rfl, Nat.zero_le _, rfl, rfl, hst₁, F.keeps old, hns₁, fun p hp => ?_, off₀, hS, Nat.le_refl _, hJ0⟩
    · rintro k s' ⟨h', tk, i, ys, m', news', rfl, hi, rfl, hyl, hst', F', hn', N', off', hS', htk, hJ⟩
      by_cases hlt : i < n
      · refine wpAny_up (W.item i _ _ _ hlt hst' fun v h₂ tk₂ hPv hst₂ hk₂ up₂ => ?_)
        have up₂' : tk ≤ tk₂ := up₂
        refine wpAny_assign_Name (wpAny_storeName_local (lookup_relabel_local hx) (hn'.at' fun o e => hk₂ _ o (by simpa using Ne.symm hCI) e) (fun h₃ hn₃ hs₃ => ?_) (by simp [compEnvC, relabel, hkind]))
        refine wpAny_tests_nil ?_
        simp only [if_true]
        have hst₃ : St (i + 1) h₃ := W.frame _ _ _ hst₂ fun b hb o e => hs₃.extBut b o (fun q => hCf (by have q' : b = H2.objs.size := q; rw [← q']; exact hb)) e
        obtain ⟨oI, heI⟩ := hIo _ _ hst₃
        obtain ⟨oC, heC, hoC⟩ := LCg.ns_obj hn₃
        have F₃ : Fr h₀ L h₃ m := (LCg.fr_but F' hk₂ hIL hI₀).change hs₃ hCL hC₀
        have off3 := off'.mem
        have N₂ : News h₀ L h₂ ((s₂.heap.objs.size, lst ys) :: news') := LCg.news_but N' hk₂ fun p hp => by
          rcases List.mem_cons.mp hp with rfl | hp
          · exact Ne.symm hDI
          · exact (off3 p hp).1
        have N₃ : News h₀ L h₃ ((I, oI) :: (H2.objs.size, oC) :: (s₂.heap.objs.size, lst ys) :: news') := fun p hp => by
          rcases List.mem_cons.mp hp with rfl | hp
          · exact ⟨heI, Ne.symm hIL, hI₀⟩
          · rcases List.mem_cons.mp hp with rfl | hp
            · exact ⟨heC, hCL, hC₀⟩
            · have z := N₂ p hp
              refine ⟨hs₃.extBut _ _ ?_ z.1, z.2⟩
              rcases List.mem_cons.mp hp with rfl | hp
              · exact hDC
              · exact (off3 p hp).2.1
        refine wpAny_up (wpAny_mono (R.turn i v ys news' I oI H2.objs.size oC s₂.heap.objs.size _ h₃ (tk₂ + 1) _ hlt hPv (R.mono _ _ _ _ _ (by omega) hJ) (by omega) hyl hoC (by simp) F₃ N₃ off' ⟨hCI, hDI, Ne.symm hDC⟩ hS') (fun y s₄ h₄ up₄ => ?_) fun _ _ e => e)
        obtain ⟨h₄, tk₄, news₄, rfl, F₄, N₄, off₄, hS₄, R₄⟩ := h₄
        have up₄' : tk₂ + 1 ≤ tk₄ := up₄
        have zI := (N₄ (I, oI) List.mem_cons_self).1
        have zC := (N₄ (H2.objs.size, oC) (List.mem_cons_of_mem _ List.mem_cons_self)).1
        have zD := (N₄ (s₂.heap.objs.size, lst ys) (List.mem_cons_of_mem _ (List.mem_cons_of_mem _ List.mem_cons_self))).1
        have N₄' : News h₀ L h₄ news₄ := fun p hp => N₄ p (List.mem_cons_of_mem _ (List.mem_cons_of_mem _ (List.mem_cons_of_mem _ hp)))
        have hst₄ : St (i + 1) h₄ := hSt _ _ _ _ _ hst₃ heI zI F₄.keep N₄' hS₄
        refine append_at (hsz := by show ys.toArray.size ≤ sizeLine; rw [List.size_toArray, hyl]; exact Nat.le_trans hi hsz) zD fun h₅ hs₅ hD₅ => ?_
        have off4 := off₄.mem
        refine ⟨n + 1 - (i + 1), by omega, h₅, tk₄, i + 1, ys ++ [y], _, news₄, rfl, hlt, rfl, by rw [List.length_append, List.length_singleton, hyl], W.frame _ _ _ hst₄ fun b hb o e => hs₅.extBut b o (fun q => hDf (q ▸ hb)) e, F₄.change hs₅ hDL hD₀,
          (hoC.ns zC).sameBut hs₅ (Ne.symm hDC), fun p hp => ?_, off₄, hS₄, by omega, R₄ up₄'⟩
        rcases List.mem_cons.mp hp with rfl | hp
        · exact ⟨hD₅.trans (congrArg some (LCg.lst_snoc ys y)), hDL, hD₀⟩
        · exact ⟨hs₅.extBut _ _ (off4 p hp).2.2 (N₄' p hp).1, (N₄' p hp).2⟩
      · obtain rfl : i = n := Nat.le_antisymm hi (Nat.not_lt.mp hlt)
        refine wpAny_up (W.done _ _ _ hst' fun h₂ tk₂ hk₂ up₂ => ?_)
        have up₂' : tk ≤ tk₂ := up₂
        have off3 := off'.mem
        exact hRR _ _ h₂ tk₂ _ ys news' (LCg.fr_but F' hk₂ hIL hI₀) (LCg.news_but N' hk₂ fun p hp => by
          rcases List.mem_cons.mp hp with rfl | hp
          · exact Ne.symm hDI
          · exact (off3 p hp).1) off'.one (hn'.at' fun o e => hk₂ _ o (by simpa using Ne.symm hCI) e) hC₀ hD₀ hCL hDL (Ne.symm hDC) (fun p hp => (off3 p hp).2.1) hyl (by omega) (R.mono _ _ _ _ _ up₂' hJ)
    · rcases List.mem_cons.mp hp with rfl | hp
      · exact ⟨hacc, hDL, hD₀⟩
      · exact ⟨old _ _ (N p hp).1, (N p hp).2⟩
  exact codeAny_compStart_list (loop _ rfl) (W.self 0 _ _ _ hst₁ (loop _ rfl))

/-- Where the iterable has been evaluated: a list of the ledger, or a range by ones. -/
inductive CSrc (prog : Program) (w : World) (A : Around) (h₀ : Heap) (L : Addr) (m : Str → Option Value) (env : Env) (elt : Expr) (x : Str) (scope : Scope) (cl : List (Str × Addr)) (Fin : Nat → Shared → List Value → List (Addr × Obj) → Nat → Prop) (xv : Value) (s₁ : Shared) : Prop
  | list (ax : Addr) (o : Obj) (its : Array Value) (k : Nat) (news : List (Addr × Obj)) (J : Nat → List Value → List (Addr × Obj) → Nat → Prop) : xv = .ref ax → A.handled = none → Fr h₀ L s₁.heap m → News h₀ L s₁.heap news → (ax, o) ∈ news → o.cls = .type "list" → o.data = .seq its k → its.size ≤ sizeLine →
      J 0 [] news s₁.toks →
      (∀ g, CTurns prog w A h₀ L m env elt x scope cl { s₁ with heap := g } (fun nw => (ax, o) ∈ nw) (fun i v => its[i]? = some v) its.size J ∧ ∀ ys nw tk, ys.length = its.size → s₁.toks ≤ tk → J its.size ys nw tk → Fin its.size { s₁ with heap := g } ys nw tk) → CSrc prog w A h₀ L m env elt x scope cl Fin xv s₁
  | range (r : Addr) (a b : Int) (t u v : Tok) (n : Nat) (news : List (Addr × Obj)) (J : Nat → List Value → List (Addr × Obj) → Nat → Prop) : xv = .ref r → A.handled = none → Fr h₀ L s₁.heap m → News h₀ L s₁.heap news → IsRange s₁.heap r a b 1 t u v → Builtin.Range.small a b 1 = true → Builtin.Range.rangeSize a b 1 = ((n : Nat) : Int) → n ≤ sizeLine →
      J 0 [] news s₁.toks →
      (∀ g, CTurns prog w A h₀ L m env elt x scope cl { s₁ with heap := g } (fun _ => True) (fun i v => ∃ t, v = .int (a + (i : Int)) t) n J ∧ ∀ ys nw tk, ys.length = n → s₁.toks ≤ tk → J n ys nw tk → Fin n { s₁ with heap := g } ys nw tk) → CSrc prog w A h₀ L m env elt x scope cl Fin xv s₁

def FinE (h₀ : Heap) (L : Addr) (m : Str → Option Value) (Q : Value → Shared → Prop) (_n : Nat) (s : Shared) (ys : List Value) (news : List (Addr × Obj)) (tk : Nat) : Prop :=
  ∀ D h, Fr h₀ L h m → News h₀ L h ((D, lst ys) :: news) → Off1 D news → Q (.ref D) { s with heap := h, toks := tk }
def FinA (h₀ : Heap) (L : Addr) (m : Str → Option Value) (y : Str) (Q : Flow → Shared → Prop) (_n : Nat) (s : Shared) (ys : List Value) (news : List (Addr × Obj)) (tk : Nat) : Prop :=
  ∀ D h tk', tk ≤ tk' → Fr h₀ L h (fun z => if z = y then some (.ref D) else m z) → News h₀ L h ((D, lst ys) :: news) → Off1 D news → Q .next { s with heap := h, toks := tk' }

theorem SrcAt_list {ax : Addr} {o : Obj} {its : Array Value} {k : Nat} {I : Addr} (hc : o.cls = .type "list") (hd : o.data = .seq its k) : ∀ i (h h' : Heap) (oI : Obj) (nw : List (Addr × Obj)), (h.IsListIter I ax i ∧ h.IsList ax its) → h.get? I = some oI → h'.get? I = some oI → (∀ b o, h₀.get? b = some o → h'.get? b = some o) → News h₀ L h' nw → (ax, o) ∈ nw → (h'.IsListIter I ax i ∧ h'.IsList ax its) :=
  fun _ _ _ oI _ st e e' _ N S => ⟨by obtain ⟨o', q, r⟩ := st.1; rw [e] at q; cases q; exact ⟨oI, e', r⟩, ⟨o, (N _ S).1, hc, k, hd⟩⟩

theorem ListComp_M {elt iter : Expr} {x : Str} {px : Pos} {scope : Scope} {cl : List (Str × Addr)} {pos : Pos} {Q : Value → Shared → Prop}
    (hclos : closureFor scope env = pure cl) (hcell : ∀ y ∈ scope.names, y.2 ≠ .cell) (hkind : scope.kind = .function)
    (hnames : ∀ y ∈ scope.names, y.2 = .local → scope.names.lookup y.1 = some .local) (hx : scope.names.lookup x = some .local)
    (h : wpAny (model prog w) A (eval iter env) (CSrc prog w A h₀ L m env elt x scope cl (FinE h₀ L m Q)) E s)
    (hs : ∀ x, foldedSetIterable iter env x = pure x := by intro _; rfl) :
    wpAny (model prog w) A (eval (.ListComp elt [⟨.Name x px, iter, [], 0⟩] scope pos) env) Q E s := by
  rw [eval_ListComp]
  refine wpAny_comprehension_free (use := none) rfl hs hclos hkind hnames (wpAny_mono h (fun xv s₁ h₁ => ?_) fun _ _ e => e)
  cases h₁ with
  | list ax o its k news J e hh F N hm hc hd hsz hJ0 R =>
    subst e
    have hl : s₁.heap.IsList ax its := ⟨o, (N _ hm).1, hc, k, hd⟩
    have hlt : ax < s₁.heap.objs.size := Heap.lt_size (N _ hm).1
    refine wpAny_pyIter_list hl ?_
    have up : ∀ b o, s₁.heap.get? b = some o → (s₁.heap.push { cls := .type "list_iterator", data := .fields #[.ref ax, .int 0 0] }).get? b = some o := fun b o e => Heap.get?_push_of_some _ e
    refine block_M (Walks.list hh s₁.heap.objs.size ax (Nat.ne_of_lt hlt) its) hsz (fun i h st => by obtain ⟨o, e, _⟩ := st.1; exact ⟨o, e⟩) (SrcAt_list hc hd) hcell hkind hx ⟨⟨_, Heap.get?_push_size _ rfl, rfl, rfl⟩, hl.push _⟩ (fun b hb => ?_)
      (F.keeps up) (N.grown up) (Nat.ne_of_lt F.ns.lt) (next_is_new F) (fun p hp => Nat.ne_of_lt (Heap.lt_size (N p hp).1)) hm (R _).1 hJ0 ?_
    · show b < (s₁.heap.push _).objs.size
      rw [Heap.size_push]
      rcases List.mem_cons.mp hb with rfl | hb
      · exact Nat.lt_succ_self _
      · rw [List.mem_singleton.mp hb]; exact Nat.lt_succ_of_lt hlt
    · intro D C h tk m' ys news' F' N' o1 hn hC₀ hD₀ hCL hDL hCD offC hyl htk fin
      refine ⟨m', hn, fun h'' hs'' => (R s₁.heap).2 ys news' tk hyl htk fin D h'' (F'.change hs'' hCL hC₀) (fun p hp => ?_) o1⟩
      refine ⟨hs''.extBut _ _ ?_ (N' p hp).1, (N' p hp).2⟩
      rcases List.mem_cons.mp hp with rfl | hp
      · exact Ne.symm hCD
      · exact offC p hp
  | range r a b t u v n news J e hh F N hr hsm hn hsz hJ0 R =>
    subst e
    refine wpAny_pyIter_range hr hsm ?_
    refine block_M (LCg.range_walks hh a n) hsz (fun i h st => ⟨_, st⟩) LCg.range_st hcell hkind hx (by show IsRangeIter _ _ _ _ _; rw [hn]; simpa using Heap.get?_push_size _ rfl) (fun b hb => ?_)
      (F.keeps fun _ _ e => Heap.get?_push_of_some _ e) (N.grown fun _ _ e => Heap.get?_push_of_some _ e) (Nat.ne_of_lt F.ns.lt) (next_is_new F) (fun p hp => Nat.ne_of_lt (Heap.lt_size (N p hp).1)) trivial (R _).1 hJ0 ?_
    · rw [List.mem_singleton.mp hb]
      show s₁.heap.objs.size < (s₁.heap.push _).objs.size
      rw [Heap.size_push]; exact Nat.lt_succ_self _
    · intro D C h tk m' ys news' F' N' o1 hn hC₀ hD₀ hCL hDL hCD offC hyl htk fin
      refine ⟨m', hn, fun h'' hs'' => (R s₁.heap).2 ys news' tk hyl htk fin D h'' (F'.change hs'' hCL hC₀) (fun p hp => ?_) o1⟩
      refine ⟨hs''.extBut _ _ ?_ (N' p hp).1, (N' p hp).2⟩
      rcases List.mem_cons.mp hp with rfl | hp
      · exact Ne.symm hCD
      · exact offC p hp

theorem Assign_ListComp_M {elt iter : Expr} {x y : Str} {px py : Pos} {scope : Scope} {cl : List (Str × Addr)} {pos spos : Pos} {Q : Flow → Shared → Prop} (hLe : env.locals = L)
    (hsw : swapsWith (.ListComp elt [⟨.Name x px, iter, [], 0⟩] scope pos) (some (.Name y py)) spos.line env = pure true)
    (hclos : closureFor scope env = pure cl) (hcell : ∀ z ∈ scope.names, z.2 ≠ .cell) (hkind : scope.kind = .function)
    (hnames : ∀ z ∈ scope.names, z.2 = .local → scope.names.lookup z.1 = some .local) (hx : scope.names.lookup x = some .local)
    (hy : env.kindOf y = some .local) (hp : (env.scope.kind == .class || (env.scope.kind == .module && env.locals != env.globals)) = false)
    (h : wpAny (model prog w) A (eval iter env) (CSrc prog w A h₀ L m env elt x scope cl (FinA h₀ L m y Q)) E s)
    (hs : ∀ x, foldedSetIterable iter env x = pure x := by intro _; rfl) :
    wpAny (model prog w) A (exec (.Assign [.Name y py] (.ListComp elt [⟨.Name x px, iter, [], 0⟩] scope pos) spos) env) Q E s := by
  subst hLe
  rw [exec_Assign_Name_used _ _ _ _ hsw]
  refine wpAny_bind (wpAny_standAt (wpAny_bind ?_))
  show wpAny _ A (do let _ ← comprehension (.ListComp elt [⟨.Name x px, iter, [], 0⟩] scope pos) scope env _ (newList []) false (eval iter env) (some (assign (.Name y py) env))) _ _ s
  refine wpAny_bind (wpAny_mono (wpAny_comprehension_free (use := some (assign (.Name y py) env)) (Q := fun _ s' => Q .next s') rfl hs hclos hkind hnames
    (wpAny_mono h (fun xv s₁ h₁ => ?_) fun _ _ e => e)) (fun _ s' hq => wpAny_pure (wpAny_pure hq)) fun _ _ e => e)
  cases h₁ with
  | list ax o its k news J e hh F N hm hc hd hsz hJ0 R =>
    subst e
    have hl : s₁.heap.IsList ax its := ⟨o, (N _ hm).1, hc, k, hd⟩
    have hlt : ax < s₁.heap.objs.size := Heap.lt_size (N _ hm).1
    refine wpAny_pyIter_list hl ?_
    have up : ∀ b o, s₁.heap.get? b = some o → (s₁.heap.push { cls := .type "list_iterator", data := .fields #[.ref ax, .int 0 0] }).get? b = some o := fun b o e => Heap.get?_push_of_some _ e
    refine block_M (Walks.list hh s₁.heap.objs.size ax (Nat.ne_of_lt hlt) its) hsz (fun i h st => by obtain ⟨o, e, _⟩ := st.1; exact ⟨o, e⟩) (SrcAt_list hc hd) hcell hkind hx ⟨⟨_, Heap.get?_push_size _ rfl, rfl, rfl⟩, hl.push _⟩ (fun b hb => ?_)
      (F.keeps up) (N.grown up) (Nat.ne_of_lt F.ns.lt) (next_is_new F) (fun p hp => Nat.ne_of_lt (Heap.lt_size (N p hp).1)) hm (R _).1 hJ0 ?_
    · show b < (s₁.heap.push _).objs.size
      rw [Heap.size_push]
      rcases List.mem_cons.mp hb with rfl | hb
      · exact Nat.lt_succ_self _
      · rw [List.mem_singleton.mp hb]; exact Nat.lt_succ_of_lt hlt
    · intro D C h' tk m' ys news' F' N' o1 hn hC₀ hD₀ hCL hDL hCD offC hyl htk fin
      show wpAny _ A (assign (.Name y py) env (.ref D)) _ _ _
      refine wpAny_assign_Name (wpAny_storeName_local hy F'.ns (fun h₂ hn₂ hs₂ => ?_) hp)
      have hL₀ : h₀.get? env.locals = none := Heap.get?_none_of_le F'.above
      have F₂ : Fr h₀ env.locals h₂ (fun z => if z = y then some (.ref D) else m z) := ⟨hn₂, fun b o e => hs₂.extBut b o (fun q => by rw [q, hL₀] at e; cases e) (F'.keep b o e), F'.above⟩
      refine ⟨m', hn.sameBut hs₂ hCL, fun h'' hs'' => (R s₁.heap).2 ys news' tk hyl htk fin D h'' _ (Nat.le_succ tk) (F₂.change hs'' hCL hC₀) (fun p hp => ?_) o1⟩
      have z : h₂.get? p.1 = some p.2 := hs₂.extBut _ _ (N' p hp).2.1 (N' p hp).1
      refine ⟨hs''.extBut _ _ ?_ z, (N' p hp).2⟩
      rcases List.mem_cons.mp hp with rfl | hp
      · exact Ne.symm hCD
      · exact offC p hp
  | range r a b t u v n news J e hh F N hr hsm hn hsz hJ0 R =>
    subst e
    refine wpAny_pyIter_range hr hsm ?_
    refine block_M (LCg.range_walks hh a n) hsz (fun i h st => ⟨_, st⟩) LCg.range_st hcell hkind hx (by show IsRangeIter _ _ _ _ _; rw [hn]; simpa using Heap.get?_push_size _ rfl) (fun b hb => ?_)
      (F.keeps fun _ _ e => Heap.get?_push_of_some _ e) (N.grown fun _ _ e => Heap.get?_push_of_some _ e) (Nat.ne_of_lt F.ns.lt) (next_is_new F) (fun p hp => Nat.ne_of_lt (Heap.lt_size (N p hp).1)) trivial (R _).1 hJ0 ?_
    · rw [List.mem_singleton.mp hb]
      show s₁.heap.objs.size < (s₁.heap.push _).objs.size
      rw [Heap.size_push]; exact Nat.lt_succ_self _
    · intro D C h' tk m' ys news' F' N' o1 hn hC₀ hD₀ hCL hDL hCD offC hyl htk fin
      show wpAny _ A (assign (.Name y py) env (.ref D)) _ _ _
      refine wpAny_assign_Name (wpAny_storeName_local hy F'.ns (fun h₂ hn₂ hs₂ => ?_) hp)
      have hL₀ : h₀.get? env.locals = none := Heap.get?_none_of_le F'.above
      have F₂ : Fr h₀ env.locals h₂ (fun z => if z = y then some (.ref D) else m z) := ⟨hn₂, fun b o e => hs₂.extBut b o (fun q => by rw [q, hL₀] at e; cases e) (F'.keep b o e), F'.above⟩
      refine ⟨m', hn.sameBut hs₂ hCL, fun h'' hs'' => (R s₁.heap).2 ys news' tk hyl htk fin D h'' _ (Nat.le_succ tk) (F₂.change hs'' hCL hC₀) (fun p hp => ?_) o1⟩
      have z : h₂.get? p.1 = some p.2 := hs₂.extBut _ _ (N' p hp).2.1 (N' p hp).1
      refine ⟨hs''.extBut _ _ ?_ z, (N' p hp).2⟩
      rcases List.mem_cons.mp hp with rfl | hp
      · exact Ne.symm hCD
      · exact offC p hp
end
end Mine

end

section
open PySem PySem.W PyProof.Rows
set_option Elab.async false
namespace Mine
set_option maxRecDepth 100000
set_option maxHeartbeats 8000000

noncomputable abbrev Loose : List Str := looseW hd.view_310 [Str.ofString "COMPILER_FLAG_NAMES"]

/-- What a call of the text's def at address f does, from any frame of a def: `Post r tl tk'` of what comes back, of what it has made and kept, and of the token counter. -/
abbrev Spec (rm : Nat) (w : World) (mean : ExcName → Option Value) (mg mb : Str → Option Value) (f : Addr) (vs : List Value) (news : List (Addr × Obj)) (Pre : Nat → Prop) (Post : Value → List (Addr × Obj) → Nat → Nat → Prop) : Prop :=
  ∀ (dp un : Nat) (gd : Option (List Code)) (cn : Str) (cs : Scope) (a : Addr) (ccd : Value) (cl : List (Str × Addr)) (outer : List Env) (A₀ : Around) (base h₀ : Heap) (L : Addr) (m : Str → Option Value) (s : Shared) (Q E : Value → Shared → Prop),
    Below A₀ base outer h₀ → Fr h₀ L s.heap m → (kTop.heap_1 w.params).In h₀ → News h₀ L s.heap news → Top hd.view_310 Loose mean mg mb h₀ → cs.kind = .function → dp + rm < recursionLimit → un + 8 * rm < cLine → Pre s.toks →
    (∀ r tl h' tk', Fr h₀ L h' m → News h₀ L h' (tl ++ news) → (∀ q ∈ news, ∀ p ∈ tl, @Ne Nat q.1 p.1) → s.toks ≤ tk' → Post r tl s.toks tk' → Q r { s with heap := h', toks := tk' }) →
    wpAny (model Challenge.rw_pe0054_01.row.prog w) (ktrTop dp un gd cn cs L a ccd cl outer) (call (.ref f) vs) Q E s

/-- A stop of the walk: the goal is kept for the hand. -/
def Hold (P : Prop) : Prop := P
theorem Hold.of {P : Prop} (h : Hold P) : P := h
theorem Hold.out {P : Prop} (h : P) : Hold P := h
/-- What a body must bring about. -/
def BPost (g : Heap) (L' : Addr) (news : List (Addr × Obj)) (s : Shared) (Post : Value → List (Addr × Obj) → Nat → Nat → Prop) (fl : Flow) (s' : Shared) : Prop :=
  ∃ h' tk' tl m', s' = { s with heap := h', toks := tk' } ∧ Fr g L' h' m' ∧ News g L' h' (tl ++ news) ∧ (∀ q ∈ news, ∀ p ∈ tl, @Ne Nat q.1 p.1) ∧ (s.toks ≤ tk' → Post (match fl with | .ret v => v | _ => .none) tl s.toks tk')

theorem Spec_intro {rm : Nat} {w : World} {mean : ExcName → Option Value} {mg mb : Str → Option Value} {f : Addr} {vs : List Value} {news : List (Addr × Obj)} {Pre : Nat → Prop} {Post : Value → List (Addr × Obj) → Nat → Nat → Prop}
    {name qual : Str} {params : Arguments} {body : List Stmt} {scope : Scope} {dV kV doc pm cdv ct oc : Value} {an od : Option Addr} {osl : Array (Option Value)} (binds : List (Str × Value))
    (ho : (kTop.heap_1 w.params).lookup f = some ⟨oc, od, .func (fnOf name qual params body scope dV kV doc pm an cdv ct), osl⟩) (hcd : codeIn (kTop.heap_1 w.params) cdv qual = true)
    (hbind : ∀ s, BindsTo s (fnOf name qual params body scope dV kV doc pm an cdv ct) ⟨vs, []⟩ binds) (hloc : ∀ y ∈ binds, scope.names.lookup y.1 = some .local)
    (hco : scope.isCoroutine = false) (hgen : scope.isGenerator = false) (hk : scope.kind = .function) (hcell : ∀ x ∈ scope.names, x.2 ≠ .cell)
    (h : ∀ (dp un : Nat) (gd : Option (List Code)) (cn : Str) (cs : Scope) (a : Addr) (ccd : Value) (cl : List (Str × Addr)) (outer : List Env) (base g : Heap) (L L' : Addr) (h : Heap) (tk : Nat) (s : Shared),
      Below (ktrTop dp un gd cn cs L a ccd cl outer) base (envX cn cs L a ccd cl :: outer) g → (kTop.heap_1 w.params).In g → Top hd.view_310 Loose mean mg mb g → cs.kind = .function → dp + rm < recursionLimit → un + 8 * rm < cLine → Pre s.toks → s.toks ≤ tk →
      Fr g L' h (fun y => binds.reverse.lookup y) → News g L' h news →
      wpAny (model Challenge.rw_pe0054_01.row.prog w) ((ktrTop dp un gd cn cs L a ccd cl outer).deeper (envOf qual scope L' f cdv)) (execs body (envOf qual scope L' f cdv)) (BPost g L' news s Post) (fun _ _ => False) { s with heap := h, toks := tk }) :
    Spec rm w mean mg mb f vs news Pre Post := by
  intro dp un gd cn cs a ccd cl outer A₀ base h₀ L m s Q E B F X N T hk' hd' hu hpre hret
  refine wpAny_call ?_
  refine code_def B F X N T rfl rfl hk' ho hcd (by show dp < recursionLimit; omega) (hbind s) hloc ?_ hco hgen hk hcell
  intro g L' h₁ FG F' N' B' X' T'
  refine wpAny_mono (wpAny_up (wpAny_mono (h dp un gd cn cs a ccd cl outer base g L L' h₁ (s.toks + binds.length) s B' X' T' hk' hd' hu hpre (Nat.le_add_right _ _) F' N') (fun fl s' hb up => (And.intro up hb : _ ∧ _)) (fun _ _ e => e))) (fun fl s' hb => ?_) fun _ _ e => e.elim
  obtain ⟨up, h', tk', tl, m', rfl, Fb, Nb, ord, hp⟩ := hb
  have up' : s.toks + binds.length ≤ tk' := up
  exact leaveK_ Fb Nb fun Fc Nc => hret _ tl h' tk' Fc Nc ord (by omega) (hp (by omega))

theorem BPost.ret {g : Heap} {L' : Addr} {news : List (Addr × Obj)} {s : Shared} {Post : Value → List (Addr × Obj) → Nat → Nat → Prop} {v : Value} {h' : Heap} {tk' : Nat} {m' : Str → Option Value} (tl : List (Addr × Obj)) (F : Fr g L' h' m') (N : News g L' h' (tl ++ news))
    (ord : ∀ q ∈ news, ∀ p ∈ tl, @Ne Nat q.1 p.1) (hp : s.toks ≤ tk' → Post v tl s.toks tk') : BPost g L' news s Post (.ret v) { s with heap := h', toks := tk' } := ⟨h', tk', tl, m', rfl, F, N, ord, hp⟩
theorem BPost.ret0 {g : Heap} {L' : Addr} {news : List (Addr × Obj)} {s : Shared} {Post : Value → List (Addr × Obj) → Nat → Nat → Prop} {v : Value} {h' : Heap} {tk' : Nat} {m' : Str → Option Value} (F : Fr g L' h' m') (N : News g L' h' news)
    (hp : s.toks ≤ tk' → Post v [] s.toks tk') : BPost g L' news s Post (.ret v) { s with heap := h', toks := tk' } := ⟨h', tk', [], m', rfl, F, N, (fun _ _ _ h => nomatch h), hp⟩

theorem Fr.congr {h₀ h : Heap} {L : Addr} {m m' : Str → Option Value} (F : Fr h₀ L h m) (e : ∀ y, m' y = m y) : Fr h₀ L h m' := by
  have : m' = m := funext e
  rw [this]; exact F
theorem BinOp_up {M : Model} {A : Around} {E : Value → Shared → Prop} {s : Shared} {env : Env} {l r : Expr} {op : Operator} {pos : Pos} {Q : Value → Shared → Prop}
    (h : wpAny M A (eval l env) (fun a s₁ => s.toks ≤ s₁.toks → wpAny M A (eval r env) (fun b s₂ => s₁.toks ≤ s₂.toks → wpAny M A (binaryOp op a b) Q E s₂) E s₁) E s) : wpAny M A (eval (.BinOp l op r pos) env) Q E s :=
  wpAny_BinOp (wpAny_up (wpAny_mono h (fun _ _ h₁ u₁ => wpAny_up (h₁ u₁)) fun _ _ e => e))
theorem add_str_tok {prog : Program} {w : World} {A : Around} {E : Value → Shared → Prop} {s : Shared} {x y : Str} {t u : Tok} {Q : Value → Shared → Prop} (hx : x.length ≠ 0) (hy : y.length ≠ 0) (hsz : (x ++ y).length ≤ sizeLine)
    (h : Q (.str (x ++ y) s.toks) { s with toks := s.toks + 1 }) : wpAny (model prog w) A (binaryOp .Add (.str x t) (.str y u)) Q E s := by
  refine P.add_str ?_
  rw [if_neg (by simpa using hx), if_neg (by simpa using hy)]
  exact ⟨hsz, h⟩
/-- A text has been made, and nothing else has changed. -/
def StrAt (x : Str) (s : Shared) (a : Value) (s₁ : Shared) : Prop := ∃ t k, a = .str x t ∧ s₁ = { s with toks := k }
theorem BinOp_strs {M : Model} {A : Around} {E : Value → Shared → Prop} {s : Shared} {env : Env} {l r : Expr} {op : Operator} {pos : Pos} {Q : Value → Shared → Prop} (x y : Str)
    (hl : ∀ E, wpAny M A (eval l env) (StrAt x s) E s) (hr : ∀ k E, wpAny M A (eval r env) (StrAt y { s with toks := k }) E { s with toks := k })
    (h : ∀ t u k, s.toks ≤ k → wpAny M A (binaryOp op (.str x t) (.str y u)) Q E { s with toks := k }) : wpAny M A (eval (.BinOp l op r pos) env) Q E s := by
  refine wpAny_BinOp (wpAny_up (wpAny_mono (hl E) (fun a s₁ h₁ up₁ => ?_) fun _ _ e => e))
  obtain ⟨t, k, rfl, rfl⟩ := h₁
  refine wpAny_up (wpAny_mono (hr k E) (fun b s₂ h₂ up₂ => ?_) fun _ _ e => e)
  obtain ⟨u, k2, rfl, rfl⟩ := h₂
  exact h t u k2 (Nat.le_trans up₁ up₂)
theorem ne_all {d : Addr} {l : List (Addr × Obj)} (h : AllLt d l) : ∀ p ∈ l, p.1 ≠ d := fun p hp => Nat.ne_of_lt (ktn_ltOf h p hp)
end Mine

end

section
open PySem PySem.W PyProof.Rows PySem.Calls PySem.Spec
set_option Elab.async false
namespace Mine
set_option maxRecDepth 100000
set_option maxHeartbeats 4000000

/-- A def whose parameters are captured: as Spec_intro, with the cells of the frame in the ledger. -/
theorem Spec_introC {rm : Nat} {w : World} {mean : ExcName → Option Value} {mg mb : Str → Option Value} {f : Addr} {vs : List Value} {news : List (Addr × Obj)} {Pre : Nat → Prop} {Post : Value → List (Addr × Obj) → Nat → Nat → Prop}
    {name qual : Str} {params : Arguments} {body : List Stmt} {scope : Scope} {dV kV doc pm cdv ct oc : Value} {an od : Option Addr} {osl : Array (Option Value)} (binds : List (Str × Value))
    (ho : (kTop.heap_1 w.params).lookup f = some ⟨oc, od, .func (fnOf name qual params body scope dV kV doc pm an cdv ct), osl⟩) (hcd : codeIn (kTop.heap_1 w.params) cdv qual = true)
    (hbind : ∀ s, BindsTo s (fnOf name qual params body scope dV kV doc pm an cdv ct) ⟨vs, []⟩ binds)
    (hkind : (binds.all fun y => scope.names.lookup y.1 == some .local || scope.names.lookup y.1 == some .cell) = true) (hnd : ((cellsFrom 0 scope.names []).map (·.1)).Nodup)
    (hco : scope.isCoroutine = false) (hgen : scope.isGenerator = false) (hk : scope.kind = .function)
    (h : ∀ (dp un : Nat) (gd : Option (List Code)) (cn : Str) (cs : Scope) (a : Addr) (ccd : Value) (cl : List (Str × Addr)) (outer : List Env) (base g : Heap) (L L' : Addr) (h : Heap) (tk : Nat) (s : Shared) (cells : List (Addr × Obj)),
      Below (ktrTop dp un gd cn cs L a ccd cl outer) base (envX cn cs L a ccd cl :: outer) g → (kTop.heap_1 w.params).In g → Top hd.view_310 Loose mean mg mb g → cs.kind = .function → dp + rm < recursionLimit → un + 8 * rm < cLine → Pre s.toks → s.toks ≤ tk →
      Fr g L' h (bindL (envOfC qual scope L' f cdv).kindOf binds fun _ => none) → News g L' h (cells ++ news) → CellsAre (bindC (envOfC qual scope L' f cdv).kindOf binds fun _ => none) (cellsFrom (L' + 1) scope.names []) cells → (∀ p ∈ news, p.1 < L') →
      wpAny (model Challenge.rw_pe0054_01.row.prog w) ((ktrTop dp un gd cn cs L a ccd cl outer).deeper (envOfC qual scope L' f cdv)) (execs body (envOfC qual scope L' f cdv)) (BPost g L' news s Post) (fun _ _ => False) { s with heap := h, toks := tk }) :
    Spec rm w mean mg mb f vs news Pre Post := by
  intro dp un gd cn cs a ccd cl outer A₀ base h₀ L m s Q E B F X N T hk' hd' hu hpre hret
  refine wpAny_call ?_
  obtain ⟨FG, BG, st, lv⟩ := groundX (A := ktrTop dp un gd cn cs L a ccd cl outer) (R := fun r s' => match r with | .ok (.ret v) => Q v s' | .ok _ => False | .error e => E e s') B F N rfl rfl hk'
  refine codeAny_call_function (by show dp < recursionLimit; omega) ((X.keeps F.keep) _ _ ho) rfl hco hgen rfl (codeRec_of (X.keeps F.keep) hcd) (hbind s _ _ _ _ ?_)
  refine wpAny_up (wpAny_newFunctionEnv_cells hk (kindsX hkind _) fun env' he s' x up => ?_)
  subst he
  refine ⟨(T.nolimit.keeps F.keep).keeps x.toInCall.keep, codeAny_func ?_⟩
  obtain ⟨h₁, tk, rfl, _⟩ := x.done
  have up' : s.toks ≤ tk := up
  have hk₁ := x.toInCall.keep
  obtain ⟨cells, NC, Y⟩ := Cl.news (h₀ := s.heap) (Nat.le_refl _) fun n c hm => ⟨x.cell n c (lookup_of_mem_nodup (cellsFrom_names scope.names 0 (s.heap.objs.size + 1) [] [] rfl ▸ hnd) hm), x.above n c hm⟩
  have N' : News (hideAll s.heap (news.map (·.1))) s.heap.objs.size h₁ (cells ++ news) := fun p hp => by
    rcases List.mem_append.mp hp with hp | hp
    · refine ⟨(NC p hp).1, (NC p hp).2.1, ?_⟩
      cases q : (hideAll s.heap (news.map (·.1))).get? p.1 with
      | none => rfl
      | some o => have := of_hideAll _ q; rw [(NC p hp).2.2] at this; cases this
    · exact ⟨hk₁ _ _ (N p hp).1, Nat.ne_of_lt (Heap.lt_size (N p hp).1), hideAll_none _ (List.mem_map_of_mem hp)⟩
  refine wpAny_mono (wpAny_up (wpAny_mono (h dp un gd cn cs a ccd cl outer base _ L s.heap.objs.size h₁ tk s cells BG (X.keeps st) (T.keeps st) hk' hd' hu hpre up' ⟨x.toInCall.ns, fun b o e => hk₁ b o (of_hideAll _ e), Nat.le_of_eq (hideAll_size _ _)⟩ N' Y (fun p hp => Heap.lt_size (N p hp).1))
    (fun fl s' hb up => (And.intro up hb : _ ∧ _)) (fun _ _ e => e))) (fun fl s' hb => ?_) fun _ _ e => e.elim
  obtain ⟨up2, h', tk', tl, m', rfl, Fb, Nb, ord, hp⟩ := hb
  have up2' : tk ≤ tk' := up2
  exact lv _ _ (leaveK_ Fb Nb fun Fc Nc => hret _ tl h' tk' Fc Nc ord (by omega) (hp (by omega)))
end Mine

end

section
open PySem PySem.W PyProof.Rows
namespace Mine
/-- The worths: place p is worth F(p + 2). -/
def worthsL : List Int := [1, 2, 3, 5, 8, 13, 21, 34, 55, 89, 144, 233, 377, 610, 987, 1597, 2584, 4181, 6765, 10946, 17711, 28657, 46368, 75025, 121393, 196418, 317811, 514229, 832040, 1346269, 2178309, 3524578, 5702887, 9227465, 14930352, 24157817, 39088169, 63245986, 102334155, 165580141, 267914296, 433494437, 701408733, 1134903170, 1836311903, 2971215073, 4807526976, 7778742049, 12586269025, 20365011074]
theorem worthsL_len : worthsL.length = 50 := by decide
theorem worthsL_step : ∀ k : Nat, k < 50 → 2 ≤ k → worthsL.getD k 0 = worthsL.getD (k - 1) 0 + worthsL.getD (k - 2) 0 := by decide
theorem take_step {k : Nat} (hk : k < 50) : worthsL.take (k + 1) = worthsL.take k ++ [worthsL.getD k 0] := by
  have h : k < worthsL.length := by rw [worthsL_len]; exact hk
  rw [List.take_add_one, List.getElem?_eq_getElem h, List.getD_eq_getElem?_getD, List.getElem?_eq_getElem h]; rfl
theorem take_get {k j : Nat} (hj : j < k) : (worthsL.take k).getD j 0 = worthsL.getD j 0 := by
  rw [List.getD_eq_getElem?_getD, List.getElem?_take_of_lt hj, ← List.getD_eq_getElem?_getD]
/-- The words of the first ten places. -/
def wordsA : List Str := [Str.ofString "OPTIMIZED", Str.ofString "NEWLOCALS", Str.ofString "VARARGS", Str.ofString "VARKEYWORDS", Str.ofString "NESTED", Str.ofString "GENERATOR", Str.ofString "NOFREE", Str.ofString "COROUTINE", Str.ofString "ITERABLE_COROUTINE", Str.ofString "ASYNC_GENERATOR"]
/-- The words of the other places. -/
def wordsB : List Str := [Str.ofString "0x400", Str.ofString "0x800", Str.ofString "0x1000", Str.ofString "0x2000", Str.ofString "0x4000", Str.ofString "0x8000", Str.ofString "0x10000", Str.ofString "0x20000", Str.ofString "0x40000", Str.ofString "0x80000", Str.ofString "0x100000", Str.ofString "0x200000", Str.ofString "0x400000", Str.ofString "0x800000", Str.ofString "0x1000000", Str.ofString "0x2000000", Str.ofString "0x4000000", Str.ofString "0x8000000", Str.ofString "0x10000000", Str.ofString "0x20000000", Str.ofString "0x40000000", Str.ofString "0x80000000"]
def wordsL : List Str := wordsA ++ wordsB

/-- Texts whose tokens lie from lo on and below hi. -/
def TokIn (lo hi : Nat) (vs : List Value) : Prop := ∀ v ∈ vs, ∃ x u, v = .str x u ∧ lo ≤ u ∧ u < hi
theorem TokIn.mono {lo hi hi' : Nat} {vs : List Value} (h : TokIn lo hi vs) (e : hi ≤ hi') : TokIn lo hi' vs := fun v hv => let ⟨x, u, e1, e2, e3⟩ := h v hv; ⟨x, u, e1, e2, Nat.lt_of_lt_of_le e3 e⟩
theorem TokIn.snoc {lo hi : Nat} {vs : List Value} {x : Str} {u : Tok} (h : TokIn lo hi vs) (e1 : lo ≤ u) (e2 : u < hi) : TokIn lo hi (vs ++ [.str x u]) := fun v hv => by
  rcases List.mem_append.mp hv with h1 | h1
  · exact h v h1
  · rw [List.mem_singleton.mp h1]; exact ⟨x, u, rfl, e1, e2⟩
theorem StrsAre.snoc : ∀ {vs : List Value} {ys : List Str}, StrsAre vs ys → ∀ (x : Str) (u : Tok), StrsAre (vs ++ [.str x u]) (ys ++ [x])
  | _, _, .nil, x, u => .cons x u .nil
  | _, _, .cons y t h, x, u => .cons y t (StrsAre.snoc h x u)
theorem StrsAre.app : ∀ {vs us : List Value} {ys zs : List Str}, StrsAre vs ys → StrsAre us zs → StrsAre (vs ++ us) (ys ++ zs)
  | _, _, _, _, .nil, k => k
  | _, _, _, _, .cons y t h, k => .cons y t (StrsAre.app h k)
end Mine

end

section
open PySem PySem.W PyProof.Rows
set_option Elab.async false
namespace Mine
set_option maxRecDepth 100000
set_option maxHeartbeats 8000000
theorem kfillh (w : World) : ∀ h : Heap, (kTop.heap_1 w.params).In h → Challenge.rw_pe0054_01 = Challenge.rw_pe0054_01 := by w_top off; k_fill; exact fun _ _ => rfl

/-- A list of ints of the ledger. -/
def LInts (news : List (Addr × Obj)) (l : Addr) (ns : List Int) : Prop := ∃ vs k, (l, listOf vs.toArray k) ∈ news ∧ IntsAre vs ns
/-- What a helper on ints gives back. -/
def IntBack (v : Int) (r : Value) (tl : List (Addr × Obj)) (_ _ : Nat) : Prop := tl = [] ∧ ∃ t, r = .int v t
def BoolBack (b : Bool) (r : Value) (tl : List (Addr × Obj)) (_ _ : Nat) : Prop := tl = [] ∧ r = .bool b

theorem item_ints {prog : Program} {w : World} {A : Around} {E : Value → Shared → Prop} {s : Shared} {h₀ : Heap} {L : Addr} {news : List (Addr × Obj)} {value slice : Expr} {l : Addr} {vs : List Value} {ns : List Int} {c : Nat} {k : Int} {u : Tok} {Q : Value → Shared → Prop}
    (N : News h₀ L s.heap news) (hm : (l, listOf vs.toArray c) ∈ news) (hI : IntsAre vs ns) (h0 : 0 ≤ k) (h1 : k < ns.length) (hns : ns.length < 1000000) (h : ∀ t, Q (.int (ns.getD k.toNat 0) t) s)
    (hs : subscripted slice false (.ref l) (.int k u) = operate [.ref l, .int k u] (getItem (.ref l) (.int k u))) :
    wpAny (model prog w) A (subscriptTail value slice (.ref l) (.int k u)) Q E s := by
  have hl : s.heap.IsList l vs.toArray := ⟨_, (N _ hm).1, rfl, c, rfl⟩
  have hk : k.toNat < ns.length := by omega
  obtain ⟨t, hx⟩ := hI.get k.toNat ns[k.toNat] (by simp [hk])
  refine tail_any hl.typeIs slot_list_getitem.lookup (wpAny_getItem_list hl h0 (by omega) (by simpa using hx) ?_) hs
  have e : ns.getD k.toNat 0 = ns[k.toNat] := by rw [List.getD_eq_getElem?_getD, List.getElem?_eq_getElem hk]; rfl
  rw [← e]; exact h t

local macro_rules | `(tactic| walk_at "subscriptTail Name Name ref int") => `(tactic| (refine' item_ints ?k1 ?k2 ?k3 ?k4 ?k5 ?k6 ?_ ?k7; (case k1 => k_asm); (case k2 => assumption); (case k3 => assumption); (case k4 => assumption); (case k5 => assumption); (case k6 => assumption); (case k7 => with_unfolding_all rfl); intro t9))

theorem c_add (w : World) (mean : ExcName → Option Value) (mg mb : Str → Option Value) (news : List (Addr × Obj)) (x y : Int) (t u : Tok) :
    Spec 2 w mean mg mb 36 [.int x t, .int y u] news (fun _ => True) (IntBack (x + y)) := by
  refine' Spec_intro [(Str.ofString "a", .int x t), (Str.ofString "b", .int y u)] ?k6 ?k7 ?k9 ?kB ?c2 ?c3 ?c4 ?c5 ?_
  (case k6 => k_is)
  (case k7 => k_is)
  (case k9 => exact fun _ => BindsTo.of_eq rfl)
  (case c5 => decide)
  (case kB => exact locs rfl)
  (case c2 => exact rfl)
  (case c3 => exact rfl)
  (case c4 => exact rfl)
  intro dp un gd cn cs a ccd cl outer base g L L' h tk s B X T hk hd hu hpre htk F N
  have mk : KstMark := kstMark
  k_steps
  exact BPost.ret0 (by assumption) (by assumption) fun _ => ⟨rfl, _, rfl⟩

theorem c_sub (w : World) (mean : ExcName → Option Value) (mg mb : Str → Option Value) (news : List (Addr × Obj)) (x y : Int) (t u : Tok) :
    Spec 2 w mean mg mb 64 [.int x t, .int y u] news (fun _ => True) (IntBack (x - y)) := by
  refine' Spec_intro [(Str.ofString "a", .int x t), (Str.ofString "b", .int y u)] ?k6 ?k7 ?k9 ?kB ?c2 ?c3 ?c4 ?c5 ?_
  (case k6 => k_is)
  (case k7 => k_is)
  (case k9 => exact fun _ => BindsTo.of_eq rfl)
  (case c5 => decide)
  (case kB => exact locs rfl)
  (case c2 => exact rfl)
  (case c3 => exact rfl)
  (case c4 => exact rfl)
  intro dp un gd cn cs a ccd cl outer base g L L' h tk s B X T hk hd hu hpre htk F N
  have mk : KstMark := kstMark
  k_steps
  exact BPost.ret0 (by assumption) (by assumption) fun _ => ⟨rfl, _, rfl⟩

theorem c_ge (w : World) (mean : ExcName → Option Value) (mg mb : Str → Option Value) (news : List (Addr × Obj)) (x y : Int) (t u : Tok) :
    Spec 2 w mean mg mb 29 [.int x t, .int y u] news (fun _ => True) (BoolBack (decide (y ≤ x))) := by
  refine' Spec_intro [(Str.ofString "a", .int x t), (Str.ofString "b", .int y u)] ?k6 ?k7 ?k9 ?kB ?c2 ?c3 ?c4 ?c5 ?_
  (case k6 => k_is)
  (case k7 => k_is)
  (case k9 => exact fun _ => BindsTo.of_eq rfl)
  (case c5 => decide)
  (case kB => exact locs rfl)
  (case c2 => exact rfl)
  (case c3 => exact rfl)
  (case c4 => exact rfl)
  intro dp un gd cn cs a ccd cl outer base g L L' h tk s B X T hk hd hu hpre htk F N
  have mk : KstMark := kstMark
  k_steps
  exact BPost.ret0 (by assumption) (by assumption) fun _ => ⟨rfl, rfl⟩

theorem c_or (w : World) (mean : ExcName → Option Value) (mg mb : Str → Option Value) (news : List (Addr × Obj)) (x y : Int) (t u : Tok) :
    Spec 2 w mean mg mb 57 [.int x t, .int y u] news (fun _ => True) (IntBack (Builtin.bitOr x y)) := by
  refine' Spec_intro [(Str.ofString "a", .int x t), (Str.ofString "b", .int y u)] ?k6 ?k7 ?k9 ?kB ?c2 ?c3 ?c4 ?c5 ?_
  (case k6 => k_is)
  (case k7 => k_is)
  (case k9 => exact fun _ => BindsTo.of_eq rfl)
  (case c5 => decide)
  (case kB => exact locs rfl)
  (case c2 => exact rfl)
  (case c3 => exact rfl)
  (case c4 => exact rfl)
  intro dp un gd cn cs a ccd cl outer base g L L' h tk s B X T hk hd hu hpre htk F N
  have mk : KstMark := kstMark
  k_steps
  exact BPost.ret0 (by assumption) (by assumption) fun _ => ⟨rfl, _, rfl⟩

theorem c_and (w : World) (mean : ExcName → Option Value) (mg mb : Str → Option Value) (news : List (Addr × Obj)) (x y : Int) (t u : Tok) :
    Spec 2 w mean mg mb 43 [.int x t, .int y u] news (fun _ => True) (IntBack (Builtin.bitAnd x y)) := by
  refine' Spec_intro [(Str.ofString "a", .int x t), (Str.ofString "b", .int y u)] ?k6 ?k7 ?k9 ?kB ?c2 ?c3 ?c4 ?c5 ?_
  (case k6 => k_is)
  (case k7 => k_is)
  (case k9 => exact fun _ => BindsTo.of_eq rfl)
  (case c5 => decide)
  (case kB => exact locs rfl)
  (case c2 => exact rfl)
  (case c3 => exact rfl)
  (case c4 => exact rfl)
  intro dp un gd cn cs a ccd cl outer base g L L' h tk s B X T hk hd hu hpre htk F N
  have mk : KstMark := kstMark
  k_steps
  exact BPost.ret0 (by assumption) (by assumption) fun _ => ⟨rfl, _, rfl⟩

theorem c_lsh (w : World) (mean : ExcName → Option Value) (mg mb : Str → Option Value) (news : List (Addr × Obj)) (x y : Int) (t u : Tok) (hx : 0 ≤ x) (hx1 : x < 4294967296) (hy : 0 ≤ y) (hy1 : y < 32) :
    Spec 2 w mean mg mb 50 [.int x t, .int y u] news (fun _ => True) (IntBack (x * 2 ^ y.toNat)) := by
  refine' Spec_intro [(Str.ofString "a", .int x t), (Str.ofString "b", .int y u)] ?k6 ?k7 ?k9 ?kB ?c2 ?c3 ?c4 ?c5 ?_
  (case k6 => k_is)
  (case k7 => k_is)
  (case k9 => exact fun _ => BindsTo.of_eq rfl)
  (case c5 => decide)
  (case kB => exact locs rfl)
  (case c2 => exact rfl)
  (case c3 => exact rfl)
  (case c4 => exact rfl)
  intro dp un gd cn cs a ccd cl outer base g L L' h tk s B X T hk hd hu hpre htk F N
  have mk : KstMark := kstMark
  k_steps
  exact BPost.ret0 (by assumption) (by assumption) fun _ => ⟨rfl, _, rfl⟩

theorem c_item (w : World) (mean : ExcName → Option Value) (mg mb : Str → Option Value) (news : List (Addr × Obj)) (l : Addr) (vs : List Value) (ns : List Int) (c : Nat) (k : Int) (u : Tok) (hm : (l, listOf vs.toArray c) ∈ news) (hI : IntsAre vs ns) (h0 : 0 ≤ k) (h1 : k < ns.length) (hns : ns.length < 1000000) :
    Spec 2 w mean mg mb 78 [.ref l, .int k u] news (fun _ => True) (IntBack (ns.getD k.toNat 0)) := by
  refine' Spec_intro [(Str.ofString "a", .ref l), (Str.ofString "b", .int k u)] ?k6 ?k7 ?k9 ?kB ?c2 ?c3 ?c4 ?c5 ?_
  (case k6 => k_is)
  (case k7 => k_is)
  (case k9 => exact fun _ => BindsTo.of_eq rfl)
  (case c5 => decide)
  (case kB => exact locs rfl)
  (case c2 => exact rfl)
  (case c3 => exact rfl)
  (case c4 => exact rfl)
  intro dp un gd cn cs a ccd cl outer base g L L' h tk s B X T hk hd hu hpre htk F N
  have mk : KstMark := kstMark
  k_steps
  exact BPost.ret0 (by assumption) (by assumption) fun _ => ⟨rfl, _, rfl⟩
end Mine

end

section
open PySem PySem.W PyProof.Rows
namespace Mine
/-- The worth of a place. -/
def wo (k : Nat) : Int := worthsL.getD k 0
/-- The places below k that the greedy way takes of r, rising. -/
def gr : Nat → Int → List Int
  | 0, _ => []
  | k + 1, r => if wo k ≤ r then gr k (r - wo k) ++ [(k : Int)] else gr k r
/-- The mask of some places. -/
def ms (ps : List Int) : Int := (ps.map fun p => 2 ^ p.toNat).sum
theorem ms_nil : ms [] = 0 := rfl
theorem ms_cons (p : Int) (ps : List Int) : ms (p :: ps) = 2 ^ p.toNat + ms ps := rfl
theorem ms_append (ps qs : List Int) : ms (ps ++ qs) = ms ps + ms qs := by
  unfold ms; rw [List.map_append, List.sum_append]

theorem or_free {m : Int} {k : Nat} {c : Int} (h : m = 2 ^ (k + 1) * c) : Builtin.bitOr m (2 ^ k) = m + 2 ^ k := by
  have hp : (2 ^ k : Int) ≠ 0 := Int.ne_of_gt (kbt_pos k)
  have e : m / 2 ^ k = 2 * c := by
    rw [h, Int.pow_succ, Int.mul_assoc]
    exact Int.mul_ediv_cancel_left _ hp
  rw [bitOr_and, kbt_bit, e]
  have : (2 * c) % 2 = 0 := by omega
  rw [this, Int.zero_mul]; omega

theorem and_free {m : Int} {k : Nat} {c : Int} (h : m = 2 ^ (k + 1) * c) : Builtin.bitAnd m (2 ^ k) = 0 := by
  have hp : (2 ^ k : Int) ≠ 0 := Int.ne_of_gt (kbt_pos k)
  have e : m / 2 ^ k = 2 * c := by
    rw [h, Int.pow_succ, Int.mul_assoc]
    exact Int.mul_ediv_cancel_left _ hp
  rw [kbt_bit, e]
  have : (2 * c) % 2 = 0 := by omega
  rw [this, Int.zero_mul]
theorem and_set {m : Int} {k : Nat} {c : Int} (h : m = 2 ^ k + 2 ^ (k + 1) * c) : Builtin.bitAnd m (2 ^ k) = 2 ^ k := by
  have hp : (2 ^ k : Int) ≠ 0 := Int.ne_of_gt (kbt_pos k)
  have e : m / 2 ^ k = 1 + 2 * c := by
    have : m = 2 ^ k * (1 + 2 * c) := by rw [h, Int.pow_succ, Int.mul_add, Int.mul_one, Int.mul_assoc]
    rw [this]
    exact Int.mul_ediv_cancel_left _ hp
  rw [kbt_bit, e]
  have : (1 + 2 * c) % 2 = 1 := by omega
  rw [this, Int.one_mul]
theorem xor_set {m : Int} {k : Nat} {c : Int} (h : m = 2 ^ k + 2 ^ (k + 1) * c) : Builtin.bitXor m (2 ^ k) = m - 2 ^ k := by
  rw [bitXor_and, and_set h]; omega
theorem ms_mult {k : Nat} : ∀ {ps : List Int}, (∀ p ∈ ps, (k : Int) ≤ p) → ∃ c, ms ps = 2 ^ k * c
  | [], _ => ⟨0, by simp [ms_nil]⟩
  | p :: ps, h => by
    obtain ⟨c, hc⟩ := ms_mult fun q hq => h q (List.mem_cons_of_mem _ hq)
    have hp := h p List.mem_cons_self
    refine ⟨2 ^ (p.toNat - k) + c, ?_⟩
    rw [ms_cons, hc, Int.mul_add, ← Int.pow_add]
    have : k + (p.toNat - k) = p.toNat := by omega
    rw [this]
theorem ms_pos (p : Int) (ps : List Int) : 0 < ms (p :: ps) := by
  have h : ∀ qs : List Int, 0 ≤ ms qs := by
    intro qs
    induction qs with
    | nil => exact Int.le_refl 0
    | cons q qs ih => rw [ms_cons]; have := kbt_pos q.toNat; omega
  rw [ms_cons]
  have := kbt_pos p.toNat
  have := h ps
  omega
/-- The lowest bit of a rising list that lies from k on. -/
theorem low_bit {k : Nat} {ps : List Int} (hs : ps.Pairwise (· < ·)) (h : ∀ p ∈ ps, (k : Int) ≤ p) :
    (∃ qs, ps = (k : Int) :: qs ∧ ∀ p ∈ qs, ((k + 1 : Nat) : Int) ≤ p) ∨ ∀ p ∈ ps, ((k + 1 : Nat) : Int) ≤ p := by
  cases ps with
  | nil => exact .inr fun _ h => nomatch h
  | cons p qs =>
    have hp := h p List.mem_cons_self
    have hq := (List.pairwise_cons.mp hs).1
    by_cases e : p = k
    · subst e
      exact .inl ⟨qs, rfl, fun q hq' => by have := hq q hq'; omega⟩
    · refine .inr fun q hq' => ?_
      rcases List.mem_cons.mp hq' with rfl | hq'
      · omega
      · have := hq q hq'; omega
end Mine

end

section
open PySem PySem.W PyProof.Rows
namespace Mine
theorem ms_nonneg : ∀ qs : List Int, 0 ≤ ms qs
  | [] => Int.le_refl 0
  | q :: qs => by rw [ms_cons]; have := kbt_pos q.toNat; have := ms_nonneg qs; omega
theorem pow2_mono {a b : Nat} (h : a ≤ b) : (2 : Int) ^ a ≤ 2 ^ b := by
  obtain ⟨c, rfl⟩ := Nat.exists_eq_add_of_le h
  rw [Int.pow_add]
  have h1 := kbt_pos a
  have h2 := kbt_pos c
  have : (2 : Int) ^ a * 1 ≤ 2 ^ a * 2 ^ c := Int.mul_le_mul_of_nonneg_left (by omega) (by omega)
  omega
/-- The mask of rising places below p. -/
theorem ms_lt {p : Nat} : ∀ (ps : List Int), ps.Pairwise (· < ·) → (∀ q ∈ ps, 0 ≤ q ∧ q < p) → ms ps < 2 ^ p := by
  induction p with
  | zero =>
    intro ps _ hb
    cases ps with
    | nil => decide
    | cons q qs => have := hb q List.mem_cons_self; omega
  | succ p ih =>
    intro ps hs hb
    by_cases hm : (p : Int) ∈ ps
    · obtain ⟨as, bs, rfl⟩ := List.append_of_mem hm
      have hs' := List.pairwise_append.mp hs
      have hbs : bs = [] := by
        cases bs with
        | nil => rfl
        | cons b bs =>
          have h1 := (List.pairwise_cons.mp hs'.2.1).1 b List.mem_cons_self
          have h2 := hb b (by simp)
          omega
      subst hbs
      have := ih as hs'.1 fun q hq => ⟨(hb q (by simp [hq])).1, hs'.2.2 q hq p List.mem_cons_self⟩
      rw [ms_append, ms_cons, ms_nil, Int.pow_succ]
      have e : (p : Int).toNat = p := by omega
      rw [e]; omega
    · have := ih ps hs fun q hq => ⟨(hb q hq).1, by have h1 := (hb q hq).2; have h2 : q ≠ p := fun e => hm (e ▸ hq); omega⟩
      have h2 := pow2_mono (Nat.le_succ p)
      exact Int.lt_of_lt_of_le this h2
theorem ms_take_succ {ps : List Int} {i : Nat} {p : Int} (h : ps[i]? = some p) : ms (ps.take (i + 1)) = ms (ps.take i) + 2 ^ p.toNat := by
  have : ps.take (i + 1) = ps.take i ++ [p] := by rw [List.take_add_one, h]; rfl
  rw [this, ms_append, ms_cons, ms_nil, Int.add_zero]
theorem ms_take_lt {ps : List Int} {i : Nat} {p : Int} (hs : ps.Pairwise (· < ·)) (hb : ∀ q ∈ ps, 0 ≤ q ∧ q < 32) (h : ps[i]? = some p) : ms (ps.take i) < 2 ^ p.toNat := by
  refine ms_lt _ (hs.sublist (List.take_sublist _ _)) fun q hq => ?_
  obtain ⟨j, hj, rfl⟩ := List.mem_iff_getElem.mp hq
  rw [List.length_take] at hj
  rw [List.getElem_take]
  obtain ⟨hi, rfl⟩ := List.getElem?_eq_some_iff.mp h
  have h1 := List.pairwise_iff_getElem.mp hs j i (by omega) hi (by omega)
  have h2 := hb _ (List.getElem_mem hi)
  exact ⟨(hb _ (List.getElem_mem (by omega))).1, by omega⟩
theorem or_low {m : Int} {k : Nat} (h0 : 0 ≤ m) (h : m < 2 ^ k) : Builtin.bitOr m (2 ^ k) = m + 2 ^ k := by
  have e : m / 2 ^ k = 0 := Int.ediv_eq_zero_of_lt h0 h
  rw [bitOr_and, kbt_bit, e]
  simp
end Mine

end

section
open PySem PySem.W PyProof.Rows
set_option Elab.async false
namespace Mine
set_option maxRecDepth 100000
set_option maxHeartbeats 8000000
theorem kfill1 (w : World) : ∀ h : Heap, (kTop.heap_1 w.params).In h → Challenge.rw_pe0054_01 = Challenge.rw_pe0054_01 := by w_top off; k_fill; exact fun _ _ => rfl
local macro_rules | `(tactic| walk_at "execs cons") => `(tactic| refine wpAny_execs_cons ?_)
local macro_rules | `(tactic| walk_at "execs nil") => `(tactic| refine wpAny_execs_nil ?_)
local macro_rules | `(tactic| walk_at "eval ListComp") => `(tactic| refine Hold.of ?_)
local macro_rules | `(tactic| ktr_unf) => `(tactic| (intro y; (try dsimp only); (repeat' split) <;> first | rfl | (exfalso; simp_all; done) | (exfalso; simp_all +decide; done) | (subst_vars; rfl)))
local macro_rules | `(tactic| k_room) => `(tactic| ktr_room)

theorem BPost.head5 {g : Heap} {L' : Addr} {news : List (Addr × Obj)} {s : Shared} {Post : Value → List (Addr × Obj) → Nat → Nat → Prop} {v : Value} {h' : Heap} {tk' : Nat} {m' : Str → Option Value} {p q1 q2 q3 q4 : Addr × Obj} (F : Fr g L' h' m') (N : News g L' h' (p :: q1 :: q2 :: q3 :: q4 :: news))
    (lt : ∀ q ∈ news, q.1 < p.1) (hp : s.toks ≤ tk' → Post v [p] s.toks tk') : BPost g L' news s Post (.ret v) { s with heap := h', toks := tk' } :=
  BPost.ret [p] F (fun x hx => N x (by
    rcases List.mem_append.mp hx with h1 | h1
    · rw [List.mem_singleton.mp h1]; exact List.mem_cons_self
    · exact List.mem_cons_of_mem _ (List.mem_cons_of_mem _ (List.mem_cons_of_mem _ (List.mem_cons_of_mem _ (List.mem_cons_of_mem _ h1)))))) (fun q hq x hx => by rw [List.mem_singleton.mp hx]; exact Nat.ne_of_lt (lt q hq)) hp
theorem tok_mem {lo hi u : Nat} {x : Str} (h1 : lo ≤ u) (h2 : u < hi) : ∃ x' u', Value.str x u = .str x' u' ∧ lo ≤ u' ∧ u' < hi := ⟨x, u, rfl, h1, h2⟩
theorem TokIn.app {lo hi : Nat} {vs us : List Value} (h : TokIn lo hi vs) (k : TokIn lo hi us) : TokIn lo hi (vs ++ us) := fun v hv => (List.mem_append.mp hv).elim (h v) (k v)
theorem lenA : ∀ i : Nat, i < 22 → (Str.ofString "0x" ++ Txt.item (Str.ofString "1248") ((10 + (i : Int)).fmod 4)).length ≠ 0 := by decide +kernel
theorem lenB : ∀ i : Nat, i < 22 → (Txt.mul (Str.ofString "0") ((10 + (i : Int)).fdiv 4)).length ≠ 0 := by decide +kernel
theorem lenC' : ∀ i : Nat, i < 22 → (Str.ofString "0x" ++ Txt.item (Str.ofString "1248") ((10 + (i : Int)).fmod 4) ++ Txt.mul (Str.ofString "0") ((10 + (i : Int)).fdiv 4)).length ≤ 100 := by decide +kernel
theorem lenC (i : Nat) (hi : i < 22) : (Str.ofString "0x" ++ Txt.item (Str.ofString "1248") ((10 + (i : Int)).fmod 4) ++ Txt.mul (Str.ofString "0") ((10 + (i : Int)).fdiv 4)).length ≤ sizeLine := Nat.le_trans (lenC' i hi) (by rw [PySem.sizeLine_eq]; omega)
theorem wordB : ∀ i : Nat, i < 22 → wordsB[i]? = some (Str.ofString "0x" ++ Txt.item (Str.ofString "1248") ((10 + (i : Int)).fmod 4) ++ Txt.mul (Str.ofString "0") ((10 + (i : Int)).fdiv 4)) := by decide +kernel
theorem c_words (w : World) (mean : ExcName → Option Value) (mg mb : Str → Option Value) (news : List (Addr × Obj)) :
    Spec 8 w mean mg mb 90 [] news (fun _ => True) (fun r tl t0 t1 => ∃ D vs n, r = .ref D ∧ tl = [(D, listOf vs.toArray n)] ∧ StrsAre vs wordsL ∧ TokIn t0 t1 vs) := by
  refine' Spec_intro [] ?k6 ?k7 ?k9 ?kB ?c2 ?c3 ?c4 ?c5 ?_
  (case k6 => k_is)
  (case k7 => k_is)
  (case k9 => exact fun _ => BindsTo.of_eq rfl)
  (case c5 => decide)
  (case kB => exact locs rfl)
  (case c2 => exact rfl)
  (case c3 => exact rfl)
  (case c4 => exact rfl)
  intro dp un gd cn cs a ccd cl outer base g L L' h tk s B X T hk hd hu hpre htk F N
  have mk : KstMark := kstMark
  k_steps
  rename_i l1 h1 o1 h2 l2 h3 o2 D h4 o3 h5 F1 N1
  refine Hold.out ?_
  refine ListComp_M (h₀ := g) (L := L') (m := fun y => if y = Str.ofString "names" then some (Value.ref D) else if y = Str.ofString "names" then some (Value.ref l1) else List.lookup y [].reverse) (cl := []) rfl (by decide) rfl (by decide) rfl ?_
  refine wpAny_up ?_
  k_steps
  rename_i h6 tk6 t6 u6 v6 hR F6 N6 hk6 hup
  replace hup : tk + 12 ≤ tk6 := hup
  generalize hnw : _ :: _ :: _ :: news = nws at N6
  refine CSrc.range _ _ _ _ _ _ 22 nws (fun i ys nw tk' => nw = nws ∧ StrsAre ys (wordsB.take i) ∧ TokIn s.toks tk' ys) rfl rfl F6 N6 hR (by decide) (by rfl) (by decide) ⟨rfl, .nil, fun _ h => nomatch h⟩ (fun g' => ⟨⟨?_, ?_⟩, ?_⟩)
  · exact fun i ys nw t t' ht h => ⟨h.1, h.2.1, h.2.2.mono ht⟩
  · rintro i v ys _ I oI C oC D2 m₂ h7 tk7 E' hi ⟨t7, rfl⟩ ⟨rfl, hS, hT⟩ htk7 hlen hC hx F7 N7 off ne _
    clear F6 N6 hR hk6
    replace htk7 : tk6 ≤ tk7 := htk7
    refine BinOp_strs (Str.ofString "0x" ++ Txt.item (Str.ofString "1248") ((10 + (i : Int)).fmod 4)) (Txt.mul (Str.ofString "0") ((10 + (i : Int)).fdiv 4)) (fun E => ?_) (fun k E => ?_) (fun t9 u9 k9 up9 => ?_)
    · clear htk7 hup htk off ne hT hS
      k_steps
      exact ⟨_, _, rfl, rfl⟩
    · clear htk7 hup htk off ne hT hS
      k_steps
      exact ⟨_, _, rfl, rfl⟩
    · refine add_str_tok (lenA i hi) (lenB i hi) (lenC i hi) ?_
      replace up9 : tk7 ≤ k9 := up9
      refine ⟨h7, k9 + 1, _, rfl, F7, N7, off, trivial, fun up => ⟨rfl, ?_, ?_⟩⟩
      · rw [List.take_add_one, wordB i hi]
        exact StrsAre.snoc hS _ _
      · exact TokIn.snoc (hT.mono (by show tk7 ≤ k9 + 1; omega)) (by show s.toks ≤ k9; omega) (by show k9 < k9 + 1; omega)
  · rintro ys _ tk8 hlen htk8 ⟨rfl, hS, hT⟩ D2 h8 F8 N8 off8
    replace htk8 : tk6 ≤ tk8 := htk8
    subst hnw
    clear F6 N6 hR hk6
    have hST : Hold (StrsAre ys wordsB ∧ TokIn s.toks tk8 ys) := ⟨hS, hT⟩
    clear hS hT
    k_steps
    obtain ⟨hS, hT⟩ := (show StrsAre ys wordsB ∧ TokIn s.toks tk8 ys from hST)
    rename_i h9 F9 N9
    refine BPost.head5 (tk' := tk8) F9 N9 (fun q hq => ?_) (fun _ => ⟨_, _, 0, rfl, rfl, ?_, ?_⟩)
    · exact Heap.lt_size (N8 q (List.mem_cons_of_mem _ (List.mem_cons_of_mem _ (List.mem_cons_of_mem _ (List.mem_cons_of_mem _ hq))))).1
    · exact StrsAre.app (.cons _ _ (.cons _ _ (.cons _ _ (.cons _ _ (.cons _ _ (.cons _ _ (.cons _ _ (.cons _ _ (.cons _ _ (.cons _ _ .nil)))))))))) hS
    · refine TokIn.app ?_ hT
      intro v hv
      simp only [List.mem_cons, List.not_mem_nil, or_false] at hv
      rcases hv with rfl | rfl | rfl | rfl | rfl | rfl | rfl | rfl | rfl | rfl <;> exact tok_mem (by omega) (by omega)
end Mine

end

section
open PySem PySem.W PyProof.Rows
set_option Elab.async false
namespace Mine
set_option maxRecDepth 100000
set_option maxHeartbeats 8000000
local macro_rules | `(tactic| k_all) => `(tactic| exact ne_all (by assumption))
local macro_rules | `(tactic| walk_at "exec While Compare cons nil") => `(tactic| refine Hold.of ?_)
theorem kfill2 (w : World) : ∀ h : Heap, (kTop.heap_1 w.params).In h → Challenge.rw_pe0054_01 = Challenge.rw_pe0054_01 := by w_top off; k_fill; exact fun _ _ => rfl
theorem c_worths (w : World) (mean : ExcName → Option Value) (mg mb : Str → Option Value) (news : List (Addr × Obj)) :
    Spec 4 w mean mg mb 97 [] news (fun _ => True) (fun r tl _ _ => ∃ D vs n, r = .ref D ∧ tl = [(D, listOf vs.toArray n)] ∧ IntsAre vs worthsL) := by
  refine' Spec_intro [] ?k6 ?k7 ?k9 ?kB ?c2 ?c3 ?c4 ?c5 ?_
  (case k6 => k_is)
  (case k7 => k_is)
  (case k9 => exact fun _ => BindsTo.of_eq rfl)
  (case c5 => decide)
  (case kB => exact locs rfl)
  (case c2 => exact rfl)
  (case c3 => exact rfl)
  (case c4 => exact rfl)
  intro dp un gd cn cs a ccd cl outer base g L L' h tk s B X T hk hd hu hpre htk F N
  k_steps
  rename_i tk0 l h1 l1 h2 F' N'
  refine Hold.out ?_
  refine While_inv (fun n s' => ∃ h tk k vs nn, s' = { s with heap := h, toks := tk } ∧ n = 50 - k ∧ 2 ≤ k ∧ k ≤ 50 ∧ IntsAre vs (worthsL.take k) ∧ Fr g L' h (fun y => if y = Str.ofString "worths" then some (Value.ref l) else none) ∧ News g L' h ((l, listOf vs.toArray nn) :: news)) (by passes_own) ?_ 48 ?_
  · rintro n s' ⟨h3, tk3, k, vs, nn, rfl, rfl, hk2, hk5, hI, F3, N3⟩
    have hl : (worthsL.take k).length = k := by rw [List.length_take, worthsL_len]; omega
    generalize hns : worthsL.take k = ns at hI hl
    have mk : KstMark := kstMark
    clear F' N'
    k_steps
    by_cases hlt : (ns.length : Int) < 50
    · refine WhlIf.yes (decide_eq_true hlt) ?_
      k_steps
      rename_i t1 t2 h4 F4 N4
      rw [List.push_toArray] at N4
      subst hl
      have hlt' : ns.length < 50 := by omega
      have e1 : (-1 + (ns.length : Int)).toNat = ns.length - 1 := by omega
      have e2 : (-2 + (ns.length : Int)).toNat = ns.length - 2 := by omega
      have e3 : ns.getD (ns.length - 1) 0 + ns.getD (ns.length - 2) 0 = worthsL.getD ns.length 0 := by
        rw [worthsL_step _ hlt' hk2, ← take_get (show ns.length - 1 < ns.length by omega), ← take_get (show ns.length - 2 < ns.length by omega), hns]
      rw [e1, e2, e3] at N4
      refine ⟨50 - (ns.length + 1), by omega, h4, _, ns.length + 1, _, _, rfl, rfl, by omega, by omega, ?_, F4, N4⟩
      rw [take_step hlt', hns]
      exact IntsAre.append hI (.cons _ _ .nil)
    · refine WhlIf.no (decide_eq_false hlt) ?_
      k_steps
      dsimp only
      refine BPost.ret [_] F3 N3 ?_ (fun _ => ⟨_, _, _, rfl, rfl, ?_⟩)
      · exact fun q hq p hp => Nat.ne_of_lt (ktn_ord1 (allLt_of l1) q hq p hp)
      · have hk50 : k = 50 := by omega
        subst hk50
        rw [← hns] at hI
        exact hI
  · exact ⟨_, _, 2, _, _, rfl, rfl, by omega, by omega, .cons _ _ (.cons _ _ .nil), F', N'⟩
end Mine

end

section
open PySem PySem.W PyProof.Rows
set_option Elab.async false
namespace Mine
set_option maxRecDepth 100000
set_option maxHeartbeats 8000000
theorem kfill3 (w : World) : ∀ h : Heap, (kTop.heap_1 w.params).In h → Challenge.rw_pe0054_01 = Challenge.rw_pe0054_01 := by w_top off; k_fill; exact fun _ _ => rfl
local macro_rules | `(tactic| walk_at "exec For Name Call cons nil") => `(tactic| refine Hold.of ?_)
local macro_rules | `(tactic| walk_at "call ref") => `(tactic| refine Hold.of ?_)
local macro_rules | `(tactic| walk_at "call ref") => `(tactic| k_dflt (refine' c_add _ _ _ _ _ _ _ _ _  _ _ _ _ _ _ _ _ _ _ _ _ _ _ _ _ _ ?k1 ?k2 ?k3 ?k4 ?k5 ?kK ?kd ?ku trivial ?_; (case k4 => k_asm); (case k1 => k_asm); (case k2 => k_asm); (case k3 => k_asm); (case k5 => k_asm); (case kK => exact rfl); (case kd => ktr_room); (case ku => ktr_units); intro r9 tl9 h9 tk9 F9 N9 o9 u9 p9; (obtain ⟨e91, t9, e92⟩ := p9); subst e91; subst e92; clear o9; (simp only [List.nil_append] at N9); (try dsimp only)))
local macro_rules | `(tactic| walk_at "call ref") => `(tactic| k_dflt (refine' c_sub _ _ _ _ _ _ _ _ _  _ _ _ _ _ _ _ _ _ _ _ _ _ _ _ _ _ ?k1 ?k2 ?k3 ?k4 ?k5 ?kK ?kd ?ku trivial ?_; (case k4 => k_asm); (case k1 => k_asm); (case k2 => k_asm); (case k3 => k_asm); (case k5 => k_asm); (case kK => exact rfl); (case kd => ktr_room); (case ku => ktr_units); intro r9 tl9 h9 tk9 F9 N9 o9 u9 p9; (obtain ⟨e91, t9, e92⟩ := p9); subst e91; subst e92; clear o9; (simp only [List.nil_append] at N9); (try dsimp only)))
local macro_rules | `(tactic| walk_at "call ref") => `(tactic| k_dflt (refine' c_ge _ _ _ _ _ _ _ _ _  _ _ _ _ _ _ _ _ _ _ _ _ _ _ _ _ _ ?k1 ?k2 ?k3 ?k4 ?k5 ?kK ?kd ?ku trivial ?_; (case k4 => k_asm); (case k1 => k_asm); (case k2 => k_asm); (case k3 => k_asm); (case k5 => k_asm); (case kK => exact rfl); (case kd => ktr_room); (case ku => ktr_units); intro r9 tl9 h9 tk9 F9 N9 o9 u9 p9; (obtain ⟨e91, e92⟩ := p9); subst e91; subst e92; clear o9; (simp only [List.nil_append] at N9); (try dsimp only)))
local macro_rules | `(tactic| walk_at "call ref") => `(tactic| k_dflt (refine' c_or _ _ _ _ _ _ _ _ _  _ _ _ _ _ _ _ _ _ _ _ _ _ _ _ _ _ ?k1 ?k2 ?k3 ?k4 ?k5 ?kK ?kd ?ku trivial ?_; (case k4 => k_asm); (case k1 => k_asm); (case k2 => k_asm); (case k3 => k_asm); (case k5 => k_asm); (case kK => exact rfl); (case kd => ktr_room); (case ku => ktr_units); intro r9 tl9 h9 tk9 F9 N9 o9 u9 p9; (obtain ⟨e91, t9, e92⟩ := p9); subst e91; subst e92; clear o9; (simp only [List.nil_append] at N9); (try dsimp only)))
local macro_rules | `(tactic| walk_at "call ref") => `(tactic| k_dflt (refine' c_lsh _ _ _ _ _ _ _ _ _ ?q1 ?q2 ?q3 ?q4 _ _ _ _ _ _ _ _ _ _ _ _ _ _ _ _ _ ?k1 ?k2 ?k3 ?k4 ?k5 ?kK ?kd ?ku trivial ?_; (case k4 => k_asm); (case k1 => k_asm); (case k2 => k_asm); (case k3 => k_asm); (case k5 => k_asm); (case kK => exact rfl); (case q1 => omega); (case q2 => omega); (case q3 => omega); (case q4 => omega); (case kd => ktr_room); (case ku => ktr_units); intro r9 tl9 h9 tk9 F9 N9 o9 u9 p9; (obtain ⟨e91, t9, e92⟩ := p9); subst e91; subst e92; clear o9; (simp only [List.nil_append] at N9); (try dsimp only)))
local macro_rules | `(tactic| walk_at "call ref") => `(tactic| k_dflt (refine' c_item _ _ _ _ _ _ _ _ _ _ _ ?q1 ?q2 ?q3 ?q4 ?q5 _ _ _ _ _ _ _ _ _ _ _ _ _ _ _ _ _ ?k1 ?k2 ?k3 ?k4 ?k5 ?kK ?kd ?ku trivial ?_; (case k4 => k_asm); (case k1 => k_asm); (case k2 => k_asm); (case k3 => k_asm); (case k5 => k_asm); (case kK => exact rfl); (case q1 => kcf_m); (case q2 => assumption); (case q3 => omega); (case q4 => (rw [worthsL_len]; omega)); (case q5 => (rw [worthsL_len]; omega)); (case kd => ktr_room); (case ku => ktr_units); intro r9 tl9 h9 tk9 F9 N9 o9 u9 p9; (obtain ⟨e91, t9, e92⟩ := p9); subst e91; subst e92; clear o9; (simp only [List.nil_append] at N9); (try dsimp only)))
local macro_rules | `(tactic| ktr_unf) => `(tactic| (intro y; (try dsimp only); (repeat' split) <;> first | rfl | (exfalso; simp_all; done) | (exfalso; simp_all +decide; done) | (subst_vars; rfl)))
local macro_rules | `(tactic| k_room) => `(tactic| ktr_room)

theorem c_mask (w : World) (mean : ExcName → Option Value) (mg mb : Str → Option Value) (news : List (Addr × Obj)) (x : Int) (t : Tok) (lw : Addr) (hw : LInts news lw worthsL) :
    Spec 8 w mean mg mb 104 [.int x t, .ref lw] news (fun _ => True) (IntBack (ms (gr 32 x))) := by
  refine' Spec_intro [(Str.ofString "number", .int x t), (Str.ofString "worths", .ref lw)] ?k6 ?k7 ?k9 ?kB ?c2 ?c3 ?c4 ?c5 ?_
  (case k6 => k_is)
  (case k7 => k_is)
  (case k9 => exact fun _ => BindsTo.of_eq rfl)
  (case c5 => decide)
  (case kB => exact locs rfl)
  (case c2 => exact rfl)
  (case c3 => exact rfl)
  (case c4 => exact rfl)
  intro dp un gd cn cs a ccd cl outer base g L L' h tk s B X T hk hd hu hpre htk F N
  have mk : KstMark := kstMark
  obtain ⟨vw, kw, hmw, hIw⟩ := hw
  k_steps
  rename_i h1 h2 F1 N1
  refine Hold.out ?_
  refine For_M (h₀ := g) rfl rfl (by passes_own) ?_
  k_steps
  rename_i h3 tk3 t1 u1 v1 hR F3 N3 hup3
  refine iter_rangeM rfl hR (by decide) (n := 32) (by rfl) F3 N3 (fun i m nw _ => nw = news ∧ ∃ k r tl c t2 t3 up, i + k = 32 ∧ gr 32 x = gr k r ++ tl ∧ ms tl = 2 ^ k * c ∧ m = fun y => if y = Str.ofString "rest" then some (Value.int r t2) else if y = Str.ofString "mask" then some (Value.int (ms tl) t3) else if y = Str.ofString "place" then up else
      [(Str.ofString "number", Value.int x t), (Str.ofString "worths", Value.ref lw)].reverse.lookup y) ?_ (fun _ _ _ _ _ _ h => h) ?_ ?_
  · refine' ⟨rfl, 32, x, [], 0, _, _, none, rfl, by simp, by simp [ms_nil], funext ?e⟩
    (case e => ktr_unf)
  · rintro i tp m₁ news₁ h4 tk4 own I hi ⟨rfl, k, r, tl, c, t2, t3, up, hik, hgr, hms, rfl⟩ htk4 hne hown F4 N4
    obtain ⟨k, rfl⟩ : ∃ k', k = k' + 1 := ⟨k - 1, by omega⟩
    have ek : (31 : Int) + (i : Int) * (-1) = (k : Int) := by omega
    rw [ek] at F4
    replace F4 : Fr g L' h4 _ := F4
    replace N4 : News g L' h4 _ := N4
    have F5 : Fr g L' h4 (fun y => if y = Str.ofString "rest" then some (Value.int r t2) else if y = Str.ofString "mask" then some (Value.int (ms tl) t3) else if y = Str.ofString "place" then some (Value.int (k : Int) tp) else
      [(Str.ofString "number", Value.int x t), (Str.ofString "worths", Value.ref lw)].reverse.lookup y) := by
      refine Fr.congr F4 ?_
      ktr_unf
    clear F4 F3 N3 hup3 hR
    have hk32 : (k : Int) < 32 := by omega
    have hk0 : (0 : Int) ≤ (k : Int) := by omega
    have hg1 : gr (k + 1) r = if wo k ≤ r then gr k (r - wo k) ++ [(k : Int)] else gr k r := rfl
    rw [hg1] at hgr
    k_steps
    · rename (worthsL.getD _ 0 ≤ r) => hle
      rename Fr _ _ _ _ => F6
      rename News _ _ _ _ => N6
      have hle' : wo k ≤ r := by simpa [wo] using hle
      rw [if_pos hle'] at hgr
      rw [Int.one_mul, Int.toNat_natCast, or_free hms] at F6
      refine FPost.next F6 N6 (fun p hp hI => hne p hp (List.mem_singleton.mp hI)) ?_
      refine' ⟨rfl, k, r - wo k, (k : Int) :: tl, 2 * c + 1, _, _, _, by omega, ?ea, ?eb, funext ?ec⟩
      (case ec =>
        rw [ms_cons, Int.toNat_natCast, Int.add_comm (2 ^ k)]
        ktr_unf)
      (case ea => rw [hgr]; simp)
      (case eb => rw [ms_cons, hms, Int.toNat_natCast, Int.pow_succ, Int.mul_add, Int.mul_one, Int.mul_assoc]; omega)
    · rename (¬ worthsL.getD _ 0 ≤ r) => hle
      have hle' : ¬ wo k ≤ r := by simpa [wo] using hle
      rw [if_neg hle'] at hgr
      refine FPost.next (by assumption) (by assumption) (fun p hp hI => hne p hp (List.mem_singleton.mp hI)) ?_
      refine' ⟨rfl, k, r, tl, 2 * c, _, _, _, by omega, hgr, ?eb, funext ?ec⟩
      (case ec => ktr_unf)
      (case eb => rw [hms, Int.pow_succ, Int.mul_assoc])
  · rintro h4 tk4 m' news' F4 N4 ⟨rfl, k, r, tl, c, t2, t3, up, hik, hgr, hms, rfl⟩ htk4
    obtain rfl : k = 0 := by omega
    have e : gr 32 x = tl := by rw [hgr]; rfl
    replace F4 : Fr g L' h4 _ := F4
    replace N4 : News g L' h4 _ := N4
    k_steps
    exact BPost.ret0 F4 N4 fun _ => ⟨rfl, _, by rw [e]⟩
end Mine

end

section
open PySem PySem.W PyProof.Rows PySem.Builtin PySem.Builtin.Str
set_option Elab.async false
namespace Mine
set_option maxRecDepth 100000
set_option maxHeartbeats 4000000

theorem numbered_ge : ∀ (tk : Nat) (xs : List Str), ∀ p ∈ numbered tk xs, tk ≤ p.2
  | _, [], p, h => nomatch h
  | tk, x :: r, p, h => by
    rcases List.mem_cons.mp h with rfl | h
    · exact Nat.le_refl _
    · exact Nat.le_trans (Nat.le_succ tk) (numbered_ge (tk + 1) r p h)

section
variable {prog : Program} {w : World} {A : Around} {E : Value → Shared → Prop} {s : Shared} {x y : Str} {t u : Tok} {h₀ : Heap} {L : Addr} {m : Str → Option Value} {news : List (Addr × Obj)} {Q : Value → Shared → Prop}

/-- str.split by a text: the parts' tokens are new, or the text's own. -/
theorem split_tok (hF : Fr h₀ L s.heap m) (hN : News h₀ L s.heap news) (hy : (y.length == 0) = false) (hsz : x.length + 2 ≤ sizeLine)
    (h : ∀ D l h' k, l.map (·.1) = Txt.split x y → (∀ p ∈ l, p.2 = t ∨ s.toks ≤ p.2) → Fr h₀ L h' m → News h₀ L h' ((D, listOf (strValues l).toArray 0) :: news) → (∀ p ∈ news, p.1 < D) → Q (.ref D) { s with heap := h', toks := k }) :
    wpAny (model prog w) A (call (.builtin "str.split") [.str x t, .str y u]) Q E s := by
  have hn : (partsBetween x (occurrences x y 0 x.length (x.length + 1)) y.length).length ≤ sizeLine := by
    have e1 := StrLaws.occ_length_le x y 0 x.length (x.length + 1)
    rw [length_partsBetween]; omega
  have lt : ∀ p ∈ news, p.1 < s.heap.objs.size := fun p hp => Heap.lt_size (hN p hp).1
  cases h1 : (decide (x.length < y.length) || decide (strKind x < strKind y))
  · cases hf : (occurrences x y 0 x.length (x.length + 1)).isEmpty
    · refine call_meets F.slot_str_split (typeIs_str _ _ _) F.entry_str_split (F.args_str_split_2 _ _) (meets_str_split_sep x y t u h1 hy hf (by omega) hn) ?_
      show wants Q E _ { s with toks := _, heap := s.heap.push { cls := .type "list", data := .seq (strsFrom s.toks (partsBetween x (occurrences x y 0 x.length (x.length + 1)) y.length)).toArray } }
      rw [strsFrom_eq]
      exact h _ (numbered s.toks _) _ _ ((numbered_texts _ _).trans ((if_neg (ne_true_of_eq_false h1)).trans (if_neg (ne_true_of_eq_false hf))).symm) (fun p hp => .inr (numbered_ge _ _ p hp)) (Fr.pushS hF _) (News.push hF hN _) lt
    · exact call_meets F.slot_str_split (typeIs_str _ _ _) F.entry_str_split (F.args_str_split_2 _ _) (meets_str_split_not_found x y t u h1 hy hf)
        (h _ [(x, t)] _ s.toks ((if_neg (ne_true_of_eq_false h1)).trans (if_pos hf)).symm (fun p hp => .inl (by rw [List.mem_singleton.mp hp])) (Fr.pushS hF _) (News.push hF hN _) lt)
  · exact call_meets F.slot_str_split (typeIs_str _ _ _) F.entry_str_split (F.args_str_split_2 _ _) (meets_str_split_cannot_occur x y t u h1)
      (h _ [(x, t)] _ s.toks (if_pos h1).symm (fun p hp => .inl (by rw [List.mem_singleton.mp hp])) (Fr.pushS hF _) (News.push hF hN _) lt)

/-- str.join of a list of texts: one text is handed back itself, else the token is new. -/
theorem join_tok {D : Addr} {c : Nat} {l : List (Str × Tok)} (hN : News h₀ L s.heap news) (hm : (D, listOf (strValues l).toArray c) ∈ news) (hok : JoinOk x (l.map (·.1)) = true)
    (h : ∀ t' k, ((∃ p, l = [p] ∧ t' = p.2) ∨ t' = s.toks) → Q (.str (Txt.join x (l.map (·.1))) t') { s with toks := k }) :
    wpAny (model prog w) A (call (.builtin "str.join") [.str x t, .ref D]) Q E s := by
  have hl : s.heap.IsList D (strValues l).toArray := ⟨_, (hN _ hm).1, rfl, c, rfl⟩
  have hlen := joinOk_length hok
  refine call_meets F.slot_str_join (typeIs_str _ _ _) F.entry_str_join (F.args_str_join_2 _ _) (meets_str_join_list x t D l (by unfold JoinOk at hok; simpa using hok)) ⟨hl, ?_⟩
  match l, hlen, h with
  | [], hlen, h => exact ⟨hlen, h _ _ (.inr rfl)⟩
  | [p], hlen, h => exact h p.2 s.toks (.inl ⟨p, rfl, rfl⟩)
  | _ :: _ :: _, hlen, h => exact ⟨hlen, h _ _ (.inr rfl)⟩
end

/-- The pairs of COMPILER_FLAG_NAMES as the top has made them. -/
def flagKvs : List (Int × Value) := [(1, .str (Str.ofString "OPTIMIZED") 190), (2, .str (Str.ofString "NEWLOCALS") 192), (4, .str (Str.ofString "VARARGS") 194), (8, .str (Str.ofString "VARKEYWORDS") 196), (16, .str (Str.ofString "NESTED") 198), (32, .str (Str.ofString "GENERATOR") 200), (64, .str (Str.ofString "NOFREE") 202), (128, .str (Str.ofString "COROUTINE") 204), (256, .str (Str.ofString "ITERABLE_COROUTINE") 206), (512, .str (Str.ofString "ASYNC_GENERATOR") 208)]
theorem flags_at (P : Params) : ∃ o, (kTop.heap_1 P).lookup 15 = some o ∧ ∀ (prog : Program) (w : World), o.IsDictOf (PySem.intKind prog w) flagKvs := by
  refine ⟨_, rfl, fun prog w => ⟨_, _, ⟨rfl, rfl, rfl⟩, rfl, ?_, ?_, ?_⟩⟩
  · intro e he
    simp only [List.mem_toArray, List.mem_cons, List.not_mem_nil, or_false] at he
    rcases he with rfl | rfl | rfl | rfl | rfl | rfl | rfl | rfl | rfl | rfl <;> exact ⟨_, intKind_is prog w _ _, rfl⟩
  · exact .cons (intKind_is prog w _ _) rfl (.cons (intKind_is prog w _ _) rfl (.cons (intKind_is prog w _ _) rfl (.cons (intKind_is prog w _ _) rfl (.cons (intKind_is prog w _ _) rfl (.cons (intKind_is prog w _ _) rfl (.cons (intKind_is prog w _ _) rfl (.cons (intKind_is prog w _ _) rfl (.cons (intKind_is prog w _ _) rfl (.cons (intKind_is prog w _ _) rfl .nil)))))))))
  · decide
theorem flags_dict {P : Params} {h : Heap} (X : (kTop.heap_1 P).In h) (prog : Program) (w : World) : h.DictOf (PySem.intKind prog w) 15 flagKvs := by
  obtain ⟨o, e, d⟩ := flags_at P
  exact Heap.dictOf_iff.mpr ⟨o, X _ _ e, d prog w⟩
/-- What get(2 ** i, dflt) hands back. -/
def flagVal (i : Nat) (dflt : Value) : Value := match wordsA[i]? with
  | some x => .str x (190 + 2 * i)
  | none => dflt
theorem flag_at : ∀ i : Nat, i < 32 → valueAt flagKvs (2 ^ i) = match wordsA[i]? with | some x => some (.str x (190 + 2 * i)) | none => none := by decide +kernel
section
variable {prog : Program} {w : World} {A : Around} {E : Value → Shared → Prop} {s : Shared}
theorem flags_method {P : Params} {pl : Sem Bool} {Q : Value × List Value → Shared → Prop} (X : (kTop.heap_1 P).In s.heap) (h : Q (.builtin "dict.get", [.ref 15]) s) : wpAny (model prog w) A (getMethod (.ref 15) "get" pl) Q E s :=
  have hD := flags_dict X prog w
  getMethod_builtin hD.typeIs PySem.F.plainAttrs_dict PySem.F.slot_dict_get PySem.F.type_dict_get hD.mapOf.noDict h
theorem flags_get {P : Params} {k : Int} {i : Nat} {t : Tok} {dflt : Value} {Q : Value → Shared → Prop} (X : (kTop.heap_1 P).In s.heap) (hk : k = 2 ^ i) (hi : i < 32) (h : Q (flagVal i dflt) { s with toks := s.toks + 1 }) :
    wpAny (model prog w) A (call (.builtin "dict.get") [.ref 15, .int k t, dflt]) Q E s := by
  have hD := flags_dict X prog w
  refine call_meetsIn PySem.F.slot_dict_get hD.typeIs PySem.F.entry_dict_get (PySem.F.args_dict_get_3 _ _ _) (meets_dict_get_default (PySem.intKind prog w) 15 (k := k) (intKind_is prog w k t) (by decide) dflt) ⟨_, hD.mapOf, ?_⟩
  rw [hk, flag_at i hi]
  unfold flagVal at h
  cases hw : wordsA[i]? with
  | none => rw [hw] at h; exact h
  | some x => rw [hw] at h; exact h
end
end Mine

end

section
open PySem PySem.W PyProof.Rows
set_option Elab.async false
namespace Mine
set_option maxRecDepth 100000
set_option maxHeartbeats 8000000
theorem kfill4 (w : World) : ∀ h : Heap, (kTop.heap_1 w.params).In h → Challenge.rw_pe0054_01 = Challenge.rw_pe0054_01 := by w_top off; k_fill; exact fun _ _ => rfl

theorem upd_mid {d : Addr} {o o' : Obj} {post : List (Addr × Obj)} (hp : ∀ p ∈ post, p.1 ≠ d) : ∀ {pre : List (Addr × Obj)}, (∀ p ∈ pre, p.1 ≠ d) → Upd d o o' (pre ++ (d, o) :: post) (pre ++ (d, o') :: post)
  | [], _ => .head hp
  | _ :: _, h => .tail (h _ List.mem_cons_self) (upd_mid hp fun p hp' => h p (List.mem_cons_of_mem _ hp'))

theorem strValues_len : ∀ l : List (Str × Tok), (strValues l).length = l.length
  | [] => rfl
  | _ :: l => congrArg (· + 1) (strValues_len l)
theorem strValues_snoc : ∀ (l : List (Str × Tok)) (p : Str × Tok), strValues (l ++ [p]) = strValues l ++ [.str p.1 p.2]
  | [], _ => rfl
  | q :: l, p => congrArg (Value.str q.1 q.2 :: ·) (strValues_snoc l p)
/-- The word of a place. -/
def wd (p : Int) : Str := wordsL.getD p.toNat (Str.ofString "")
/-- What pretty_flags tells of the mask of ps. -/
def textOf (ps : List Int) : Str := if ps = [] then Str.ofString "0x0" else Txt.join (Str.ofString ", ") (ps.map wd)
/-- A token of the top, or one made since. -/
def TokOk (T u : Nat) : Prop := u ≠ 0 ∧ (u < 374 ∨ T ≤ u)

theorem hexB : ∀ i : Nat, i < 22 → wordsB[i]? = some (baseText "0x" 16 (1 * 2 ^ (10 + i))) := by decide +kernel
theorem hex0 : baseText "0x" 16 0 = Str.ofString "0x0" := by decide +kernel
theorem hexLen : ∀ i : Nat, i < 32 → (baseText "0x" 16 (1 * 2 ^ i)).length ≤ 100 := by decide +kernel
theorem hexLen' {i : Nat} (hi : i < 32) : (baseText "0x" 16 (1 * 2 ^ i)).length ≤ sizeLine := Nat.le_trans (hexLen i hi) (by rw [PySem.sizeLine_eq]; omega)
theorem wdA : ∀ i : Nat, i < 10 → wordsA[i]? = some (wd i) := by decide +kernel
theorem wdB : ∀ i : Nat, i < 22 → wordsB[i]? = some (wd (10 + (i : Nat) : Nat)) := by decide +kernel
theorem flagVal_is {i : Nat} (hi : i < 32) {T k : Nat} (hT : 1 ≤ T) (hk : T ≤ k) : ∃ u, flagVal i (.str (baseText "0x" 16 (1 * 2 ^ i)) k) = .str (wd i) u ∧ TokOk T u := by
  unfold flagVal
  by_cases h : i < 10
  · rw [wdA i h]
    exact ⟨_, rfl, by omega, .inl (by omega)⟩
  · have e : wordsA[i]? = none := List.getElem?_eq_none (by show 10 ≤ i; omega)
    rw [e]
    obtain ⟨j, rfl⟩ : ∃ j, i = 10 + j := ⟨i - 10, by omega⟩
    have h1 := hexB j (by omega)
    have h2 := wdB j (by omega)
    rw [h1] at h2
    have h3 : baseText "0x" 16 (1 * 2 ^ (10 + j)) = wd ((10 + j : Nat) : Int) := Option.some.inj h2
    exact ⟨k, by rw [h3], by omega, .inr hk⟩
theorem flags_get2 {prog : Program} {w : World} {A : Around} {E : Value → Shared → Prop} {s : Shared} {P : Params} {k : Int} {i T kk : Nat} {t : Tok} {Q : Value → Shared → Prop} (X : (kTop.heap_1 P).In s.heap) (hk : k = 1 * 2 ^ i) (hi : i < 32) (hT : 1 ≤ T) (hkk : T ≤ kk)
    (h : ∀ u, TokOk T u → Q (.str (wd i) u) { s with toks := s.toks + 1 }) : wpAny (model prog w) A (call (.builtin "dict.get") [.ref 15, .int k t, .str (baseText "0x" 16 k) kk]) Q E s := by
  subst hk
  refine flags_get X (by rw [Int.one_mul]) hi ?_
  obtain ⟨u, e, hu⟩ := flagVal_is hi hT hkk
  rw [e]
  exact h u hu
theorem wd_len (p : Int) : (wd p).length ≤ 30 := by
  unfold wd
  have h : ∀ x ∈ wordsL, x.length ≤ 30 := by decide +kernel
  by_cases hp : p.toNat < wordsL.length
  · rw [List.getD_eq_getElem?_getD, List.getElem?_eq_getElem hp]
    exact h _ (List.getElem_mem hp)
  · rw [List.getD_eq_getElem?_getD, List.getElem?_eq_none (by omega)]
    exact Nat.zero_le _
theorem joinOk_words (ps : List Int) (hn : ps.length ≤ 40) : JoinOk (Str.ofString ", ") (ps.map wd) = true := by
  unfold JoinOk
  have e : ((ps.map wd).map (·.length)).sum ≤ ps.length * 30 := by
    clear hn
    induction ps with
    | nil => exact Nat.le_refl _
    | cons p ps ih =>
      simp only [List.map_cons, List.sum_cons, List.length_cons, Nat.succ_mul]
      have := wd_len p
      omega
  have e2 : (Str.ofString ", ").length = 2 := by decide
  rw [StrLaws.joinTotal, e2, List.length_map]
  unfold Builtin.Str.tooLong
  rw [PySem.sizeLine_eq]
  simp only [Bool.not_eq_true', decide_eq_false_iff_not]
  omega
theorem news_tail {h₀ h : Heap} {L : Addr} {p : Addr × Obj} {news : List (Addr × Obj)} (N : News h₀ L h (p :: news)) : News h₀ L h news := fun q hq => N q (List.mem_cons_of_mem _ hq)
local macro_rules | `(tactic| walk_at "execs cons") => `(tactic| refine wpAny_execs_cons ?_)
local macro_rules | `(tactic| walk_at "execs nil") => `(tactic| refine wpAny_execs_nil ?_)
local macro_rules | `(tactic| walk_at "exec For Name Call cons cons") => `(tactic| refine Hold.of ?_)
local macro_rules | `(tactic| walk_at "call builtin:str.join") => `(tactic| refine Hold.of ?_)
local macro_rules | `(tactic| walk_at "getMethod ref") => `(tactic| (refine' flags_method ?k1 ?_; (case k1 => exact Frag.In.keeps (by k_asm) (Fr.keep (by k_asm)))))
local macro_rules | `(tactic| walk_at "call builtin:dict.get") => `(tactic| refine Hold.of ?_)
local macro_rules | `(tactic| walk_at "call builtin:list.append") => `(tactic| refine Hold.of ?_)
local macro_rules | `(tactic| ktr_unf) => `(tactic| (intro y; (try dsimp only); (repeat' split) <;> first | (exfalso; simp_all +decide; done) | rfl | (subst_vars; rfl)))
local macro_rules | `(tactic| k_room) => `(tactic| ktr_room)

theorem c_flags (w : World) (mean : ExcName → Option Value) (mg mb : Str → Option Value) (news : List (Addr × Obj)) (ps : List Int) (t : Tok) (hs : ps.Pairwise (· < ·)) (hb : ∀ p ∈ ps, 0 ≤ p ∧ p < 32) :
    Spec 8 w mean mg mb 22 [.int (ms ps) t] news (fun t0 => 1 ≤ t0) (fun r tl t0 _ => tl = [] ∧ ∃ u, r = .str (textOf ps) u ∧ TokOk t0 u) := by
  refine' Spec_intro [(Str.ofString "flags", .int (ms ps) t)] ?k6 ?k7 ?k9 ?kB ?c2 ?c3 ?c4 ?c5 ?_
  (case k6 => k_is)
  (case k7 => k_is)
  (case k9 => exact fun _ => BindsTo.of_eq rfl)
  (case c5 => decide)
  (case kB => exact locs rfl)
  (case c2 => exact rfl)
  (case c3 => exact rfl)
  (case c4 => exact rfl)
  intro dp un gd cn cs a ccd cl outer base g L L' h tk s B X T hk hd hu hpre htk F N
  have mk : KstMark := kstMark
  k_steps
  rename_i D h1 o1 h2 F1 N1
  refine Hold.out ?_
  refine For_M (h₀ := g) rfl rfl (by passes_own) ?_
  refine wpAny_up ?_
  k_steps
  rename_i h3 tk3 t1 u1 v1 hR F3 N3 hk3 hup
  have hup' : tk ≤ tk3 := by dsimp only at hup; omega
  refine iter_rangeM rfl hR (by decide) (n := 32) (by rfl) F3 N3 (fun i m nw tk' => ∃ (pre post : List Int) (l : List (Str × Tok)) (c : Nat) (t2 : Tok) (ui uf : Option Value), ps = pre ++ post ∧ (∀ p ∈ pre, p < (i : Int)) ∧ (∀ p ∈ post, (i : Int) ≤ p) ∧ (post ≠ [] ∨ ps = []) ∧ l.map (·.1) = pre.map wd ∧ (∀ p ∈ l, TokOk s.toks p.2) ∧ nw = (D, listOf (strValues l).toArray c) :: news ∧ l.length ≤ i ∧
      m = fun y => if y = Str.ofString "flags" then some (Value.int (ms post) t2) else if y = Str.ofString "names" then some (Value.ref D) else if y = Str.ofString "i" then ui else if y = Str.ofString "flag" then uf else [(Str.ofString "flags", Value.int (ms ps) t)].reverse.lookup y) ?_ (fun _ _ _ _ _ _ h => h) ?_ ?_
  · refine' ⟨[], ps, [], 0, t, none, none, rfl, (fun _ h => nomatch h), (fun p hp => by have := hb p hp; omega), ?ea, rfl, (fun _ h => nomatch h), rfl, Nat.le_refl _, funext ?eb⟩
    (case eb => ktr_unf)
    (case ea => cases ps with | nil => exact .inr rfl | cons a b => exact .inl (by simp))
  · rintro i ti m₁ news₁ h4 tk4 own I hi ⟨pre, post, l, c, t2, ui, uf, hps, hpre', hpost, hne, hl, htok, rfl, hlen, rfl⟩ htk4 hneI hown F4 N4
    have ei : (0 : Int) + (i : Int) * 1 = (i : Int) := by omega
    rw [ei] at F4
    replace F4 : Fr g L' h4 _ := F4
    replace N4 : News g L' h4 _ := N4
    have F5 : Fr g L' h4 (fun y => if y = Str.ofString "flags" then some (Value.int (ms post) t2) else if y = Str.ofString "names" then some (Value.ref D) else if y = Str.ofString "i" then some (Value.int (i : Int) ti) else if y = Str.ofString "flag" then uf else [(Str.ofString "flags", Value.int (ms ps) t)].reverse.lookup y) := by
      refine Fr.congr F4 ?_
      ktr_unf
    clear F4 F3 N3 hk3 hR
    have hi32 : (i : Int) < 32 := by omega
    have hi0 : (0 : Int) ≤ (i : Int) := by omega
    have htk4' : tk3 ≤ tk4 := htk4
    have hoD : ∀ p ∈ own, p.1 ≠ D := fun p hp e => hneI _ List.mem_cons_self (by rw [← e]; exact hown p hp)
    k_steps
    · rename_i h6 F6 N6 hbit
      refine P.hex_of_int ?_ (by simpa using hexLen' hi)
      k_steps
      refine Hold.out ?_
      refine flags_get2 (i := i) (T := s.toks) (Frag.In.keeps X F6.keep) (by simp) hi hpre (by first | omega | (dsimp only; omega)) ?_
      intro u9 hu9
      have hpp : post.Pairwise (· < ·) := by rw [hps] at hs; exact (List.pairwise_append.mp hs).2.1
      rw [Int.toNat_natCast, Int.one_mul] at hbit
      obtain ⟨qs, rfl, hqs⟩ : ∃ qs, post = (i : Int) :: qs ∧ ∀ p ∈ qs, ((i + 1 : Nat) : Int) ≤ p := by
        rcases low_bit hpp hpost with h9 | h9
        · exact h9
        · obtain ⟨c9, hc9⟩ := ms_mult h9
          exact absurd (and_free hc9) hbit
      obtain ⟨c9, hc9⟩ := ms_mult hqs
      have hmsi : ms ((i : Int) :: qs) = 2 ^ i + 2 ^ (i + 1) * c9 := by rw [ms_cons, Int.toNat_natCast, hc9]
      k_steps
      refine Hold.out ?_
      refine append_K (its := (strValues l).toArray) F6 N6 (upd_mid (fun p hp => Nat.ne_of_lt (o1 p hp)) hoD) ?_ (by rw [List.size_toArray, PySem.sizeLine_eq, strValues_len]; omega)
      intro h7 F7 N7
      have hxor : Builtin.bitXor (ms ((i : Int) :: qs)) (1 * 2 ^ ((i : Int)).toNat) = ms qs := by
        rw [Int.toNat_natCast, Int.one_mul, xor_set hmsi, ms_cons, Int.toNat_natCast]; omega
      rw [List.push_toArray, ← strValues_snoc l (wd i, u9)] at N7
      have hl' : (l ++ [(wd i, u9)]).map (·.1) = (pre ++ [(i : Int)]).map wd := by rw [List.map_append, List.map_append, hl]; rfl
      have htok' : ∀ p ∈ l ++ [(wd i, u9)], TokOk s.toks p.2 := fun p hp => (List.mem_append.mp hp).elim (htok p) fun h9 => by rw [List.mem_singleton.mp h9]; exact hu9
      have hps' : ps = (pre ++ [(i : Int)]) ++ qs := by rw [hps]; simp
      k_steps
      · rename_i F8 N8 hx8
        rw [hxor] at F8 hx8
        have hneI' : ∀ p ∈ (D, listOf (strValues (l ++ [(wd i, u9)])).toArray (c + 1)) :: news, p.1 ≠ I := fun p hp => by
          rcases List.mem_cons.mp hp with rfl | hp
          · exact hneI (D, listOf (strValues l).toArray c) List.mem_cons_self
          · exact hneI p (List.mem_cons_of_mem _ hp)
        refine FPost.next F8 N8 (fun p hp hI => hneI' p hp (List.mem_singleton.mp hI)) ?_
        refine' ⟨pre ++ [(i : Int)], qs, l ++ [(wd i, u9)], c + 1, _, _, _, hps', ?ea, hqs, ?eb, hl', htok', rfl, ?ec, funext ?ed⟩
        (case ed => ktr_unf)
        (case ea =>
          intro p hp
          rcases List.mem_append.mp hp with h9 | h9
          · have := hpre' p h9; omega
          · rw [List.mem_singleton.mp h9]; omega)
        (case eb =>
          refine .inl fun e => ?_
          rw [e] at hx8
          exact hx8 ms_nil)
        (case ec => rw [List.length_append, List.length_singleton]; omega)
      · rename_i F8 N8 hx8
        rw [hxor] at hx8
        have hq0 : qs = [] := by
          cases qs with
          | nil => rfl
          | cons q qs => have := ms_pos q qs; omega
        subst hq0
        rw [List.append_nil] at hps'
        refine FPost.brk ?_
        dsimp only
        k_steps
        refine Hold.out ?_
        refine join_tok (l := l ++ [(wd i, u9)]) N8 (List.mem_append_right _ List.mem_cons_self) (by rw [hl']; exact joinOk_words _ (by rw [List.length_append, List.length_singleton, ← List.length_map (f := wd), ← hl, List.length_map]; omega)) ?_
        intro t' k' ht'
        rw [hl', ← hps']
        have hne : ps ≠ [] := by rw [hps']; simp
        have hcase : TokOk s.toks t' := by
          rcases ht' with ⟨p, e, rfl⟩ | rfl
          · exact htok' p (by rw [e]; exact List.mem_singleton.mpr rfl)
          · exact ⟨by dsimp only; omega, .inr (by dsimp only; omega)⟩
        exact BPost.ret0 F8 (news_tail (News.right N8)) fun _ => ⟨rfl, t', by unfold textOf; rw [if_neg hne], hcase⟩
    · rename_i hbit
      rename Fr _ _ _ _ => F6
      rename News _ _ _ _ => N6
      rw [Int.toNat_natCast, Int.one_mul] at hbit
      have hpp : post.Pairwise (· < ·) := by rw [hps] at hs; exact (List.pairwise_append.mp hs).2.1
      have hnext : ∀ p ∈ post, ((i + 1 : Nat) : Int) ≤ p := by
        rcases low_bit hpp hpost with ⟨qs, rfl, hqs⟩ | h9
        · exfalso
          obtain ⟨c9, hc9⟩ := ms_mult hqs
          rw [and_set (c := c9) (by rw [ms_cons, Int.toNat_natCast, hc9])] at hbit
          have := kbt_pos i
          omega
        · exact h9
      refine FPost.next F6 N6 (fun p hp hI => hneI p hp (List.mem_singleton.mp hI)) ?_
      refine' ⟨pre, post, l, c, _, _, _, hps, ?ea, hnext, hne, hl, htok, rfl, by omega, funext ?ed⟩
      (case ed => ktr_unf)
      (case ea => exact fun p hp => by have := hpre' p hp; omega)
  · rintro h4 tk4 m' news' F4 N4 ⟨pre, post, l, c, t2, ui, uf, hps, hpre', hpost, hne, hl, htok, rfl, hlen, rfl⟩ htk4
    have htk4' : tk3 ≤ tk4 := htk4
    have hpost0 : post = [] := by
      cases post with
      | nil => rfl
      | cons p q =>
        have h1 := hpost p List.mem_cons_self
        have h2 := hb p (by rw [hps]; simp)
        omega
    subst hpost0
    have hps0 : ps = [] := hne.elim (fun h => absurd rfl h) id
    rw [List.append_nil] at hps
    subst hps
    subst hps0
    have hl0 : l = [] := by simpa using hl
    subst hl0
    replace F4 : Fr g L' h4 _ := F4
    replace N4 : News g L' h4 _ := N4
    clear F3 N3 hk3 hR
    k_steps
    refine Hold.out ?_
    refine append_K (its := (strValues []).toArray) F4 N4 (Upd.head (fun p hp => Nat.ne_of_lt (o1 p hp))) ?_ (by rw [List.size_toArray, PySem.sizeLine_eq, strValues_len]; decide)
    intro h7 F7 N7
    rw [List.push_toArray, ← strValues_snoc [] (baseText "0x" 16 (ms []), tk4), List.nil_append] at N7
    k_steps
    refine Hold.out ?_
    refine join_tok (l := [(baseText "0x" 16 (ms []), tk4)]) N7 List.mem_cons_self (by rw [ms_nil]; show JoinOk _ [baseText "0x" 16 0] = true; rw [hex0]; decide +kernel) ?_
    intro t' k' ht'
    have hcase : TokOk s.toks t' := by
      rcases ht' with ⟨p, e, rfl⟩ | rfl
      · have : p = (baseText "0x" 16 (ms []), tk4) := by simpa using e.symm
        rw [this]; exact ⟨by dsimp only; omega, .inr (by dsimp only; omega)⟩
      · exact ⟨by dsimp only; omega, .inr (by dsimp only; omega)⟩
    exact BPost.ret0 F7 (news_tail N7) fun _ => ⟨rfl, t', by
      show Value.str (baseText "0x" 16 (ms [])) t' = _
      rw [ms_nil, hex0]; rfl, hcase⟩
end Mine

end

section
open PySem PySem.W PyProof.Rows
set_option Elab.async false
namespace Mine
set_option maxRecDepth 100000
set_option maxHeartbeats 8000000
theorem kfill5 (w : World) : ∀ h : Heap, (kTop.heap_1 w.params).In h → Challenge.rw_pe0054_01 = Challenge.rw_pe0054_01 := by w_top off; k_fill; exact fun _ _ => rfl

theorem statics_at (P : Params) : (kTop.heap_1 P).lookup cStatics = some { cls := Value.none, data := Data.dict #[] } := rfl
theorem none_booked' {P : Params} {h : Heap} (X : (kTop.heap_1 P).In h) : NoneBooked h :=
  ⟨fun n => nsFind #[] n, ⟨_, _, _, X _ _ (statics_at P), rfl, by intro e he; simp at he, fun _ => rfl⟩, rfl⟩

theorem is_str {M : Model} {A : Around} {E : Value → Shared → Prop} {s : Shared} {x y : Str} {t u : Tok} {Q : Value → Shared → Prop} (hb : NoneBooked s.heap) (ht : t ≠ 0) (hu : u ≠ 0) (hc : t = u → x = y)
    (h : ∀ b : Bool, (b = true → x = y) → Q (.bool b) s) : wpAny M A (compareOp .Is (.str x t) (.str y u)) Q E s := by
  show wpAny M A (do return .bool (← isSame (.str x t) (.str y u))) Q E s
  refine wpAny_bind ?_
  show wpAny M A (isSame.created (x == y) t u) _ E s
  unfold isSame.created
  refine wpAny_ite ?_
  split
  · rename_i h0; simp [ht, hu] at h0
  refine wpAny_ite ?_
  split
  · rename_i h1
    exact wpAny_pure (wpAny_pure (h true fun _ => hc (by simpa using h1)))
  refine wpAny_ite ?_
  split
  · exact wpAny_pure (wpAny_pure (h false fun e => nomatch e))
  rename_i h2
  have hxy : x = y := by simpa using h2
  refine wpAny_bind (wpAny_sharingNotTold_none hb ?_)
  first | rw [if_neg Bool.false_ne_true] | simp only [Bool.false_eq_true, if_false]
  refine wpAny_bind (wpAny_sharingNotTold_none hb ?_)
  first | rw [if_neg Bool.false_ne_true] | simp only [Bool.false_eq_true, if_false]
  exact wpAny_bind (wpAny_rule (wpAny_bind (wpAny_askSetting (wpAny_pure (wpAny_pure (h _ fun _ => hxy))))))

theorem StrsAre.at' : ∀ {vs : List Value} {ys : List Str}, StrsAre vs ys → ∀ (i : Nat) (v : Value), vs[i]? = some v → ∃ y t, v = .str y t ∧ ys[i]? = some y
  | _, _, .cons y t _, 0, v, e => by simp at e; exact ⟨y, t, e.symm, rfl⟩
  | _, _, .cons _ _ h, i + 1, v, e => by simpa using StrsAre.at' h i v (by simpa using e)

/-- Tokens that tell the texts of vs apart from the text y of token u. -/
def Apart (vs : List Value) (y : Str) (u : Tok) : Prop := u ≠ 0 ∧ ∀ v ∈ vs, ∃ x t, v = .str x t ∧ t ≠ 0 ∧ (t = u → x = y)

local macro_rules | `(tactic| walk_at "exec For Tuple cons Call cons cons") => `(tactic| refine Hold.of ?_)
local macro_rules | `(tactic| walk_at "exec For") => `(tactic| refine Hold.of ?_)
local macro_rules | `(tactic| walk_at "compareOp Is str str") => `(tactic| (refine' is_str ?k1 ?k2 ?k3 ?k4 ?_; (case k1 => exact none_booked' (Frag.In.keeps (by k_asm) (Fr.keep (by k_asm)))); (case k2 => assumption); (case k3 => assumption); (case k4 => assumption); intro b9 hb9))
local macro_rules | `(tactic| walk_at "call type:enumerate") => `(tactic| refine Hold.of ?_)

local macro_rules | `(tactic| ktr_unf) => `(tactic| (intro y; (try dsimp only); (repeat' split) <;> first | rfl | (exfalso; simp_all; done) | (exfalso; simp_all +decide; done) | (subst_vars; rfl)))
theorem idxOf_first : ∀ (ws : List Str) (i : Nat) (y : Str), ws[i]? = some y → (∀ k, k < i → ws[k]? ≠ some y) → ws.idxOf y = i
  | [], i, y, h, _ => by simp at h
  | a :: ws, 0, y, h, _ => by
    have : a = y := by simpa using h
    subst this; simp
  | a :: ws, i + 1, y, h, hb => by
    have ha : a ≠ y := by have := hb 0 (Nat.succ_pos _); simpa using this
    have h' := idxOf_first ws i y (by simpa using h) (fun k hk => by have := hb (k + 1) (Nat.succ_lt_succ hk); simpa using this)
    have hab : (a == y) = false := by simpa using ha
    rw [List.idxOf_cons, h', hab]
    rfl
theorem c_index (w : World) (mean : ExcName → Option Value) (mg mb : Str → Option Value) (news : List (Addr × Obj)) (l : Addr) (vs : List Value) (c : Nat) (ws : List Str) (y : Str) (u : Tok)
    (hm : (l, listOf vs.toArray c) ∈ news) (hS : StrsAre vs ws) (hA : Apart vs y u) (hy : y ∈ ws) :
    Spec 4 w mean mg mb 85 [.ref l, .str y u] news (fun _ => True) (IntBack ((ws.idxOf y : Nat) : Int)) := by
  refine' Spec_intro [(Str.ofString "a", .ref l), (Str.ofString "b", .str y u)] ?k6 ?k7 ?k9 ?kB ?c2 ?c3 ?c4 ?c5 ?_
  (case k6 => k_is)
  (case k7 => k_is)
  (case k9 => exact fun _ => BindsTo.of_eq rfl)
  (case c5 => decide)
  (case kB => exact locs rfl)
  (case c2 => exact rfl)
  (case c3 => exact rfl)
  (case c4 => exact rfl)
  intro dp un gd cn cs a ccd cl outer base g L L' h tk s B X T hk hd hu hpre htk F N
  have mk : KstMark := kstMark
  k_steps
  refine Hold.out ?_
  refine For_pairM (h₀ := g) rfl rfl rfl rfl (by passes_own) ?_
  k_steps
  refine Hold.out ?_
  refine enum_callM rfl ⟨_, hm, rfl, _, rfl⟩ F N (fun i m => (∀ k, k < i → ws[k]? ≠ some y) ∧ ∃ ui uj, m = fun z => if z = Str.ofString "j" then uj else if z = Str.ofString "i" then ui else [(Str.ofString "a", Value.ref l), (Str.ofString "b", Value.str y u)].reverse.lookup z) ?_ ?_ ?_
  · refine' ⟨fun _ h => absurd h (Nat.not_lt_zero _), none, none, funext ?e⟩
    (case e => ktr_unf)
  · rintro i v t m₁ h2 tk2 own hv ⟨hbef, ui, uj, rfl⟩ F2 N2
    obtain ⟨x, t', rfl, hx⟩ := StrsAre.at' hS i v hv
    obtain ⟨hu0, hA2⟩ := hA
    obtain ⟨x9, t9, e9, ht0, hsame⟩ := hA2 _ (List.mem_of_getElem? hv)
    obtain ⟨rfl, rfl⟩ : x = x9 ∧ t' = t9 := by simpa using e9
    replace F2 : Fr g L' h2 _ := F2
    replace N2 : News g L' h2 _ := N2
    clear F N
    k_steps
    · have hxy : x = y := ‹_ = true → x = y› ‹_ = true›
      subst hxy
      dsimp only
      exact BPost.ret0 F2 N2.right fun _ => ⟨rfl, _, by rw [idxOf_first ws i x hx hbef]⟩
    · have hxy : x = y := by simpa using ‹(x == y) = true›
      subst hxy
      dsimp only
      exact BPost.ret0 F2 N2.right fun _ => ⟨rfl, _, by rw [idxOf_first ws i x hx hbef]⟩
    · have hxy : x ≠ y := by simpa using ‹(x == y) = false›
      refine LPost.next F2 N2 ?_
      refine' ⟨fun k hk => ?ea, _, _, funext ?eb⟩
      (case eb => ktr_unf)
      (case ea =>
        rcases Nat.lt_succ_iff_lt_or_eq.mp hk with h1 | h1
        · exact hbef k h1
        · subst h1; rw [hx]; simpa using hxy)
  · rintro h2 tk2 m' F2 N2 ⟨hbef, _⟩
    exfalso
    obtain ⟨k, hk, e⟩ := List.mem_iff_getElem.mp hy
    exact hbef k (by rw [hS.length]; exact hk) (by rw [List.getElem?_eq_getElem hk, e])

theorem in_strs {prog : Program} {w : World} {A : Around} {E : Value → Shared → Prop} {s : Shared} {h₀ : Heap} {L : Addr} {news : List (Addr × Obj)} {l : Addr} {vs : List Value} {ws : List Str} {c : Nat} {y : Str} {u : Tok} {Q : Value → Shared → Prop}
    (N : News h₀ L s.heap news) (hm : (l, listOf vs.toArray c) ∈ news) (hS : StrsAre vs ws) (h : Q (.bool (ws.any (· == y))) s) : wpAny (model prog w) A (compareOp .In (.str y u) (.ref l)) Q E s :=
  in_list_strs ⟨_, (N _ hm).1, rfl, c, rfl⟩ hS h
local macro_rules | `(tactic| walk_at "compareOp In str ref") => `(tactic| (refine' in_strs ?k1 ?k2 ?k3 ?_; (case k1 => k_asm); (case k2 => assumption); (case k3 => assumption)))
theorem c_cont (w : World) (mean : ExcName → Option Value) (mg mb : Str → Option Value) (news : List (Addr × Obj)) (l : Addr) (vs : List Value) (c : Nat) (ws : List Str) (y : Str) (u : Tok)
    (hm : (l, listOf vs.toArray c) ∈ news) (hS : StrsAre vs ws) :
    Spec 4 w mean mg mb 71 [.ref l, .str y u] news (fun _ => True) (BoolBack (ws.any (· == y))) := by
  refine' Spec_intro [(Str.ofString "a", .ref l), (Str.ofString "b", .str y u)] ?k6 ?k7 ?k9 ?kB ?c2 ?c3 ?c4 ?c5 ?_
  (case k6 => k_is)
  (case k7 => k_is)
  (case k9 => exact fun _ => BindsTo.of_eq rfl)
  (case c5 => decide)
  (case kB => exact locs rfl)
  (case c2 => exact rfl)
  (case c3 => exact rfl)
  (case c4 => exact rfl)
  intro dp un gd cn cs a ccd cl outer base g L L' h tk s B X T hk hd hu hpre htk F N
  have mk : KstMark := kstMark
  k_steps
  exact BPost.ret0 (by assumption) (by assumption) fun _ => ⟨rfl, rfl⟩
end Mine

end

section
open PySem PySem.W PyProof.Rows
set_option Elab.async false
namespace Mine
set_option maxRecDepth 100000
set_option maxHeartbeats 8000000
theorem kfill6 (w : World) : ∀ h : Heap, (kTop.heap_1 w.params).In h → Challenge.rw_pe0054_01 = Challenge.rw_pe0054_01 := by w_top off; k_fill; exact fun _ _ => rfl
local macro_rules | `(tactic| walk_at "exec For Name Name cons nil") => `(tactic| refine Hold.of ?_)

local macro_rules | `(tactic| walk_at "call ref") => `(tactic| refine Hold.of ?_)
local macro_rules | `(tactic| walk_at "call ref") => `(tactic| k_dflt (refine' c_add _ _ _ _ _ _ _ _ _  _ _ _ _ _ _ _ _ _ _ _ _ _ _ _ _ _ ?k1 ?k2 ?k3 ?k4 ?k5 ?kK ?kd ?ku trivial ?_; (case k4 => k_asm); (case k1 => k_asm); (case k2 => k_asm); (case k3 => k_asm); (case k5 => k_asm); (case kK => exact rfl); (case kd => ktr_room); (case ku => ktr_units); intro r9 tl9 h9 tk9 F9 N9 o9 u9 p9; (obtain ⟨e91, t9, e92⟩ := p9); subst e91; subst e92; clear o9; (simp only [List.nil_append] at N9); (try dsimp only)))
local macro_rules | `(tactic| walk_at "call ref") => `(tactic| k_dflt (refine' c_item _ _ _ _ _ _ _ _ _ _ _ ?q1 ?q2 ?q3 ?q4 ?q5 _ _ _ _ _ _ _ _ _ _ _ _ _ _ _ _ _ ?k1 ?k2 ?k3 ?k4 ?k5 ?kK ?kd ?ku trivial ?_; (case k4 => k_asm); (case k1 => k_asm); (case k2 => k_asm); (case k3 => k_asm); (case k5 => k_asm); (case kK => exact rfl); (case q1 => kcf_m); (case q2 => assumption); (case q3 => omega); (case q4 => (rw [worthsL_len]; omega)); (case q5 => (rw [worthsL_len]; omega)); (case kd => ktr_room); (case ku => ktr_units); intro r9 tl9 h9 tk9 F9 N9 o9 u9 p9; (obtain ⟨e91, t9, e92⟩ := p9); subst e91; subst e92; clear o9; (simp only [List.nil_append] at N9); (try dsimp only)))
local macro_rules | `(tactic| ktr_unf) => `(tactic| (intro y; (try dsimp only); (repeat' split) <;> first | rfl | (exfalso; simp_all; done) | (exfalso; simp_all +decide; done) | (subst_vars; rfl)))
local macro_rules | `(tactic| k_room) => `(tactic| ktr_room)
theorem sum_take {as : List Int} {i : Nat} {p : Int} (f : Int → Int) (h : as[i]? = some p) : ((as.take (i + 1)).map f).sum = ((as.take i).map f).sum + f p := by
  rw [List.take_add_one, h]
  simp
theorem c_prod (w : World) (mean : ExcName → Option Value) (mg mb : Str → Option Value) (news : List (Addr × Obj)) (la lb lw : Addr) (as bs : List Int)
    (ha : LInts news la as) (hb : LInts news lb bs) (hw : LInts news lw worthsL) (ha1 : ∀ p ∈ as, 0 ≤ p) (hb1 : ∀ p ∈ bs, 0 ≤ p) (hab : ∀ p ∈ as, ∀ q ∈ bs, p + q + 2 < 50) :
    Spec 8 w mean mg mb 116 [.ref la, .ref lb, .ref lw] news (fun _ => True) (fun r tl _ _ => tl = [] ∧ ∃ t', r = .int ((as.map fun p => (bs.map fun q => worthsL.getD (p + q + 2).toNat 0).sum).sum) t') := by
  refine' Spec_intro [(Str.ofString "some", .ref la), (Str.ofString "others", .ref lb), (Str.ofString "worths", .ref lw)] ?k6 ?k7 ?k9 ?kB ?c2 ?c3 ?c4 ?c5 ?_
  (case k6 => k_is)
  (case k7 => k_is)
  (case k9 => exact fun _ => BindsTo.of_eq rfl)
  (case c5 => decide)
  (case kB => exact locs rfl)
  (case c2 => exact rfl)
  (case c3 => exact rfl)
  (case c4 => exact rfl)
  intro dp un gd cn cs a ccd cl outer base g L L' h tk s B X T hk hd hu hpre htk F N
  have mk : KstMark := kstMark
  obtain ⟨va, ka, hma, hIa⟩ := ha
  obtain ⟨vb, kb, hmb, hIb⟩ := hb
  obtain ⟨vw, kw, hmw, hIw⟩ := hw
  k_steps
  rename_i h1 F1 N1
  refine Hold.out ?_
  refine For_M (h₀ := g) rfl rfl (by passes_own) ?_
  k_steps
  refine iter_listM rfl ⟨_, hma, rfl, _, rfl⟩ F1 N1 (fun i m _ => ∃ t up uq, m = fun y => if y = Str.ofString "total" then some (Value.int (((as.take i).map fun p => (bs.map fun q => worthsL.getD (p + q + 2).toNat 0).sum).sum) t) else if y = Str.ofString "p" then up else if y = Str.ofString "q" then uq else
      [(Str.ofString "some", Value.ref la), (Str.ofString "others", Value.ref lb), (Str.ofString "worths", Value.ref lw)].reverse.lookup y) ?_ (fun _ _ _ _ _ h => h) ?_ ?_
  · refine' ⟨_, none, none, funext ?e⟩
    (case e => ktr_unf)
  · rintro i v m₁ h2 tk2 own hv ⟨t1, up, uq, rfl⟩ htk2 F2 N2
    obtain ⟨p, tp, rfl, hp⟩ := IntsAre.at hIa i v hv
    have hp0 := ha1 p (List.mem_of_getElem? hp)
    replace F2 : Fr g L' h2 _ := F2
    replace N2 : News g L' h2 _ := N2
    have F3 : Fr g L' h2 (fun y => if y = Str.ofString "total" then some (Value.int (((as.take i).map fun p => (bs.map fun q => worthsL.getD (p + q + 2).toNat 0).sum).sum) t1) else if y = Str.ofString "p" then some (Value.int p tp) else if y = Str.ofString "q" then uq else
      [(Str.ofString "some", Value.ref la), (Str.ofString "others", Value.ref lb), (Str.ofString "worths", Value.ref lw)].reverse.lookup y) := by
      refine Fr.congr F2 ?_
      ktr_unf
    clear F2 F1 N1
    generalize hS : (((as.take i).map fun p => (bs.map fun q => worthsL.getD (p + q + 2).toNat 0).sum).sum) = S at F3
    k_steps
    refine Hold.out ?_
    refine For_M (h₀ := g) rfl rfl (by passes_own) ?_
    k_steps
    refine iter_listM rfl ⟨_, List.mem_append_right _ hmb, rfl, _, rfl⟩ F3 N2 (fun j m _ => ∃ t uq, m = fun y => if y = Str.ofString "total" then some (Value.int (S + ((bs.take j).map fun q => worthsL.getD (p + q + 2).toNat 0).sum) t) else if y = Str.ofString "p" then some (Value.int p tp) else if y = Str.ofString "q" then uq else
      [(Str.ofString "some", Value.ref la), (Str.ofString "others", Value.ref lb), (Str.ofString "worths", Value.ref lw)].reverse.lookup y) ?_ (fun _ _ _ _ _ h => h) ?_ ?_
    · refine' ⟨t1, _, funext ?e⟩
      (case e =>
        simp only [List.take_zero, List.map_nil, List.sum_nil, Int.add_zero]
        ktr_unf)
    · rintro j v m₁ h4 tk4 own2 hv2 ⟨t2, uq2, rfl⟩ htk4 F4 N4
      obtain ⟨q, tq, rfl, hq⟩ := IntsAre.at hIb j v hv2
      have hq0 := hb1 q (List.mem_of_getElem? hq)
      have hpq := hab p (List.mem_of_getElem? hp) q (List.mem_of_getElem? hq)
      replace F4 : Fr g L' h4 _ := F4
      replace N4 : News g L' h4 _ := N4
      have F5 : Fr g L' h4 (fun y => if y = Str.ofString "total" then some (Value.int (S + ((bs.take j).map fun q => worthsL.getD (p + q + 2).toNat 0).sum) t2) else if y = Str.ofString "p" then some (Value.int p tp) else if y = Str.ofString "q" then some (Value.int q tq) else
        [(Str.ofString "some", Value.ref la), (Str.ofString "others", Value.ref lb), (Str.ofString "worths", Value.ref lw)].reverse.lookup y) := by
        refine Fr.congr F4 ?_
        ktr_unf
      clear F4 F3 N2
      generalize hR : S + ((bs.take j).map fun q => worthsL.getD (p + q + 2).toNat 0).sum = R at F5
      k_steps
      rename_i F6 N6
      refine LPost.next F6 (by assumption) ?_
      refine' ⟨_, _, funext ?e⟩
      (case e =>
        rw [sum_take _ hq, ← Int.add_assoc, hR]
        ktr_unf)
    · rintro h4 tk4 m' F4 N4 ⟨t2, uq2, rfl⟩ htk4
      replace F4 : Fr g L' h4 _ := F4
      replace N4 : News g L' h4 _ := N4
      k_steps
      refine LPost.next F4 N4 ?_
      refine' ⟨_, _, _, funext ?e⟩
      (case e =>
        rw [sum_take _ hp, hS, hIb.length, List.take_length]
        ktr_unf)
  · rintro h4 tk4 m' F4 N4 ⟨t2, up2, uq2, rfl⟩ htk4
    replace F4 : Fr g L' h4 _ := F4
    replace N4 : News g L' h4 _ := N4
    rw [hIa.length, List.take_length] at F4
    k_steps
    exact BPost.ret0 F4 N4 fun _ => ⟨rfl, _, rfl⟩
end Mine

end

section
open PySem PySem.W PyProof.Rows
set_option Elab.async false
namespace Mine
set_option maxRecDepth 100000
set_option maxHeartbeats 8000000
local macro_rules | `(tactic| k_all) => `(tactic| exact ne_all (by assumption))
local macro_rules | `(tactic| walk_at "exec While Compare cons nil") => `(tactic| refine Hold.of ?_)
theorem kfill7 (w : World) : ∀ h : Heap, (kTop.heap_1 w.params).In h → Challenge.rw_pe0054_01 = Challenge.rw_pe0054_01 := by w_top off; k_fill; exact fun _ _ => rfl

theorem half_pow (n : Nat) : (2 ^ (n + 1) / 2 : Int) = 2 ^ n := by rw [Int.pow_succ]; exact Int.mul_ediv_cancel _ (by decide)
theorem pow_pos' (n : Nat) : (0 : Int) < 2 ^ n := Int.pow_pos (by decide)
local macro_rules | `(tactic| ktr_unf) => `(tactic| (intro y; (repeat' split) <;> first | rfl | (exfalso; simp_all; done) | (exfalso; subst_vars; revert ‹_›; decide)))

theorem c_whole (w : World) (mean : ExcName → Option Value) (mg mb : Str → Option Value) (news : List (Addr × Obj)) (x : Int) (t : Tok) (h0 : 0 ≤ x) (h1 : x < 6000000) :
    Spec 4 w mean mg mb 123 [.int x t] news (fun _ => True) (fun r tl _ _ => tl = [] ∧ ∃ root t', r = .int (Int.fdiv (3 * (x + 1) - root - 1) 2) t' ∧ 0 ≤ root ∧ root * root ≤ 5 * (x + 1) * (x + 1) ∧ 5 * (x + 1) * (x + 1) < (root + 1) * (root + 1)) := by
  refine' Spec_intro [(Str.ofString "number", .int x t)] ?k6 ?k7 ?k9 ?kB ?c2 ?c3 ?c4 ?c5 ?_
  (case k6 => k_is)
  (case k7 => k_is)
  (case k9 => exact fun _ => BindsTo.of_eq rfl)
  (case c5 => decide)
  (case kB => exact locs rfl)
  (case c2 => exact rfl)
  (case c3 => exact rfl)
  (case c4 => exact rfl)
  intro dp un gd cn cs a ccd cl outer base g L L' h tk s B X T hk hd hu hpre htk F N
  have mk : KstMark := kstMark
  k_steps
  rename_i h1 h2 h3 F' N'
  refine Hold.out ?_
  refine While_inv (fun n s' => ∃ h tk rt t1 t2 t3, s' = { s with heap := h, toks := tk } ∧ n ≤ 24 ∧ 0 ≤ rt ∧ rt + 2 ^ n ≤ 2 ^ 24 ∧ rt * rt ≤ 5 * (x + 1) * (x + 1) ∧ 5 * (x + 1) * (x + 1) < (rt + 2 ^ n) * (rt + 2 ^ n) ∧
    Fr g L' h (fun y => if y = Str.ofString "step" then some (Value.int (2 ^ n / 2) t1) else if y = Str.ofString "root" then some (Value.int rt t2) else if y = Str.ofString "more" then some (Value.int (x + 1) t3) else [(Str.ofString "number", Value.int x t)].reverse.lookup y) ∧ News g L' h news) (by passes_own) ?_ 24 ?_
  · rintro n s' ⟨h4, tk4, rt, t1, t2, t3, rfl, hn, hr0, hr1, hr2, hr3, F4, N4⟩
    clear F' N'
    have hst : (0 : Int) ≤ 2 ^ n / 2 := Int.ediv_nonneg (Int.le_of_lt (pow_pos' n)) (by decide)
    have hpp := pow_pos' n
    have hst2 : (2 ^ n / 2 : Int) ≤ 8388608 := by
      have : (2 ^ n : Int) ≤ 2 ^ 24 := by omega
      omega
    have hrb : rt < 16777216 := by omega
    generalize hstp : (2 ^ n / 2 : Int) = st at F4 hst hst2
    k_steps
    by_cases hlt : 0 < st
    · refine WhlIf.yes (decide_eq_true hlt) ?_
      have hn1 : ∃ n', n = n' + 1 ∧ st = 2 ^ n' := by
        cases n with
        | zero => exfalso; revert hstp; simp; omega
        | succ n' => exact ⟨n', rfl, by rw [← hstp]; exact half_pow n'⟩
      obtain ⟨n', rfl, hst'⟩ := hn1
      have e2 : (2 ^ (n' + 1) : Int) = 2 ^ n' + 2 ^ n' := by rw [Int.pow_succ]; omega
      clear hstp
      rw [e2, ← hst'] at hr1 hr3
      k_steps
      · rename_i hle h5 h6 F6 N6
        refine' ⟨n', by omega, h6, _, rt + st, _, _, t3, rfl, by omega, by omega, ?pa, hle, ?pb, ?pc, N6⟩
        (case pc =>
          refine Fr.congr F6 ?_
          rw [← hst', ← Int.fdiv_eq_ediv_of_nonneg st (by decide : (0 : Int) ≤ 2)]
          ktr_unf)
        (case pa => rw [← hst']; omega)
        (case pb =>
          rw [← hst']
          have : rt + st + st = rt + (st + st) := by omega
          rw [this]; exact hr3)
      · rename_i hle h6 F6 N6
        refine' ⟨n', by omega, h6, _, rt, _, t2, t3, rfl, by omega, by omega, ?pa, hr2, ?pb, ?pc, N6⟩
        (case pc =>
          refine Fr.congr F6 ?_
          rw [← hst', ← Int.fdiv_eq_ediv_of_nonneg st (by decide : (0 : Int) ≤ 2)]
          ktr_unf)
        (case pa => rw [← hst']; omega)
        (case pb => rw [← hst']; omega)
    · refine WhlIf.no (decide_eq_false hlt) ?_
      have hn0 : n = 0 := by
        cases n with
        | zero => rfl
        | succ n' => rw [half_pow] at hstp; have := pow_pos' n'; omega
      subst hn0
      k_steps
      dsimp only
      exact BPost.ret0 F4 N4 fun _ => ⟨rfl, rt, _, rfl, hr0, hr2, by simpa using hr3⟩
  · refine' ⟨_, _, 0, _, _, _, rfl, by omega, by omega, by omega, ?pa, ?pb, Fr.congr F' ?pc, N'⟩
    (case pc => ktr_unf)
    · have : 0 ≤ 5 * (x + 1) * (x + 1) := Int.mul_nonneg (by omega) (by omega)
      omega
    · have h2 : (x + 1) * (x + 1) ≤ 6000000 * 6000000 := Int.mul_le_mul (by omega) (by omega) (by omega) (by omega)
      rw [Int.mul_assoc]
      have : (0 + 2 ^ 24) * (0 + 2 ^ 24) = (281474976710656 : Int) := by decide
      rw [this]
      omega
end Mine

end

section
open PySem PySem.W PyProof.Rows
set_option Elab.async false
namespace Mine
set_option maxRecDepth 100000
set_option maxHeartbeats 8000000
theorem kfill8 (w : World) : ∀ h : Heap, (kTop.heap_1 w.params).In h → Challenge.rw_pe0054_01 = Challenge.rw_pe0054_01 := by w_top off; k_fill; exact fun _ _ => rfl

/-- root is the whole part of the square root of 5 (x + 1)^2. -/
def IsRt (x root : Int) : Prop := 0 ≤ root ∧ root * root ≤ 5 * (x + 1) * (x + 1) ∧ 5 * (x + 1) * (x + 1) < (root + 1) * (root + 1)
def WPart (x v : Int) : Prop := ∃ root, IsRt x root ∧ v = Int.fdiv (3 * (x + 1) - root - 1) 2
theorem rt_le {x root : Int} (h0 : 0 ≤ x) (h1 : x < 6000000) (h : IsRt x root) : root < 16777216 := by
  by_cases h' : root < 16777216
  · exact h'
  · exfalso
    replace h' := Int.not_lt.mp h'
    have h2 : (x + 1) * (x + 1) ≤ 6000000 * 6000000 := Int.mul_le_mul (by omega) (by omega) (by omega) (by omega)
    have h3 : 16777216 * 16777216 ≤ root * root := Int.mul_le_mul h' h' (by decide) (by omega)
    have h4 := h.2.1
    rw [Int.mul_assoc] at h4
    omega
theorem wp_bnd {x v : Int} (h0 : 0 ≤ x) (h1 : x < 6000000) (h : WPart x v) : -100000000 < v ∧ v < 100000000 := by
  obtain ⟨root, hr, rfl⟩ := h
  have := rt_le h0 h1 hr
  have h2 := hr.1
  rw [Int.fdiv_eq_ediv_of_nonneg _ (by decide)]
  omega

local macro_rules | `(tactic| walk_at "never") => `(tactic| fail "never")
local macro_rules | `(tactic| walk_at "call ref") => `(tactic| (refine' c_whole _ _ _ _ _ _ _ ?p0 ?p1 _ _ _ _ _ _ _ _ _ _ _ _ _ _ _ _ _ ?k1 ?k2 ?k3 ?k4 ?k5 ?kK ?kd ?ku trivial ?_; (case k1 => k_asm); (case k2 => k_asm); (case k3 => k_asm); (case k4 => k_asm); (case k5 => k_asm); (case kK => exact rfl); (case p0 => omega); (case p1 => omega); (case kd => ktr_room); (case ku => ktr_units); intro r9 tl9 h9 tk9 F9 N9 o9 u9 p9; (obtain ⟨e91, root9, t9, e92, q1, q2, q3⟩ := p9); subst e91; subst e92; (have q4 : WPart _ _ := ⟨root9, ⟨q1, q2, q3⟩, rfl⟩); (have q5 := wp_bnd (by omega) (by omega) q4); (obtain ⟨q6, q7⟩ := q5); (generalize hv9 : Int.fdiv (3 * (_ + 1) - root9 - 1) 2 = v9 at q4 q6 q7); clear hv9 q1 q2 q3 o9 u9; (simp only [List.nil_append] at N9); (try dsimp only)))

theorem c_due (w : World) (mean : ExcName → Option Value) (mg mb : Str → Option Value) (news : List (Addr × Obj)) (x y : Int) (t u : Tok) (hx0 : 0 ≤ x) (hx1 : x < 6000000) (hy0 : 0 ≤ y) (hy1 : y < 6000000) :
    Spec 8 w mean mg mb 130 [.int x t, .int y u] news (fun _ => True) (fun r tl _ _ => tl = [] ∧ ∃ wx wy t', r = .int (3 * x * y - x * wy - y * wx) t' ∧ WPart x wx ∧ WPart y wy) := by
  refine' Spec_intro [(Str.ofString "x", .int x t), (Str.ofString "y", .int y u)] ?k6 ?k7 ?k9 ?kB ?c2 ?c3 ?c4 ?c5 ?_
  (case k6 => k_is)
  (case k7 => k_is)
  (case k9 => exact fun _ => BindsTo.of_eq rfl)
  (case c5 => decide)
  (case kB => exact locs rfl)
  (case c2 => exact rfl)
  (case c3 => exact rfl)
  (case c4 => exact rfl)
  intro dp un gd cn cs a ccd cl outer base g L L' h tk s B X T hk hd hu hpre htk F N
  have mk : KstMark := kstMark
  k_steps
  exact BPost.ret0 (by assumption) (by assumption) fun _ => ⟨rfl, _, _, _, rfl, by assumption, by assumption⟩
end Mine

end

section
open PySem PySem.W PyProof.Rows
set_option Elab.async false
namespace Mine
set_option maxRecDepth 100000
open LCg (NsObj Off3 Off1 lst SrcAt)

theorem mem_of_any {ws : List Str} {y : Str} (h : ws.any (· == y) = true) : y ∈ ws := by
  obtain ⟨a, ha, e⟩ := List.any_eq_true.mp h
  have : a = y := by simpa using e
  exact this ▸ ha
theorem strValues_get : ∀ (l : List (Str × Tok)) (i : Nat), (strValues l)[i]? = (l[i]?).map fun p => .str p.1 p.2
  | [], i => by simp [strValues]
  | p :: l, 0 => by simp [strValues]
  | p :: l, i + 1 => by simpa [strValues] using strValues_get l i

section
variable {prog : Program} {w : World} {A : Around} {h₀ : Heap} {L : Addr} {m : Str → Option Value} {env : Env} {ct elt : Expr} {x : Str} {scope : Scope} {cl : List (Str × Addr)} {s : Shared} {S : List (Addr × Obj) → Prop} {Fin : List Value → List (Addr × Obj) → Prop} {news : List (Addr × Obj)}

/-- A comprehension with a test over a list of texts, its elements ints. -/
theorem restT {l : List (Str × Tok)} (b : Str → Bool) (f : Str → Int)
    (turn : ∀ (i : Nat) y u I oI C oC D m₂ ys h tk (E' : Value → Shared → Prop), l[i]? = some (y, u) → NsObj oC m₂ → m₂ x = some (.str y u) → Fr h₀ L h m → News h₀ L h ((I, oI) :: (C, oC) :: (D, lst ys) :: news) → Off3 I C D news → ((@Ne Nat I C) ∧ (@Ne Nat I D) ∧ (@Ne Nat C D)) →
      wpAny (model prog w) A (isTrue ct (compEnvC scope cl C env) (eval ct (compEnvC scope cl C env))) (fun ok s' => if ok = true then
        wpAny (model prog w) A (eval elt (compEnvC scope cl C env)) (LCg.CompEnd h₀ L m { s with heap := h, toks := tk } I oI C oC D (lst ys) S (fun r news' => news' = news ∧ b y = true ∧ ∃ t, r = .int (f y) t)) E' s'
        else LCg.CompEnd h₀ L m { s with heap := h, toks := tk } I oI C oC D (lst ys) S (fun _ news' => news' = news ∧ b y = false) Value.none s') E' { s with heap := h, toks := tk })
    (fin : ∀ ys, IntsAre ys (((l.map (·.1)).filter b).map f) → Fin ys news) :
    LCt.CompRestT prog w A h₀ L m env ct elt x scope cl s S (fun i v => (strValues l).toArray[i]? = some v) Fin (strValues l).toArray.size 0 [] news := by
  have hsz : (strValues l).toArray.size = l.length := by rw [List.size_toArray, strValues_len]
  rw [hsz]
  have key : ∀ (j i : Nat) (ys : List Value), i + j = l.length → IntsAre ys ((((l.take i).map (·.1)).filter b).map f) → LCt.CompRestT prog w A h₀ L m env ct elt x scope cl s S (fun i v => (strValues l).toArray[i]? = some v) Fin j i ys news := by
    intro j
    induction j with
    | zero =>
      intro i ys hi hy
      obtain rfl : i = l.length := by omega
      rw [List.take_length] at hy
      exact LCt.CompRestT.zero (fin ys hy)
    | succ j ih =>
      intro i ys hi hy
      refine LCt.CompRestT.succ ?_
      intro v I oI C oC D m₂ h tk E' hv hC hx F N off ne
      have hv' : (l[i]?).map (fun p => Value.str p.1 p.2) = some v := by rw [← strValues_get]; simpa using hv
      obtain ⟨⟨y, u⟩, hl, rfl⟩ := Option.map_eq_some_iff.mp hv'
      have htk : (l.take (i + 1)).map (·.1) = (l.take i).map (·.1) ++ [y] := by rw [List.take_add_one, hl]; simp
      refine wpAny_mono (turn i y u I oI C oC D m₂ ys h tk E' hl hC hx F N off ne) (fun ok s₂ hq => ?_) fun _ _ e => e
      cases ok with
      | true =>
        simp only [if_true] at hq ⊢
        refine wpAny_mono hq (fun r s₃ hq => ?_) fun _ _ e => e
        obtain ⟨h', tk', nw, e, F', N', off', hS, rfl, hb, t, rfl⟩ := hq
        refine ⟨h', tk', nw, e, F', N', off', hS, ih (i + 1) _ (by omega) ?_⟩
        rw [htk, List.filter_append]
        simp only [List.filter_cons, List.filter_nil, hb, if_true, List.map_append, List.map_cons, List.map_nil]
        exact IntsAre.append hy (.cons _ t .nil)
      | false =>
        simp only [Bool.false_eq_true, if_false] at hq ⊢
        obtain ⟨h', tk', nw, e, F', N', off', hS, rfl, hb⟩ := hq
        refine ⟨h', tk', nw, e, F', N', off', hS, ih (i + 1) _ (by omega) ?_⟩
        rw [htk, List.filter_append]
        simp only [List.filter_cons, List.filter_nil, hb, Bool.false_eq_true, if_false, List.append_nil]
        exact hy
  exact key l.length 0 [] (by omega) .nil

/-- A comprehension over a list of ints, its elements texts. -/
theorem restS {vs : List Value} {ns : List Int} (f : Int → Str) (hi : IntsAre vs ns)
    (turn : ∀ (i : Nat) k t I oI C oC D m₂ ys h tk (E' : Value → Shared → Prop), ns[i]? = some k → NsObj oC m₂ → m₂ x = some (.int k t) → Fr h₀ L h m → News h₀ L h ((I, oI) :: (C, oC) :: (D, lst ys) :: news) → Off3 I C D news → ((@Ne Nat I C) ∧ (@Ne Nat I D) ∧ (@Ne Nat C D)) →
      wpAny (model prog w) A (eval elt (compEnvC scope cl C env)) (LCg.CompEnd h₀ L m { s with heap := h, toks := tk } I oI C oC D (lst ys) S (fun r news' => news' = news ∧ ∃ t, r = .str (f k) t)) E' { s with heap := h, toks := tk })
    (fin : ∀ ys, StrsAre ys (ns.map f) → Fin ys news) :
    LCg.CompRest prog w A h₀ L m env elt x scope cl s S (fun i v => vs.toArray[i]? = some v) Fin vs.toArray.size 0 [] news := by
  have hsz : vs.toArray.size = ns.length := by rw [List.size_toArray, hi.length]
  rw [hsz]
  have key : ∀ (j i : Nat) (ys : List Value), i + j = ns.length → StrsAre ys ((ns.take i).map f) → LCg.CompRest prog w A h₀ L m env elt x scope cl s S (fun i v => vs.toArray[i]? = some v) Fin j i ys news := by
    intro j
    induction j with
    | zero =>
      intro i ys hi' hy
      obtain rfl : i = ns.length := by omega
      rw [List.take_length] at hy
      exact LCg.CompRest.zero (fin ys hy)
    | succ j ih =>
      intro i ys hi' hy
      refine LCg.CompRest.succ ?_
      intro v I oI C oC D m₂ h tk E' hv hC hx F N off ne
      obtain ⟨k, t, rfl, hk⟩ := IntsAre.at hi i v (by simpa using hv)
      refine wpAny_mono (turn i k t I oI C oC D m₂ ys h tk E' hk hC hx F N off ne) (fun r s₂ hq => ?_) fun _ _ e => e
      obtain ⟨h', tk', nw, e, F', N', off', hS, rfl, t', rfl⟩ := hq
      refine ⟨h', tk', nw, e, F', N', off', hS, ih (i + 1) _ (by omega) ?_⟩
      have : (ns.take (i + 1)).map f = (ns.take i).map f ++ [f k] := by rw [List.take_add_one, hk]; simp
      rw [this]
      exact StrsAre.snoc hy _ _
  exact key ns.length 0 [] (by omega) .nil
/-- A comprehension over a list of ints, its elements ints. -/
theorem restI {vs : List Value} {ns : List Int} (f : Int → Int) (hi : IntsAre vs ns)
    (turn : ∀ (i : Nat) k t I oI C oC D m₂ ys h tk (E' : Value → Shared → Prop), ns[i]? = some k → NsObj oC m₂ → m₂ x = some (.int k t) → Fr h₀ L h m → News h₀ L h ((I, oI) :: (C, oC) :: (D, lst ys) :: news) → Off3 I C D news → ((@Ne Nat I C) ∧ (@Ne Nat I D) ∧ (@Ne Nat C D)) →
      wpAny (model prog w) A (eval elt (compEnvC scope cl C env)) (LCg.CompEnd h₀ L m { s with heap := h, toks := tk } I oI C oC D (lst ys) S (fun r news' => news' = news ∧ ∃ t, r = .int (f k) t)) E' { s with heap := h, toks := tk })
    (fin : ∀ ys, IntsAre ys (ns.map f) → Fin ys news) :
    LCg.CompRest prog w A h₀ L m env elt x scope cl s S (fun i v => vs.toArray[i]? = some v) Fin vs.toArray.size 0 [] news := by
  have hsz : vs.toArray.size = ns.length := by rw [List.size_toArray, hi.length]
  rw [hsz]
  have key : ∀ (j i : Nat) (ys : List Value), i + j = ns.length → IntsAre ys ((ns.take i).map f) → LCg.CompRest prog w A h₀ L m env elt x scope cl s S (fun i v => vs.toArray[i]? = some v) Fin j i ys news := by
    intro j
    induction j with
    | zero =>
      intro i ys hi' hy
      obtain rfl : i = ns.length := by omega
      rw [List.take_length] at hy
      exact LCg.CompRest.zero (fin ys hy)
    | succ j ih =>
      intro i ys hi' hy
      refine LCg.CompRest.succ ?_
      intro v I oI C oC D m₂ h tk E' hv hC hx F N off ne
      obtain ⟨k, t, rfl, hk⟩ := IntsAre.at hi i v (by simpa using hv)
      refine wpAny_mono (turn i k t I oI C oC D m₂ ys h tk E' hk hC hx F N off ne) (fun r s₂ hq => ?_) fun _ _ e => e
      obtain ⟨h', tk', nw, e, F', N', off', hS, rfl, t', rfl⟩ := hq
      refine ⟨h', tk', nw, e, F', N', off', hS, ih (i + 1) _ (by omega) ?_⟩
      have : (ns.take (i + 1)).map f = (ns.take i).map f ++ [f k] := by rw [List.take_add_one, hk]; simp
      rw [this]
      exact IntsAre.append hy (.cons _ _ .nil)
  exact key ns.length 0 [] (by omega) .nil
end

theorem strs_pairs : ∀ {vs : List Value} {ys : List Str}, StrsAre vs ys → ∃ l : List (Str × Tok), vs = strValues l ∧ l.map (·.1) = ys
  | _, _, .nil => ⟨[], rfl, rfl⟩
  | _, _, .cons y t h => let ⟨l, e1, e2⟩ := strs_pairs h; ⟨(y, t) :: l, by rw [e1]; rfl, by rw [← e2]; rfl⟩
theorem StrsAre.get' : ∀ {vs : List Value} {ys : List Str}, StrsAre vs ys → ∀ (i : Nat) (y : Str), ys[i]? = some y → ∃ t, vs[i]? = some (.str y t)
  | _, _, .cons y t _, 0, v, e => by simp at e; subst e; exact ⟨t, rfl⟩
  | _, _, .cons _ _ h, i + 1, v, e => by simpa using StrsAre.get' h i v (by simpa using e)
theorem item_strs {prog : Program} {w : World} {A : Around} {E : Value → Shared → Prop} {s : Shared} {h₀ : Heap} {L : Addr} {news : List (Addr × Obj)} {value slice : Expr} {l : Addr} {vs : List Value} {c : Nat} {k : Int} {u : Tok} {Q : Value → Shared → Prop}
    (N : News h₀ L s.heap news) (hm : (l, listOf vs.toArray c) ∈ news) (hS : StrsAre vs wordsL) (h0 : 0 ≤ k) (h1 : k < 32) (h : ∀ t, Q (.str (wd k) t) s)
    (hs : subscripted slice false (.ref l) (.int k u) = operate [.ref l, .int k u] (getItem (.ref l) (.int k u))) :
    wpAny (model prog w) A (subscriptTail value slice (.ref l) (.int k u)) Q E s := by
  have hl : s.heap.IsList l vs.toArray := ⟨_, (N _ hm).1, rfl, c, rfl⟩
  have hk : k.toNat < wordsL.length := by show k.toNat < 32; omega
  have hw : wordsL[k.toNat]? = some (wd k) := by
    unfold wd
    rw [List.getD_eq_getElem?_getD, List.getElem?_eq_getElem hk]; rfl
  obtain ⟨t, hx⟩ := StrsAre.get' hS k.toNat _ hw
  exact tail_any hl.typeIs slot_list_getitem.lookup (wpAny_getItem_list hl h0 (by omega) (by simpa using hx) (h t)) hs
theorem IntsAre.getL : ∀ {vs : List Value} {ys : List Int}, IntsAre vs ys → ∀ (i : Nat) (y : Int), ys[i]? = some y → ∃ t, vs[i]? = some (.int y t)
  | _, _, .cons y t _, 0, v, e => by simp at e; subst e; exact ⟨t, rfl⟩
  | _, _, .cons _ _ h, i + 1, v, e => by simpa using IntsAre.getL h i v (by simpa using e)
theorem item_intsL {prog : Program} {w : World} {A : Around} {E : Value → Shared → Prop} {s : Shared} {h₀ : Heap} {L : Addr} {news : List (Addr × Obj)} {value slice : Expr} {l : Addr} {vs : List Value} {ns : List Int} {c : Nat} {k : Int} {u : Tok} {Q : Value → Shared → Prop}
    (N : News h₀ L s.heap news) (hm : (l, listOf vs.toArray c) ∈ news) (hS : IntsAre vs ns) (h0 : 0 ≤ k) (h1 : k < ns.length) (hn : ns.length < 1000000) (h : ∀ t, Q (.int (ns.getD k.toNat 0) t) s)
    (hs : subscripted slice false (.ref l) (.int k u) = operate [.ref l, .int k u] (getItem (.ref l) (.int k u))) :
    wpAny (model prog w) A (subscriptTail value slice (.ref l) (.int k u)) Q E s := by
  have hl : s.heap.IsList l vs.toArray := ⟨_, (N _ hm).1, rfl, c, rfl⟩
  have hk : k.toNat < ns.length := by omega
  have hw : ns[k.toNat]? = some (ns.getD k.toNat 0) := by
    rw [List.getD_eq_getElem?_getD, List.getElem?_eq_getElem hk]; rfl
  obtain ⟨t, hx⟩ := IntsAre.getL hS k.toNat _ hw
  exact tail_any hl.typeIs slot_list_getitem.lookup (wpAny_getItem_list hl h0 (by omega) (by simpa using hx) (h t)) hs
end Mine

end

section
open PySem PySem.W PyProof.Rows
set_option Elab.async false
namespace Mine
set_option maxRecDepth 100000
set_option maxHeartbeats 8000000
theorem kfill9 (w : World) : ∀ h : Heap, (kTop.heap_1 w.params).In h → Challenge.rw_pe0054_01 = Challenge.rw_pe0054_01 := by w_top off; k_fill; exact fun _ _ => rfl

/-- The places that the words among ys stand for. -/
def idxs (ys : List Str) : List Int := (ys.filter fun y => wordsL.any (· == y)).map fun y => ((wordsL.idxOf y : Nat) : Int)
/-- What the plain law must say of the places of a number. -/
structure Good (x : Int) (ps : List Int) : Prop where
  up : ps.Pairwise (· < ·)
  bnd : ∀ p ∈ ps, 0 ≤ p ∧ p < 32
  back : idxs (Txt.split (textOf ps) (Str.ofString ", ")) = ps
  fits : (textOf ps).length ≤ 100000
  free : Builtin.bitAnd (ms ps) (ms ps * 2 ^ (1 : Int).toNat) = 0
  sum : (ps.map fun p => worthsL.getD p.toNat 0).sum = x
  len : ps.length ≤ 32
  pos : 1 ≤ (textOf ps).length

theorem off1_mem {D : Addr} {l : List (Addr × Obj)} (h : LCg.Off1 D l) {q : Addr × Obj} (hq : q ∈ l) : @Ne Nat q.1 D := by
  induction l with
  | nil => exact nomatch hq
  | cons p l ih =>
    rcases List.mem_cons.mp hq with e | e
    · rw [e]; exact h.1
    · exact ih h.2 e
local macro_rules | `(tactic| walk_at "execs cons") => `(tactic| refine wpAny_execs_cons ?_)
local macro_rules | `(tactic| walk_at "execs nil") => `(tactic| refine wpAny_execs_nil ?_)
local macro_rules | `(tactic| walk_at "exec Assign cons ListComp") => `(tactic| refine Hold.of ?_)
local macro_rules | `(tactic| walk_at "CompSrc") => `(tactic| refine Hold.of ?_)
local macro_rules | `(tactic| walk_at "eval ListComp") => `(tactic| refine Hold.of ?_)
local macro_rules | `(tactic| walk_at "exec For Name Name cons nil") => `(tactic| refine Hold.of ?_)
local macro_rules | `(tactic| walk_at "call builtin:str.split") => `(tactic| refine Hold.of ?_)
local macro_rules | `(tactic| walk_at "call builtin:str.join") => `(tactic| refine Hold.of ?_)
local macro_rules | `(tactic| walk_at "call ref") => `(tactic| refine Hold.of ?_)
local macro_rules | `(tactic| walk_at "call ref") => `(tactic| k_dflt (refine' c_add _ _ _ _ _ _ _ _ _  _ _ _ _ _ _ _ _ _ _ _ _ _ _ _ _ _ ?k1 ?k2 ?k3 ?k4 ?k5 ?kK ?kd ?ku trivial ?_; (case k4 => k_asm); (case k1 => k_asm); (case k2 => k_asm); (case k3 => k_asm); (case k5 => k_asm); (case kK => exact rfl); (case kd => ktr_room); (case ku => ktr_units); intro r9 tl9 h9 tk9 F9 N9 o9 u9 p9; (obtain ⟨e91, t9, e92⟩ := p9); subst e91; subst e92; clear o9; (simp only [List.nil_append] at N9); (try dsimp only)))
local macro_rules | `(tactic| walk_at "call ref") => `(tactic| k_dflt (refine' c_sub _ _ _ _ _ _ _ _ _  _ _ _ _ _ _ _ _ _ _ _ _ _ _ _ _ _ ?k1 ?k2 ?k3 ?k4 ?k5 ?kK ?kd ?ku trivial ?_; (case k4 => k_asm); (case k1 => k_asm); (case k2 => k_asm); (case k3 => k_asm); (case k5 => k_asm); (case kK => exact rfl); (case kd => ktr_room); (case ku => ktr_units); intro r9 tl9 h9 tk9 F9 N9 o9 u9 p9; (obtain ⟨e91, t9, e92⟩ := p9); subst e91; subst e92; clear o9; (simp only [List.nil_append] at N9); (try dsimp only)))
local macro_rules | `(tactic| walk_at "call ref") => `(tactic| k_dflt (refine' c_ge _ _ _ _ _ _ _ _ _  _ _ _ _ _ _ _ _ _ _ _ _ _ _ _ _ _ ?k1 ?k2 ?k3 ?k4 ?k5 ?kK ?kd ?ku trivial ?_; (case k4 => k_asm); (case k1 => k_asm); (case k2 => k_asm); (case k3 => k_asm); (case k5 => k_asm); (case kK => exact rfl); (case kd => ktr_room); (case ku => ktr_units); intro r9 tl9 h9 tk9 F9 N9 o9 u9 p9; (obtain ⟨e91, e92⟩ := p9); subst e91; subst e92; clear o9; (simp only [List.nil_append] at N9); (try dsimp only)))
local macro_rules | `(tactic| walk_at "call ref") => `(tactic| k_dflt (refine' c_or _ _ _ _ _ _ _ _ _  _ _ _ _ _ _ _ _ _ _ _ _ _ _ _ _ _ ?k1 ?k2 ?k3 ?k4 ?k5 ?kK ?kd ?ku trivial ?_; (case k4 => k_asm); (case k1 => k_asm); (case k2 => k_asm); (case k3 => k_asm); (case k5 => k_asm); (case kK => exact rfl); (case kd => ktr_room); (case ku => ktr_units); intro r9 tl9 h9 tk9 F9 N9 o9 u9 p9; (obtain ⟨e91, t9, e92⟩ := p9); subst e91; subst e92; clear o9; (simp only [List.nil_append] at N9); (try dsimp only)))
local macro_rules | `(tactic| walk_at "call ref") => `(tactic| k_dflt (refine' c_and _ _ _ _ _ _ _ _ _  _ _ _ _ _ _ _ _ _ _ _ _ _ _ _ _ _ ?k1 ?k2 ?k3 ?k4 ?k5 ?kK ?kd ?ku trivial ?_; (case k4 => k_asm); (case k1 => k_asm); (case k2 => k_asm); (case k3 => k_asm); (case k5 => k_asm); (case kK => exact rfl); (case kd => ktr_room); (case ku => ktr_units); intro r9 tl9 h9 tk9 F9 N9 o9 u9 p9; (obtain ⟨e91, t9, e92⟩ := p9); subst e91; subst e92; clear o9; (simp only [List.nil_append] at N9); (try dsimp only)))
local macro_rules | `(tactic| walk_at "call ref") => `(tactic| k_dflt (refine' c_lsh _ _ _ _ _ _ _ _ _ ?q1 ?q2 ?q3 ?q4 _ _ _ _ _ _ _ _ _ _ _ _ _ _ _ _ _ ?k1 ?k2 ?k3 ?k4 ?k5 ?kK ?kd ?ku trivial ?_; (case k4 => k_asm); (case k1 => k_asm); (case k2 => k_asm); (case k3 => k_asm); (case k5 => k_asm); (case kK => exact rfl); (case q1 => omega); (case q2 => omega); (case q3 => omega); (case q4 => omega); (case kd => ktr_room); (case ku => ktr_units); intro r9 tl9 h9 tk9 F9 N9 o9 u9 p9; (obtain ⟨e91, t9, e92⟩ := p9); subst e91; subst e92; clear o9; (simp only [List.nil_append] at N9); (try dsimp only)))
local macro_rules | `(tactic| walk_at "call ref") => `(tactic| k_dflt (refine' c_item _ _ _ _ _ _ _ _ _ _ _ ?q1 ?q2 ?q3 ?q4 ?q5 _ _ _ _ _ _ _ _ _ _ _ _ _ _ _ _ _ ?k1 ?k2 ?k3 ?k4 ?k5 ?kK ?kd ?ku trivial ?_; (case k4 => k_asm); (case k1 => k_asm); (case k2 => k_asm); (case k3 => k_asm); (case k5 => k_asm); (case kK => exact rfl); (case q1 => kcf_m); (case q2 => assumption); (case q3 => omega); (case q4 => (rw [worthsL_len]; omega)); (case q5 => (rw [worthsL_len]; omega)); (case kd => ktr_room); (case ku => ktr_units); intro r9 tl9 h9 tk9 F9 N9 o9 u9 p9; (obtain ⟨e91, t9, e92⟩ := p9); subst e91; subst e92; clear o9; (simp only [List.nil_append] at N9); (try dsimp only)))
local macro_rules | `(tactic| walk_at "call ref") => `(tactic| k_dflt (refine' c_mask _ _ _ _ _ _ _ _ ?q1 _ _ _ _ _ _ _ _ _ _ _ _ _ _ _ _ _ ?k1 ?k2 ?k3 ?k4 ?k5 ?kK ?kd ?ku trivial ?_; (case k4 => k_asm); (case k1 => k_asm); (case k2 => k_asm); (case k3 => k_asm); (case k5 => k_asm); (case kK => exact rfl); (case q1 => exact ⟨_, _, by kcf_m, by assumption⟩); (case kd => ktr_room); (case ku => ktr_units); intro r9 tl9 h9 tk9 F9 N9 o9 u9 p9; (obtain ⟨e91, t9, e92⟩ := p9); subst e91; subst e92; clear o9; (simp only [List.nil_append] at N9); (try dsimp only)))
local macro_rules | `(tactic| walk_at "call ref") => `(tactic| k_dflt (refine' c_flags _ _ _ _ _ _ _ ?q1 ?q2 _ _ _ _ _ _ _ _ _ _ _ _ _ _ _ _ _ ?k1 ?k2 ?k3 ?k4 ?k5 ?kK ?kd ?ku ?kp ?_; (case k4 => k_asm); (case k1 => k_asm); (case k2 => k_asm); (case k3 => k_asm); (case k5 => k_asm); (case kK => exact rfl); (case q1 => assumption); (case q2 => assumption); (case kd => ktr_room); (case ku => ktr_units); (case kp => (first | omega | (dsimp only at *; omega))); intro r9 tl9 h9 tk9 F9 N9 o9 u9 p9; (obtain ⟨e91, u9t, e92, e93⟩ := p9); subst e91; subst e92; clear o9; (simp only [List.nil_append] at N9); (try dsimp only)))
local macro_rules | `(tactic| walk_at "call ref") => `(tactic| k_dflt (refine' c_cont _ _ _ _ _ _ _ _ _ _ _ ?q1 ?q2 _ _ _ _ _ _ _ _ _ _ _ _ _ _ _ _ _ ?k1 ?k2 ?k3 ?k4 ?k5 ?kK ?kd ?ku trivial ?_; (case k4 => k_asm); (case k1 => k_asm); (case k2 => k_asm); (case k3 => k_asm); (case k5 => k_asm); (case kK => exact rfl); (case q1 => kcf_m); (case q2 => assumption); (case kd => ktr_room); (case ku => ktr_units); intro r9 tl9 h9 tk9 F9 N9 o9 u9 p9; (obtain ⟨e91, e92⟩ := p9); subst e91; subst e92; clear o9; (simp only [List.nil_append] at N9); (try dsimp only)))
local macro_rules | `(tactic| walk_at "call ref") => `(tactic| k_dflt (refine' c_index _ _ _ _ _ _ _ _ _ _ _ ?q1 ?q2 ?q3 ?q4 _ _ _ _ _ _ _ _ _ _ _ _ _ _ _ _ _ ?k1 ?k2 ?k3 ?k4 ?k5 ?kK ?kd ?ku trivial ?_; (case k4 => k_asm); (case k1 => k_asm); (case k2 => k_asm); (case k3 => k_asm); (case k5 => k_asm); (case kK => exact rfl); (case q1 => kcf_m); (case q2 => assumption); (case q3 => assumption); (case q4 => exact mem_of_any (by assumption)); (case kd => ktr_room); (case ku => ktr_units); intro r9 tl9 h9 tk9 F9 N9 o9 u9 p9; (obtain ⟨e91, t9, e92⟩ := p9); subst e91; subst e92; clear o9; (simp only [List.nil_append] at N9); (try dsimp only)))
local macro_rules | `(tactic| ktr_unf) => `(tactic| (intro y; (try dsimp only); (repeat' split) <;> first | (exfalso; simp_all +decide; done) | rfl | (subst_vars; rfl)))
local macro_rules | `(tactic| k_room) => `(tactic| ktr_room)

local macro_rules | `(tactic| walk_at "subscriptTail Name Name ref int") => `(tactic| (refine' item_strs ?k1 ?k2 ?k3 ?k4 ?k5 ?_ ?k7; (case k1 => k_asm); (case k2 => kcf_m); (case k3 => assumption); (case k4 => assumption); (case k5 => assumption); (case k7 => with_unfolding_all rfl); intro t9))
local macro_rules | `(tactic| walk_at "subscriptTail Name Name ref int") => `(tactic| (refine' item_intsL ?k1 ?k2 ?k3 ?k4 ?k5 ?k6 ?_ ?k7; (case k1 => k_asm); (case k2 => kcf_m); (case k3 => assumption); (case k4 => assumption); (case k5 => (rw [worthsL_len]; omega)); (case k6 => (rw [worthsL_len]; omega)); (case k7 => with_unfolding_all rfl); intro t9))
theorem c_places (w : World) (mean : ExcName → Option Value) (mg mb : Str → Option Value) (news : List (Addr × Obj)) (x : Int) (t : Tok) (ld lw : Addr) (vd : List Value) (cd : Nat) (lo hi : Nat)
    (hmd : (ld, listOf vd.toArray cd) ∈ news) (hS : StrsAre vd wordsL) (hT : TokIn lo hi vd) (hlo : 374 ≤ lo) (hlh : lo ≤ hi) (hw : LInts news lw worthsL) (hG : Good x (gr 32 x)) :
    Spec 16 w mean mg mb 109 [.int x t, .ref ld, .ref lw] news (fun t0 => hi ≤ t0) (fun r tl _ _ => ∃ D vs n, r = .ref D ∧ tl = [(D, listOf vs.toArray n)] ∧ IntsAre vs (gr 32 x)) := by
  refine' Spec_introC [(Str.ofString "number", .int x t), (Str.ofString "words", .ref ld), (Str.ofString "worths", .ref lw)] ?k6 ?k7 ?k9 ?kB ?c1 ?c2 ?c3 ?c4 ?_
  (case k6 => k_is)
  (case k7 => k_is)
  (case k9 => exact fun _ => BindsTo.of_eq rfl)
  (case kB => exact rfl)
  (case c1 => decide)
  (case c2 => exact rfl)
  (case c3 => exact rfl)
  (case c4 => exact rfl)
  intro dp un gd cn cs a ccd cl outer base g L L' h tk s cells B X T hk hd hu hpre htk F N hC hlt
  have mk : KstMark := kstMark
  obtain ⟨vw, kw, hmw, hIw⟩ := hw
  obtain ⟨oc1, oc2, rfl, hc1, hc2⟩ := CellsAre.two hC
  obtain ⟨hup, hbnd, hback, hfits, hfree, hsum, hlen, hpos⟩ := hG
  replace hc1 : oc1.data = .cell (some (.ref lw)) := hc1
  replace hc2 : oc2.data = .cell (some (.ref ld)) := hc2
  have F0 : Fr g L' h (fun y => if y = Str.ofString "number" then some (Value.int x t) else none) := by with_unfolding_all exact F
  clear F hC
  k_steps
  rename_i h1 tk1 u1 t1 h2 tk2 u2 tt hTok h3 F3 N3
  replace u1 : tk ≤ tk1 := u1
  replace u2 : tk1 ≤ tk2 := u2
  replace hTok : TokOk tk1 tt := hTok
  generalize hps : gr 32 x = ps at *
  refine Hold.out ?_
  refine LCt.Assign_ListComp_T (F₀ := F3) (by rfl) (by with_unfolding_all rfl) (by with_unfolding_all rfl) (by decide) (by rfl) (by decide) (by rfl) (by rfl) (by rfl) ?_
  k_steps
  refine Hold.out ?_
  refine split_tok F3 N3 (by decide) (by rw [PySem.sizeLine_eq]; omega) ?_
  intro D l h4 k4 hl htok4 F4 N4 lt4
  have hApart : ∀ p ∈ l, Apart vd p.1 p.2 := by
    intro p hp
    have h9 : p.2 ≠ 0 ∧ ((p.2 : Nat) < 374 ∨ hi ≤ (p.2 : Nat)) := by
      rcases htok4 p hp with e9 | e9
      · rw [e9]
        exact ⟨hTok.1, hTok.2.elim .inl fun h9 => .inr (by omega)⟩
      · have e9' : tk2 ≤ (p.2 : Nat) := Nat.le_trans (Nat.le_add_right tk2 2) e9
        exact ⟨fun e0 => by rw [e0] at e9'; exact absurd e9' (by omega), .inr (by omega)⟩
    refine ⟨h9.1, fun v hv => ?_⟩
    obtain ⟨x9, t9, rfl, e1, e2⟩ := hT v hv
    refine ⟨x9, t9, rfl, Nat.ne_of_gt (by omega), fun e => ?_⟩
    have e' : (t9 : Nat) = p.2 := e
    exfalso
    rcases h9.2 with h8 | h8
    · rw [← e'] at h8; exact Nat.lt_irrefl _ (Nat.lt_of_lt_of_le h8 (Nat.le_trans hlo e1))
    · rw [← e'] at h8; exact Nat.lt_irrefl _ (Nat.lt_of_lt_of_le e2 h8)
  refine LCt.CompSrcT.ledger rfl F4 N4 List.mem_cons_self (by rw [List.size_toArray, strValues_len, PySem.sizeLine_eq]; have := len_le_of_split hl; omega) ?_
  intro g5
  refine restT (fun y => wordsL.any (· == y)) (fun y => ((wordsL.idxOf y : Nat) : Int)) ?_ ?_
  · intro i y u I oI C oC D2 m₂ ys h5 tk5 E' hli hoC hm2 F5 N5 off5 ne5
    have hA9 : Apart vd y u := hApart (y, u) (List.mem_of_getElem? hli)
    clear F3 N3 F4 N4
    k_steps
    · exact LCg.CompEnd.intro (by assumption) (by assumption) _ (fun p h => h) off5 (.inr ⟨_, List.mem_cons_self, rfl, _, rfl⟩) ⟨rfl, by assumption, _, rfl⟩
    · exact LCg.CompEnd.intro (by assumption) (by assumption) _ (fun p h => h) off5 (.inr ⟨_, List.mem_cons_self, rfl, _, rfl⟩) ⟨rfl, by assumption⟩
  · intro ys hys D2 h5 tk5 F5 N5 off5
    have hys' : IntsAre ys ps := by
      have e : (((l.map (·.1)).filter fun y => wordsL.any (· == y)).map fun y => ((wordsL.idxOf y : Nat) : Int)) = ps := by rw [hl]; exact hback
      rw [← e]; exact hys
    clear hys hApart htok4 F3 N3 F4 N4
    have F6 : Fr g L' h5 (fun y => if y = Str.ofString "places" then some (Value.ref D2) else if y = Str.ofString "text" then some (Value.str (textOf ps) tt) else if y = Str.ofString "number" then some (Value.int x t) else none) := F5
    clear F5
    replace N5 : News g L' h5 ((D2, LCg.lst ys) :: ([(L' + 1 + 1, oc1), (L' + 1, oc2)] ++ news)) := fun q hq => N5 q (by exact (List.mem_cons.mp hq).elim (fun e => e ▸ List.mem_cons_self) fun e => List.mem_cons_of_mem _ (List.mem_cons_of_mem _ e))
    have hM0 : 0 ≤ ms ps := ms_nonneg ps
    have hM1 : ms ps < 4294967296 := ms_lt ps hup hbnd
    k_steps
    refine Hold.out ?_
    refine LCg.ListComp_U (F₀ := F6) (by with_unfolding_all rfl) (by decide) (by rfl) (by decide) (by rfl) ?_
    k_steps
    refine Hold.out ?_
    refine' LCg.CompSrc.ledger (its := ys.toArray) (k := ys.length) ?b1 ?b2 ?b3 ?b4 ?b5 ?_
    (case b1 => rfl)
    (case b2 => exact F6)
    (case b3 => exact N5)
    (case b4 => exact List.mem_cons_self)
    (case b5 => rw [List.size_toArray, hys'.length, PySem.sizeLine_eq]; omega)
    intro g6
    refine restS wd hys' ?_ ?_
    · intro i p tp I oI C oC D3 m₂ zs h6 tk6 E' hpi hoC hm2 F7 N7 off7 ne7
      obtain ⟨hp0, hp1⟩ := hbnd p (List.mem_of_getElem? hpi)
      k_steps
      exact LCg.CompEnd.intro F7 N7 _ (fun p h => h) off7 (.inr ⟨_, List.mem_cons_self, rfl, _, rfl⟩) ⟨rfl, _, rfl⟩
    · intro zs hzs D3 h7 tk7 F8 N8 off8
      obtain ⟨l3, rfl, hl3⟩ := strs_pairs hzs
      k_steps
      refine Hold.out ?_
      refine join_tok N8 List.mem_cons_self (by rw [hl3]; exact joinOk_words _ (by omega)) ?_
      intro t8 k8 _
      rw [hl3]
      clear F6 N5 hzs
      by_cases hne : ps = []
      · have e0 : textOf ps = Str.ofString "0x0" := by unfold textOf; rw [if_pos hne]
        have ej : Txt.join (Str.ofString ", ") (List.map wd ps) = Str.ofString "" := by rw [hne]; rfl
        rw [ej, e0]
        rw [e0] at F8
        k_steps
        rename Fr _ _ _ _ => F9
        rename News _ _ _ _ => N9
        rw [← e0] at F9
        clear ej e0 hne
        refine Hold.out ?_
        refine For_M (h₀ := g) rfl rfl (by passes_own) ?_
        k_steps
        refine iter_listM rfl ⟨_, List.mem_cons_of_mem _ List.mem_cons_self, rfl, _, rfl⟩ F9 N9 (fun i m _ => ∃ ta up, m = (fun y => if y = Str.ofString "told" then some (Value.int (ms (ps.take i)) ta) else if y = Str.ofString "place" then up else if y = Str.ofString "places" then some (Value.ref D2) else if y = Str.ofString "text" then some (Value.str (textOf ps) tt) else if y = Str.ofString "number" then some (Value.int x t) else none)) ?_ (fun _ _ _ _ _ h => h) ?_ ?_
        · refine' ⟨_, none, funext ?e⟩
          (case e =>
            rw [List.take_zero, ms_nil]
            ktr_unf)
        · rintro i v m₁ ha tka own hv ⟨t1, up, rfl⟩ htka Fa Na
          obtain ⟨p, tp, rfl, hp⟩ := IntsAre.at hys' i v hv
          obtain ⟨hp0, hp1⟩ := hbnd p (List.mem_of_getElem? hp)
          have hm0 := ms_nonneg (ps.take i)
          have hm1 := ms_take_lt hup hbnd hp
          replace Fa : Fr g L' ha _ := Fa
          replace Na : News g L' ha _ := Na
          have Fb : Fr g L' ha (fun y => if y = Str.ofString "told" then some (Value.int (ms (ps.take i)) t1) else if y = Str.ofString "place" then some (Value.int p tp) else if y = Str.ofString "places" then some (Value.ref D2) else if y = Str.ofString "text" then some (Value.str (textOf ps) tt) else if y = Str.ofString "number" then some (Value.int x t) else none) := by
            refine Fr.congr Fa ?_
            ktr_unf
          clear Fa F9 N9
          have hnext := ms_take_succ hp
          generalize ms (ps.take i) = S at *
          k_steps
          rename Fr _ _ _ _ => Fc
          rename News _ _ _ _ => Nc
          refine LPost.next Fc Nc ?_
          refine' ⟨_, _, funext ?e⟩
          (case e =>
            rw [hnext, Int.one_mul, or_low hm0 hm1]
            ktr_unf)
        · rintro ha tka m' Fa Na ⟨t1, up, rfl⟩ htka
          replace Fa : Fr g L' ha _ := Fa
          replace Na : News g L' ha _ := Na
          rw [hys'.length, List.take_length] at Fa
          clear F9 N9
          k_steps
          · rename_i hbad; exact absurd hfree hbad
          rename Fr _ _ _ _ => Fc
          rename News _ _ _ _ => Nc
          refine Hold.out ?_
          refine LCg.ListComp_U (F₀ := Fc) (by with_unfolding_all rfl) (by decide) (by rfl) (by decide) (by rfl) ?_
          k_steps
          refine Hold.out ?_
          refine' LCg.CompSrc.ledger (its := ys.toArray) (k := ys.length) ?b1 ?b2 ?b3 ?b4 ?b5 ?_
          (case b1 => rfl)
          (case b2 => exact Fc)
          (case b3 => exact Nc)
          (case b4 => exact List.mem_cons_of_mem _ List.mem_cons_self)
          (case b5 => rw [List.size_toArray, hys'.length, PySem.sizeLine_eq]; omega)
          intro gd2
          refine restI (fun p => worthsL.getD p.toNat 0) hys' ?_ ?_
          · intro i p tp I oI C oC D3 m₂ zs h6 tk6 E' hpi hoC hm2 F7 N7 off7 ne7
            obtain ⟨hp0, hp1⟩ := hbnd p (List.mem_of_getElem? hpi)
            k_steps
            exact LCg.CompEnd.intro F7 N7 _ (fun p h => h) off7 (.inr ⟨_, List.mem_cons_of_mem _ List.mem_cons_self, rfl, _, rfl⟩) ⟨rfl, _, rfl⟩
          · intro zs hzs D4 hb tkb Fd Nd offd
            k_steps
            · rename_i hbad; exact absurd hsum hbad
            rename Fr _ _ _ _ => Fe
            rename News _ _ _ _ => Nz
            dsimp only
            refine BPost.ret [(D2, LCg.lst ys)] Fe (fun q hq => Nz q ?_) ?_ (fun _ => ⟨D2, ys, ys.length, rfl, rfl, by with_reducible (first | exact hys' | (rw [hps]; exact hys'))⟩)
            · rcases List.mem_append.mp hq with e | e
              · rw [List.mem_singleton.mp e]; exact List.mem_cons_of_mem _ (List.mem_cons_of_mem _ List.mem_cons_self)
              · exact List.mem_cons_of_mem _ (List.mem_cons_of_mem _ (List.mem_cons_of_mem _ (List.mem_append_right _ e)))
            · intro q hq p hp
              rw [List.mem_singleton.mp hp]
              exact off1_mem off5 (List.mem_cons_of_mem _ (List.mem_append_right _ hq))
      · have ej : Txt.join (Str.ofString ", ") (List.map wd ps) = textOf ps := by unfold textOf; rw [if_neg hne]
        rw [ej]
        refine KXt.truthy_pos hpos hfits (by decide) ?_
        intro _
        k_steps
        · exact absurd ‹(textOf ps != textOf ps) = true› (by simp)
        rename Fr _ _ _ _ => F9
        rename News _ _ _ _ => N9
        clear ej hne
        refine Hold.out ?_
        refine For_M (h₀ := g) rfl rfl (by passes_own) ?_
        k_steps
        refine iter_listM rfl ⟨_, List.mem_cons_of_mem _ List.mem_cons_self, rfl, _, rfl⟩ F9 N9 (fun i m _ => ∃ ta up, m = (fun y => if y = Str.ofString "told" then some (Value.int (ms (ps.take i)) ta) else if y = Str.ofString "place" then up else if y = Str.ofString "places" then some (Value.ref D2) else if y = Str.ofString "text" then some (Value.str (textOf ps) tt) else if y = Str.ofString "number" then some (Value.int x t) else none)) ?_ (fun _ _ _ _ _ h => h) ?_ ?_
        · refine' ⟨_, none, funext ?e⟩
          (case e =>
            rw [List.take_zero, ms_nil]
            ktr_unf)
        · rintro i v m₁ ha tka own hv ⟨t1, up, rfl⟩ htka Fa Na
          obtain ⟨p, tp, rfl, hp⟩ := IntsAre.at hys' i v hv
          obtain ⟨hp0, hp1⟩ := hbnd p (List.mem_of_getElem? hp)
          have hm0 := ms_nonneg (ps.take i)
          have hm1 := ms_take_lt hup hbnd hp
          replace Fa : Fr g L' ha _ := Fa
          replace Na : News g L' ha _ := Na
          have Fb : Fr g L' ha (fun y => if y = Str.ofString "told" then some (Value.int (ms (ps.take i)) t1) else if y = Str.ofString "place" then some (Value.int p tp) else if y = Str.ofString "places" then some (Value.ref D2) else if y = Str.ofString "text" then some (Value.str (textOf ps) tt) else if y = Str.ofString "number" then some (Value.int x t) else none) := by
            refine Fr.congr Fa ?_
            ktr_unf
          clear Fa F9 N9
          have hnext := ms_take_succ hp
          generalize ms (ps.take i) = S at *
          k_steps
          rename Fr _ _ _ _ => Fc
          rename News _ _ _ _ => Nc
          refine LPost.next Fc Nc ?_
          refine' ⟨_, _, funext ?e⟩
          (case e =>
            rw [hnext, Int.one_mul, or_low hm0 hm1]
            ktr_unf)
        · rintro ha tka m' Fa Na ⟨t1, up, rfl⟩ htka
          replace Fa : Fr g L' ha _ := Fa
          replace Na : News g L' ha _ := Na
          rw [hys'.length, List.take_length] at Fa
          clear F9 N9
          k_steps
          · rename_i hbad; exact absurd hfree hbad
          rename Fr _ _ _ _ => Fc
          rename News _ _ _ _ => Nc
          refine Hold.out ?_
          refine LCg.ListComp_U (F₀ := Fc) (by with_unfolding_all rfl) (by decide) (by rfl) (by decide) (by rfl) ?_
          k_steps
          refine Hold.out ?_
          refine' LCg.CompSrc.ledger (its := ys.toArray) (k := ys.length) ?b1 ?b2 ?b3 ?b4 ?b5 ?_
          (case b1 => rfl)
          (case b2 => exact Fc)
          (case b3 => exact Nc)
          (case b4 => exact List.mem_cons_of_mem _ List.mem_cons_self)
          (case b5 => rw [List.size_toArray, hys'.length, PySem.sizeLine_eq]; omega)
          intro gd2
          refine restI (fun p => worthsL.getD p.toNat 0) hys' ?_ ?_
          · intro i p tp I oI C oC D3 m₂ zs h6 tk6 E' hpi hoC hm2 F7 N7 off7 ne7
            obtain ⟨hp0, hp1⟩ := hbnd p (List.mem_of_getElem? hpi)
            k_steps
            exact LCg.CompEnd.intro F7 N7 _ (fun p h => h) off7 (.inr ⟨_, List.mem_cons_of_mem _ List.mem_cons_self, rfl, _, rfl⟩) ⟨rfl, _, rfl⟩
          · intro zs hzs D4 hb tkb Fd Nd offd
            k_steps
            · rename_i hbad; exact absurd hsum hbad
            rename Fr _ _ _ _ => Fe
            rename News _ _ _ _ => Nz
            dsimp only
            refine BPost.ret [(D2, LCg.lst ys)] Fe (fun q hq => Nz q ?_) ?_ (fun _ => ⟨D2, ys, ys.length, rfl, rfl, by with_reducible (first | exact hys' | (rw [hps]; exact hys'))⟩)
            · rcases List.mem_append.mp hq with e | e
              · rw [List.mem_singleton.mp e]; exact List.mem_cons_of_mem _ (List.mem_cons_of_mem _ List.mem_cons_self)
              · exact List.mem_cons_of_mem _ (List.mem_cons_of_mem _ (List.mem_cons_of_mem _ (List.mem_append_right _ e)))
            · intro q hq p hp
              rw [List.mem_singleton.mp hp]
              exact off1_mem off5 (List.mem_cons_of_mem _ (List.mem_append_right _ hq))
end Mine

end

section
open PySem PySem.W PyProof.Rows
set_option Elab.async false
namespace Mine
set_option maxRecDepth 100000
/-- The call of law by the claim's caller: the walk of its body, with what the tokens did. -/
theorem Law_intro {w : World} {mean : ExcName → Option Value} {mg mb : Str → Option Value} {f : Addr} {vs : List Value} {R : Result → Shared → Prop} {s : Shared}
    {name qual : Str} {params : Arguments} {body : List Stmt} {scope : Scope} {dV kV doc pm cdv ct oc : Value} {an od : Option Addr} {osl : Array (Option Value)} (binds : List (Str × Value))
    (X : (kTop.heap_1 w.params).In s.heap) (T : Top hd.view_310 Loose mean mg mb s.heap)
    (ho : (kTop.heap_1 w.params).lookup f = some ⟨oc, od, .func (fnOf name qual params body scope dV kV doc pm an cdv ct), osl⟩) (hcd : codeIn (kTop.heap_1 w.params) cdv qual = true)
    (hbind : ∀ s, BindsTo s (fnOf name qual params body scope dV kV doc pm an cdv ct) ⟨vs, []⟩ binds)
    (hkind : (binds.all fun y => scope.names.lookup y.1 == some .local || scope.names.lookup y.1 == some .cell) = true) (hnd : ((cellsFrom 0 scope.names []).map (·.1)).Nodup)
    (hco : scope.isCoroutine = false) (hgen : scope.isGenerator = false) (hk : scope.kind = .function)
    (h : ∀ (L' : Addr) (h : Heap) (tk : Nat) (cells : List (Addr × Obj)), s.toks ≤ tk →
      Fr s.heap L' h (bindL (envOfC qual scope L' f cdv).kindOf binds fun _ => none) → News s.heap L' h cells → CellsAre (bindC (envOfC qual scope L' f cdv).kindOf binds fun _ => none) (cellsFrom (L' + 1) scope.names []) cells →
      wpAny (model Challenge.rw_pe0054_01.row.prog w) (callerA.deeper (envOfC qual scope L' f cdv)) (execs body (envOfC qual scope L' f cdv))
        (fun fl s' => ∃ h' tk' m', s' = { s with heap := h', toks := tk' } ∧ Fr s.heap L' h' m' ∧ (∀ m L'', Fr s.heap L'' h' m → R (.ok (.ret (match fl with | .ret v => v | _ => .none))) { s with heap := h', toks := tk' })) (fun _ _ => False) { s with heap := h, toks := tk }) :
    codeAny (model Challenge.rw_pe0054_01.row.prog w) callerA (.call (.ref f) ⟨vs, []⟩) R s := by
  refine codeAny_call_function (by decide) (X _ _ ho) rfl hco hgen rfl (codeRec_of X hcd) (hbind s _ _ _ _ ?_)
  refine wpAny_up (wpAny_newFunctionEnv_cells hk (kindsX hkind _) fun env' he s' x up => ?_)
  subst he
  refine ⟨T.nolimit.keeps x.toInCall.keep, codeAny_func ?_⟩
  obtain ⟨h₁, tk, rfl, _⟩ := x.done
  have up' : s.toks ≤ tk := up
  have hk₁ := x.toInCall.keep
  obtain ⟨cells, NC, Y⟩ := Cl.news (h₀ := s.heap) (Nat.le_refl _) fun n c hm => ⟨x.cell n c (lookup_of_mem_nodup (cellsFrom_names scope.names 0 (s.heap.objs.size + 1) [] [] rfl ▸ hnd) hm), x.above n c hm⟩
  refine wpAny_mono (h s.heap.objs.size h₁ tk cells up' ⟨x.toInCall.ns, fun b o e => hk₁ b o e, Nat.le_refl _⟩ NC Y) (fun fl s' hb => ?_) fun _ _ e => e.elim
  obtain ⟨h', tk', m', rfl, F, hR⟩ := hb
  exact hR _ _ F
end Mine

end

section
open PySem PySem.W PyProof.Rows
set_option Elab.async false
namespace Mine
set_option maxRecDepth 100000
open LCg (NsObj Off3 Off1 lst SrcAt)
theorem off1_of {D : Addr} : ∀ {l : List (Addr × Obj)}, (∀ q ∈ l, @Ne Nat q.1 D) → LCg.Off1 D l
  | [], _ => trivial
  | _ :: _, h => ⟨h _ List.mem_cons_self, off1_of fun q hq => h q (List.mem_cons_of_mem _ hq)⟩
theorem sum_pick {prog : Program} {w : World} {A : Around} {E : Value → Shared → Prop} {s : Shared} {h₀ : Heap} {L : Addr} {m : Str → Option Value} {news : List (Addr × Obj)} {l : Addr} {its : Array Value} {ns : List Int} {Q : Value → Shared → Prop}
    (hi : IntsAre its.toList ns) (hh : A.handled = none) (F : Fr h₀ L s.heap m) (N : News h₀ L s.heap news) (hm : (l, ({ cls := .type "list", data := .seq its } : Obj)) ∈ news)
    (h : ∀ h' tk t', Fr h₀ L h' m → News h₀ L h' news → Q (.int ns.sum t') { s with heap := h', toks := tk }) : wpAny (model prog w) A (call (.builtin "sum") [.ref l]) Q E s := by
  exact LSm.sum_ints (vs := its.toList) F N hh ⟨_, (N _ hm).1, rfl, 0, rfl⟩ hi h

theorem fmod_1597 (x : Int) : 0 ≤ Int.fmod x 1597 ∧ Int.fmod x 1597 < 1597 := ⟨Int.fmod_nonneg_of_pos x (by decide), Int.fmod_lt_of_pos x (by decide)⟩
section
variable {prog : Program} {w : World} {A : Around} {h₀ : Heap} {L : Addr} {m : Str → Option Value} {env : Env} {elt : Expr} {x : Str} {scope : Scope} {cl : List (Str × Addr)} {s : Shared} {S : List (Addr × Obj) → Prop} {Fin : List Value → List (Addr × Obj) → Prop} {news : List (Addr × Obj)}
/-- A comprehension over a range, its elements ints with a property. -/
theorem restB {a : Int} {n : Nat} (Pk : Int → Prop)
    (turn : ∀ (i : Nat) t I oI C oC D m₂ ys h tk (E' : Value → Shared → Prop), i < n → NsObj oC m₂ → m₂ x = some (.int (a + (i : Int)) t) → Fr h₀ L h m → News h₀ L h ((I, oI) :: (C, oC) :: (D, lst ys) :: news) → Off3 I C D news → ((@Ne Nat I C) ∧ (@Ne Nat I D) ∧ (@Ne Nat C D)) →
      wpAny (model prog w) A (eval elt (compEnvC scope cl C env)) (LCg.CompEnd h₀ L m { s with heap := h, toks := tk } I oI C oC D (lst ys) S (fun r news' => news' = news ∧ ∃ k t, r = .int k t ∧ Pk k)) E' { s with heap := h, toks := tk })
    (fin : ∀ ys ks, IntsAre ys ks → ks.length = n → (∀ k ∈ ks, Pk k) → Fin ys news) :
    LCg.CompRest prog w A h₀ L m env elt x scope cl s S (fun i v => ∃ t, v = .int (a + (i : Int)) t) Fin n 0 [] news := by
  have key : ∀ (j i : Nat) (ys : List Value) (ks : List Int), i + j = n → IntsAre ys ks → ks.length = i → (∀ k ∈ ks, Pk k) → LCg.CompRest prog w A h₀ L m env elt x scope cl s S (fun i v => ∃ t, v = .int (a + (i : Int)) t) Fin j i ys news := by
    intro j
    induction j with
    | zero =>
      intro i ys ks hi' hy hl hb
      obtain rfl : i = n := by omega
      exact LCg.CompRest.zero (fin ys ks hy hl hb)
    | succ j ih =>
      intro i ys ks hi' hy hl hb
      refine LCg.CompRest.succ ?_
      intro v I oI C oC D m₂ h tk E' hv hC hx F N off ne
      obtain ⟨t, rfl⟩ := hv
      refine wpAny_mono (turn i t I oI C oC D m₂ ys h tk E' (by omega) hC hx F N off ne) (fun r s₂ hq => ?_) fun _ _ e => e
      obtain ⟨h', tk', nw, e, F', N', off', hS, rfl, k, t', rfl, hk⟩ := hq
      refine ⟨h', tk', nw, e, F', N', off', hS, ih (i + 1) _ (ks ++ [k]) (by omega) (IntsAre.append hy (.cons _ _ .nil)) (by simp [hl]) ?_⟩
      intro k' hk'
      rcases List.mem_append.mp hk' with h9 | h9
      · exact hb k' h9
      · rw [List.mem_singleton.mp h9]; exact hk
  exact key n 0 [] [] (by omega) .nil rfl (fun _ h => nomatch h)
end
end Mine

end

section
open PySem PySem.W PyProof.Rows
set_option Elab.async false
namespace Mine
/-- The lists of places that a comprehension has made so far. -/
def Jp (G : Int → List Int) (hi : Nat) (nws : List (Addr × Obj)) (xs : List Int) (i : Nat) (ys : List Value) (nw : List (Addr × Obj)) (tk : Nat) : Prop :=
  hi ≤ tk ∧ ∃ pl : List (Addr × List Value × Nat), pl.length = i ∧ ys = pl.map (fun p => .ref p.1) ∧ nw = (pl.reverse.map fun p => (p.1, listOf p.2.1.toArray p.2.2)) ++ nws ∧ ∀ (j : Nat) p x, pl[j]? = some p → xs[j]? = some x → IntsAre p.2.1 (G x)
theorem Jp.zero {G : Int → List Int} {hi : Nat} {nws : List (Addr × Obj)} {xs : List Int} {tk : Nat} (h : hi ≤ tk) : Jp G hi nws xs 0 [] nws tk := ⟨h, [], rfl, rfl, rfl, fun j p x e => by simp at e⟩
theorem Jp.mono {G : Int → List Int} {hi : Nat} {nws : List (Addr × Obj)} {xs : List Int} : ∀ i ys nw t t', t ≤ t' → Jp G hi nws xs i ys nw t → Jp G hi nws xs i ys nw t' := fun _ _ _ _ _ h hj => ⟨Nat.le_trans hj.1 h, hj.2⟩
theorem Jp.succ {G : Int → List Int} {hi : Nat} {nws : List (Addr × Obj)} {xs : List Int} {i : Nat} {ys : List Value} {nw : List (Addr × Obj)} {tk tk' : Nat} {D : Addr} {vs : List Value} {n : Nat} {x : Int} (h : Jp G hi nws xs i ys nw tk) (hx : xs[i]? = some x) (hv : IntsAre vs (G x)) (ht : tk ≤ tk') :
    Jp G hi nws xs (i + 1) (ys ++ [.ref D]) ((D, listOf vs.toArray n) :: nw) tk' := by
  obtain ⟨h1, pl, hl, rfl, rfl, hp⟩ := h
  refine ⟨Nat.le_trans h1 ht, pl ++ [(D, vs, n)], by simp [hl], by simp, by simp, fun j p y hj hy => ?_⟩
  by_cases hji : j < pl.length
  · rw [List.getElem?_append_left hji] at hj
    exact hp j p y hj hy
  · have hj' : j = pl.length := by
      have : j < (pl ++ [(D, vs, n)]).length := (List.getElem?_eq_some_iff.mp hj).1
      simp at this; omega
    subst hj'
    rw [List.getElem?_append_right (Nat.le_refl _)] at hj
    simp at hj
    subst hj
    rw [hl, hx] at hy
    cases hy
    exact hv
theorem Jp.three {G : Int → List Int} {hi : Nat} {nws : List (Addr × Obj)} {x1 x2 x3 : Int} {ys : List Value} {nw : List (Addr × Obj)} {tk : Nat} (h : Jp G hi nws [x1, x2, x3] 3 ys nw tk) :
    hi ≤ tk ∧ ∃ A1 v1 n1 A2 v2 n2 A3 v3 n3, ys = [.ref A1, .ref A2, .ref A3] ∧ nw = (A3, listOf (v3 : List Value).toArray n3) :: (A2, listOf (v2 : List Value).toArray n2) :: (A1, listOf (v1 : List Value).toArray n1) :: nws ∧ IntsAre v1 (G x1) ∧ IntsAre v2 (G x2) ∧ IntsAre v3 (G x3) := by
  obtain ⟨h1, pl, hl, rfl, rfl, hp⟩ := h
  match pl, hl with
  | [a, b, c], _ => exact ⟨h1, _, _, _, _, _, _, _, _, _, rfl, rfl, hp 0 a x1 rfl rfl, hp 1 b x2 rfl rfl, hp 2 c x3 rfl rfl⟩
theorem Jp.two {G : Int → List Int} {hi : Nat} {nws : List (Addr × Obj)} {x1 x2 : Int} {ys : List Value} {nw : List (Addr × Obj)} {tk : Nat} (h : Jp G hi nws [x1, x2] 2 ys nw tk) :
    hi ≤ tk ∧ ∃ A1 v1 n1 A2 v2 n2, ys = [.ref A1, .ref A2] ∧ nw = (A2, listOf (v2 : List Value).toArray n2) :: (A1, listOf (v1 : List Value).toArray n1) :: nws ∧ IntsAre v1 (G x1) ∧ IntsAre v2 (G x2) := by
  obtain ⟨h1, pl, hl, rfl, rfl, hp⟩ := h
  match pl, hl with
  | [a, b], _ => exact ⟨h1, _, _, _, _, _, _, rfl, rfl, hp 0 a x1 rfl rfl, hp 1 b x2 rfl rfl⟩
/-- The rest of the ledger still lies in it. -/
theorem Jp.sub {G : Int → List Int} {hi : Nat} {nws : List (Addr × Obj)} {xs : List Int} {i : Nat} {ys : List Value} {nw : List (Addr × Obj)} {tk : Nat} (h : Jp G hi nws xs i ys nw tk) : ∀ p ∈ nws, p ∈ nw := by
  obtain ⟨_, pl, _, _, rfl, _⟩ := h
  exact fun p hp => List.mem_append_right _ hp
end Mine

end

section
open PySem PySem.W PyProof.Rows
set_option Elab.async false
namespace Mine
set_option maxRecDepth 100000
/-- The product of two numbers by their places. -/
def prG (G : Int → List Int) (x y : Int) : Int := ((G x).map fun p => ((G y).map fun q => worthsL.getD (p + q + 2).toNat 0).sum).sum
/-- What the walk of law asks of the plain law. -/
structure Plain (G : Int → List Int) : Prop where
  good : ∀ x, 0 ≤ x → x < 5702887 → Good x (G x)
  small : ∀ x, 0 ≤ x → x < 1597 → ∀ p ∈ G x, p < 16
  due : ∀ x y wx wy, 0 ≤ x → x < 5702887 → 0 ≤ y → y < 1597 → WPart x wx → WPart y wy → prG G x y = 3 * x * y - x * wy - y * wx
  bound : ∀ x y, 0 ≤ x → x < 1597 → 0 ≤ y → y < 1597 → 0 ≤ prG G x y ∧ prG G x y < 5702887
  assoc : ∀ x y z, 0 ≤ x → x < 1597 → 0 ≤ y → y < 1597 → 0 ≤ z → z < 1597 → prG G (prG G x y) z = prG G x (prG G y z)
theorem c_placesG (w : World) (mean : ExcName → Option Value) (mg mb : Str → Option Value) (news : List (Addr × Obj)) (x : Int) (t : Tok) (ld lw : Addr) (vd : List Value) (cd : Nat) (lo hi : Nat) (G : Int → List Int)
    (hmd : (ld, listOf vd.toArray cd) ∈ news) (hS : StrsAre vd wordsL) (hT : TokIn lo hi vd) (hlo : 374 ≤ lo) (hlh : lo ≤ hi) (hw : LInts news lw worthsL) (hGr : G = gr 32) (hG : Good x (G x)) :
    Spec 16 w mean mg mb 109 [.int x t, .ref ld, .ref lw] news (fun t0 => hi ≤ t0) (fun r tl _ _ => ∃ D vs n, r = .ref D ∧ tl = [(D, listOf vs.toArray n)] ∧ IntsAre vs (G x)) := by
  subst hGr
  exact c_places w mean mg mb news x t ld lw vd cd lo hi hmd hS hT hlo hlh hw hG
theorem c_prodG (w : World) (mean : ExcName → Option Value) (mg mb : Str → Option Value) (news : List (Addr × Obj)) (la lb lw : Addr) (G : Int → List Int) (x y : Int)
    (ha : LInts news la (G x)) (hb : LInts news lb (G y)) (hw : LInts news lw worthsL) (ha1 : ∀ p ∈ G x, 0 ≤ p) (hb1 : ∀ p ∈ G y, 0 ≤ p) (hab : ∀ p ∈ G x, ∀ q ∈ G y, p + q + 2 < 50) :
    Spec 8 w mean mg mb 116 [.ref la, .ref lb, .ref lw] news (fun _ => True) (fun r tl _ _ => tl = [] ∧ ∃ t', r = .int (prG G x y) t') :=
  c_prod w mean mg mb news la lb lw (G x) (G y) ha hb hw ha1 hb1 hab
theorem c_dueG (w : World) (mean : ExcName → Option Value) (mg mb : Str → Option Value) (news : List (Addr × Obj)) (x y : Int) (t u : Tok) (G : Int → List Int) (P : Plain G) (hx0 : 0 ≤ x) (hx1 : x < 5702887) (hy0 : 0 ≤ y) (hy1 : y < 1597) :
    Spec 8 w mean mg mb 130 [.int x t, .int y u] news (fun _ => True) (fun r tl _ _ => tl = [] ∧ ∃ t', r = .int (prG G x y) t') := by
  intro dp un gd cn cs a ccd cl outer A₀ base h₀ L m s Q E B F X N T hk' hd' hu hpre hret
  refine c_due w mean mg mb news x y t u hx0 (by omega) hy0 (by omega) dp un gd cn cs a ccd cl outer A₀ base h₀ L m s Q E B F X N T hk' hd' hu hpre ?_
  intro r tl h' tk' F' N' o u' p
  obtain ⟨e, wx, wy, t', e2, e3, e4⟩ := p
  exact hret r tl h' tk' F' N' o u' ⟨e, t', by rw [P.due x y wx wy hx0 hx1 hy0 hy1 e3 e4]; exact e2⟩
open LCg (NsObj Off3 Off1 lst SrcAt)
/-- A comprehension whose test holds for no element. -/
theorem restN {prog : Program} {w : World} {A : Around} {h₀ : Heap} {L : Addr} {m : Str → Option Value} {env : Env} {ct elt : Expr} {x : Str} {scope : Scope} {cl : List (Str × Addr)} {s : Shared} {S : List (Addr × Obj) → Prop} {Fin : List Value → List (Addr × Obj) → Prop} {news : List (Addr × Obj)}
    {l : List Addr}
    (turn : ∀ (i : Nat) a I oI C oC D m₂ h tk (E' : Value → Shared → Prop), l[i]? = some a → NsObj oC m₂ → m₂ x = some (.ref a) → Fr h₀ L h m → News h₀ L h ((I, oI) :: (C, oC) :: (D, lst []) :: news) → Off3 I C D news → ((@Ne Nat I C) ∧ (@Ne Nat I D) ∧ (@Ne Nat C D)) →
      wpAny (model prog w) A (isTrue ct (compEnvC scope cl C env) (eval ct (compEnvC scope cl C env))) (fun ok s' => ok = false ∧ LCg.CompEnd h₀ L m { s with heap := h, toks := tk } I oI C oC D (lst []) S (fun _ news' => news' = news) Value.none s') E' { s with heap := h, toks := tk })
    (fin : Fin [] news) :
    LCt.CompRestT prog w A h₀ L m env ct elt x scope cl s S (fun i v => (l.map Value.ref).toArray[i]? = some v) Fin (l.map Value.ref).toArray.size 0 [] news := by
  have hsz : (l.map Value.ref).toArray.size = l.length := by simp
  rw [hsz]
  have key : ∀ (j i : Nat), i + j = l.length → LCt.CompRestT prog w A h₀ L m env ct elt x scope cl s S (fun i v => (l.map Value.ref).toArray[i]? = some v) Fin j i [] news := by
    intro j
    induction j with
    | zero => exact fun i _ => LCt.CompRestT.zero fin
    | succ j ih =>
      intro i hi
      refine LCt.CompRestT.succ ?_
      intro v I oI C oC D m₂ h tk E' hv hC hx F N off ne
      have hv' : (l[i]?).map Value.ref = some v := by simpa using hv
      obtain ⟨a, hl, rfl⟩ := Option.map_eq_some_iff.mp hv'
      refine wpAny_mono (turn i a I oI C oC D m₂ h tk E' hl hC hx F N off ne) (fun ok s₂ hq => ?_) fun _ _ e => e
      obtain ⟨rfl, hq⟩ := hq
      simp only [Bool.false_eq_true, if_false]
      obtain ⟨h', tk', nw, e, F', N', off', hS, rfl⟩ := hq
      exact ⟨h', tk', nw, e, F', N', off', hS, ih (i + 1) (by omega)⟩
  exact key l.length 0 (by omega)
theorem CEnd.push {h₀ : Heap} {L : Addr} {m : Str → Option Value} {s₁ : Shared} {I : Addr} {oI : Obj} {C : Addr} {oC : Obj} {D : Addr} {oD : Obj} {S : List (Addr × Obj) → Prop} {rest : Value → List (Addr × Obj) → Nat → Prop} {A9 : Addr} {o9 : Obj} {nw : List (Addr × Obj)} {h' : Heap} {tk' : Nat} {v : Value}
    (F : Fr h₀ L h' m) (N : News h₀ L h' ((A9, o9) :: (I, oI) :: (C, oC) :: (D, oD) :: nw)) (ne : ∀ q ∈ (I, oI) :: (C, oC) :: (D, oD) :: nw, q.1 ≠ A9) (off : Off3 I C D nw) (hS : S ((A9, o9) :: nw)) (hr : rest v ((A9, o9) :: nw) tk') :
    CEnd h₀ L m s₁ I oI C oC D oD S rest v { s₁ with heap := h', toks := tk' } := by
  refine ⟨h', tk', (A9, o9) :: nw, rfl, F, fun p hp => N p ?_, ⟨⟨?_, ?_, ?_⟩, off⟩, hS, hr⟩
  · simp only [List.mem_cons] at hp ⊢
    rcases hp with e | e | e | e | e
    · exact .inr (.inl e)
    · exact .inr (.inr (.inl e))
    · exact .inr (.inr (.inr (.inl e)))
    · exact .inl e
    · exact .inr (.inr (.inr (.inr e)))
  · exact Ne.symm (ne (I, oI) List.mem_cons_self)
  · exact Ne.symm (ne (C, oC) (List.mem_cons_of_mem _ List.mem_cons_self))
  · exact Ne.symm (ne (D, oD) (List.mem_cons_of_mem _ (List.mem_cons_of_mem _ List.mem_cons_self)))
theorem ints3 {ys : List Value} {x1 x2 x3 : Int} (h : IntsAre ys [x1, x2, x3]) : ∃ t1 t2 t3, ys = [.int x1 t1, .int x2 t2, .int x3 t3] := by
  cases h with | cons _ t1 h => cases h with | cons _ t2 h => cases h with | cons _ t3 h => cases h; exact ⟨t1, t2, t3, rfl⟩
theorem c_dueH (w : World) (mean : ExcName → Option Value) (mg mb : Str → Option Value) (news : List (Addr × Obj)) (x y : Int) (t u : Tok) (G : Int → List Int) (x' y' : Int) (ex : x = x') (ey : y = y') (P : Plain G) (hx0 : 0 ≤ x') (hx1 : x' < 5702887) (hy0 : 0 ≤ y') (hy1 : y' < 1597) :
    Spec 8 w mean mg mb 130 [.int x t, .int y u] news (fun _ => True) (fun r tl _ _ => tl = [] ∧ ∃ t', r = .int (prG G x' y') t') := by
  subst ex; subst ey
  exact c_dueG w mean mg mb news x y t u G P hx0 hx1 hy0 hy1
end Mine

end

section
open PySem PySem.W PyProof.Rows
set_option Elab.async false
namespace Mine
set_option maxRecDepth 100000
set_option maxHeartbeats 8000000
theorem kfill10 (w : World) : ∀ h : Heap, (kTop.heap_1 w.params).In h → Challenge.rw_pe0054_01 = Challenge.rw_pe0054_01 := by w_top off; k_fill; exact fun _ _ => rfl
local macro_rules | `(tactic| walk_at "call builtin:sum") => `(tactic| refine Hold.of ?_)
local macro_rules | `(tactic| walk_at "execs cons") => `(tactic| refine wpAny_execs_cons ?_)
local macro_rules | `(tactic| walk_at "execs nil") => `(tactic| refine wpAny_execs_nil ?_)
local macro_rules | `(tactic| walk_at "exec Assign cons ListComp") => `(tactic| refine Hold.of ?_)
local macro_rules | `(tactic| walk_at "exec Return some") => `(tactic| (exfalso; contradiction))
local macro_rules | `(tactic| walk_at "Exists") => `(tactic| refine Hold.of ?_)
local macro_rules | `(tactic| walk_at "CompSrcT") => `(tactic| refine Hold.of ?_)
local macro_rules | `(tactic| walk_at "CompSrc") => `(tactic| refine Hold.of ?_)
local macro_rules | `(tactic| walk_at "eval ListComp") => `(tactic| refine Hold.of ?_)
local macro_rules | `(tactic| walk_at "call ref") => `(tactic| refine Hold.of ?_)
local macro_rules | `(tactic| walk_at "call ref") => `(tactic| k_dflt (refine' c_words _ _ _ _ _  _ _ _ _ _ _ _ _ _ _ _ _ _ _ _ _ _ ?k1 ?k2 ?k3 ?k4 ?k5 ?kK ?kd ?ku trivial ?_; (case k4 => k_asm); (case k1 => k_asm); (case k2 => k_asm); (case k3 => k_asm); (case k5 => k_asm); (case kK => exact rfl); (case kd => ktr_room); (case ku => ktr_units); intro r9 tl9 h9 tk9 F9 N9 o9 u9 p9; (obtain ⟨D9, v9, n9, e91, e92, e93⟩ := p9); subst e91; subst e92; (have o8 := off1_of (fun q hq => o9 q hq _ List.mem_cons_self)); (simp only [LCg.Off1] at o8); clear o9; (try simp only [List.cons_append, List.nil_append] at N9); (try dsimp only)))
local macro_rules | `(tactic| walk_at "call ref") => `(tactic| k_dflt (refine' c_worths _ _ _ _ _  _ _ _ _ _ _ _ _ _ _ _ _ _ _ _ _ _ ?k1 ?k2 ?k3 ?k4 ?k5 ?kK ?kd ?ku trivial ?_; (case k4 => k_asm); (case k1 => k_asm); (case k2 => k_asm); (case k3 => k_asm); (case k5 => k_asm); (case kK => exact rfl); (case kd => ktr_room); (case ku => ktr_units); intro r9 tl9 h9 tk9 F9 N9 o9 u9 p9; (obtain ⟨D9, v9, n9, e91, e92, e93⟩ := p9); subst e91; subst e92; (have o8 := off1_of (fun q hq => o9 q hq _ List.mem_cons_self)); (simp only [LCg.Off1] at o8); clear o9; (try simp only [List.cons_append, List.nil_append] at N9); (try dsimp only)))
local macro_rules | `(tactic| walk_at "call ref") => `(tactic| k_dflt (refine' c_prodG _ _ _ _ _ _ _ _ _ _ _ ?q1 ?q2 ?q3 ?q4 ?q5 ?q6 _ _ _ _ _ _ _ _ _ _ _ _ _ _ _ _ _ ?k1 ?k2 ?k3 ?k4 ?k5 ?kK ?kd ?ku trivial ?_; (case k4 => k_asm); (case k1 => k_asm); (case k2 => k_asm); (case k3 => k_asm); (case k5 => k_asm); (case kK => exact rfl); (case q1 => exact ⟨_, _, by kcf_m, by assumption⟩); (case q2 => exact ⟨_, _, by kcf_m, by assumption⟩); (case q3 => exact ⟨_, _, by kcf_m, by assumption⟩); (case q4 => assumption); (case q5 => assumption); (case q6 => assumption); (case kd => ktr_room); (case ku => ktr_units); intro r9 tl9 h9 tk9 F9 N9 o9 u9 p9; (obtain ⟨e91, t9, e92⟩ := p9); subst e91; subst e92; clear o9; (try simp only [List.cons_append, List.nil_append] at N9); (try dsimp only)))
local macro_rules | `(tactic| walk_at "call ref") => `(tactic| k_dflt (refine' c_dueH _ _ _ _ _ _ _ _ _ _ _ _ ?qa ?qb ?q0 ?q1 ?q2 ?q3 ?q4 _ _ _ _ _ _ _ _ _ _ _ _ _ _ _ _ _ ?k1 ?k2 ?k3 ?k4 ?k5 ?kK ?kd ?ku trivial ?_; (case k4 => k_asm); (case k1 => k_asm); (case k2 => k_asm); (case k3 => k_asm); (case k5 => k_asm); (case kK => exact rfl); (case qa => (first | (simp only [Int.reduceToNat, List.getD_cons_zero, List.getD_cons_succ]; done) | (simp only [Int.reduceToNat, List.getD_cons_zero, List.getD_cons_succ]; rfl) | rfl)); (case qb => (first | (simp only [Int.reduceToNat, List.getD_cons_zero, List.getD_cons_succ]; done) | (simp only [Int.reduceToNat, List.getD_cons_zero, List.getD_cons_succ]; rfl) | rfl)); (case q0 => assumption); (case q1 => assumption); (case q2 => assumption); (case q3 => assumption); (case q4 => assumption); (case kd => ktr_room); (case ku => ktr_units); intro r9 tl9 h9 tk9 F9 N9 o9 u9 p9; (obtain ⟨e91, t9, e92⟩ := p9); subst e91; subst e92; clear o9; (try simp only [List.cons_append, List.nil_append] at N9); (try dsimp only)))
local macro_rules | `(tactic| walk_at "call ref") => `(tactic| k_dflt (refine' c_placesG _ _ _ _ _ _ _ _ _ _ _ _ _ _ ?q1 ?q2 ?q3 ?q4 ?q5 ?q6 ?q7 ?q8 _ _ _ _ _ _ _ _ _ _ _ _ _ _ _ _ _ ?k1 ?k2 ?k3 ?k4 ?k5 ?kK ?kd ?ku ?kp ?_; (case k4 => k_asm); (case k1 => k_asm); (case k2 => k_asm); (case k3 => k_asm); (case k5 => k_asm); (case kK => exact rfl); (case q1 => kcf_m); (case q2 => assumption); (case q3 => assumption); (case q4 => assumption); (case q5 => assumption); (case q6 => exact ⟨_, _, by kcf_m, by assumption⟩); (case q7 => assumption); (case q8 => assumption); (case kd => ktr_room); (case ku => ktr_units); (case kp => (first | omega | (dsimp only at *; omega))); intro r9 tl9 h9 tk9 F9 N9 o9 u9 p9; (obtain ⟨D9, v9, n9, e91, e92, e93⟩ := p9); subst e91; subst e92; (have o8 := (fun q hq => o9 q hq _ List.mem_cons_self)); clear o9; (try simp only [List.cons_append, List.nil_append] at N9); (try dsimp only)))
local macro_rules | `(tactic| ktr_unf) => `(tactic| (intro y; (try dsimp only); (repeat' split) <;> first | (exfalso; simp_all +decide; done) | rfl | (subst_vars; rfl)))
local macro_rules | `(tactic| k_room) => `(tactic| ktr_room)
local macro_rules | `(tactic| walk_at "eval Name") => `(tactic| (k_here; (with_reducible show wpAny _ _ (eval (Expr.Name _ _) (compEnvC _ _ _ _)) _ _ _); k_dflt (refine' kcf_cell ?k1 ?k2 ?k3 ?k4 ?_; (case k1 => k_asm); (case k2 => rfl); (case k3 => kcf_m); (case k4 => assumption))))
theorem mem3 {x1 x2 x3 x : Int} {i : Nat} (h : [x1, x2, x3][i]? = some x) : x = x1 ∨ x = x2 ∨ x = x3 := by
  have := List.mem_of_getElem? h
  simpa using this
theorem mem2 {x1 x2 x : Int} {i : Nat} (h : [x1, x2][i]? = some x) : x = x1 ∨ x = x2 := by
  have := List.mem_of_getElem? h
  simpa using this
theorem law_body {w : World} {mean : ExcName → Option Value} {mg mb : Str → Option Value} {R : Result → Shared → Prop} {s : Shared} {l : Addr} {vs : List Value} {ns : List Int} {G : Int → List Int} (P : Plain G) (hGr : G = gr 32)
    (X : (kTop.heap_1 w.params).In s.heap) (T : Top hd.view_310 Loose mean mg mb s.heap) (hl : s.heap.IsList l vs.toArray) (hI : IntsAre vs ns) (hlen : ns.length ≤ 63) (htk : 374 ≤ s.toks)
    (hR : ∀ h' tk' m L, Fr s.heap L h' m → R (.ok (.ret (.bool true))) { s with heap := h', toks := tk' }) :
    codeAny (model Challenge.rw_pe0054_01.row.prog w) callerA (.call (.ref 135) ⟨[.ref l], []⟩) R s := by
  refine' Law_intro [(Str.ofString "script", .ref l)] X T ?k6 ?k7 ?k9 ?kB ?c1 ?c2 ?c3 ?c4 ?_
  (case k6 => k_is)
  (case k7 => k_is)
  (case k9 => exact fun _ => BindsTo.of_eq rfl)
  (case kB => exact rfl)
  (case c1 => decide)
  (case c2 => exact rfl)
  (case c3 => exact rfl)
  (case c4 => exact rfl)
  intro L' h tk cells htk1 F N hC
  have mk : KstMark := kstMark
  have B := below_caller s.heap
  obtain ⟨o1, o2, o3, rfl, hc1, hc2, hc3⟩ := CellsAre.three hC
  replace hc1 : o1.data = .cell none := hc1
  replace hc2 : o2.data = .cell none := hc2
  replace hc3 : o3.data = .cell (some (.ref l)) := hc3
  have F0 : Fr s.heap L' h (fun _ => none) := by with_unfolding_all exact F
  clear F hC
  k_steps
  rename Fr _ _ _ _ => F1
  rename News _ _ _ _ => N1
  rename_i h1 tk1 u1 D1 v1 n1 hw1 o81 h2 c2 hc2' h3 tk2 u2 D2 v2 n2 hw2 o82 h4 c1 hc1'
  replace u1 : tk ≤ tk1 := u1
  replace u2 : tk1 ≤ tk2 := u2
  obtain ⟨hS, hT⟩ := hw1
  replace hT : TokIn tk tk1 v1 := hT
  refine Hold.out ?_
  refine wpAny_up ?_
  refine LCg.Assign_ListComp_U (F₀ := F1) (by rfl) (by with_unfolding_all rfl) (by with_unfolding_all rfl) (by decide) (by rfl) (by decide) (by rfl) (by rfl) (by rfl) ?_
  k_steps
  rename_i hr5 F5 N5 keep5
  refine Hold.out ?_
  refine' LCg.CompSrc.range (n := 3) ?b1 ?b2 ?b3 ?b4 ?b5 ?b6 ?b7 ?_
  (case b1 => rfl)
  (case b2 => exact F5)
  (case b3 => exact N5)
  (case b4 => exact hr5)
  (case b5 => decide)
  (case b6 => decide)
  (case b7 => rw [PySem.sizeLine_eq]; omega)
  intro g5
  clear hr5 keep5
  refine restB (fun k => 0 ≤ k ∧ k < 1597) ?_ ?_
  · intro i tv I oI C oC D m₂ ys h5 tk5 E' hi hoC hm2 F6 N6 off6 ne6
    obtain rfl | rfl | rfl : i = 0 ∨ i = 1 ∨ i = 2 := by omega
    · replace hm2 : m₂ (Str.ofString "k") = some (.int 0 tv) := hm2
      k_steps
      rename Fr _ _ _ _ => F7
      rename News _ _ _ _ => N7
      refine Hold.out ?_
      refine' sum_pick (hI.pick (some 0) (some 60) (some 3)) ?s1 F7 N7 List.mem_cons_self ?_
      (case s1 => rfl)
      intro h8 tk8 t8 F8 N8
      generalize (pickNums ns (some 0) (some 60) (some 3)).sum = a0
      k_steps
      exact LCg.CompEnd.intro F8 (news_tail (news_tail N8)) _ (fun p h => h) off6 trivial ⟨rfl, _, _, rfl, fmod_1597 _⟩
    · replace hm2 : m₂ (Str.ofString "k") = some (.int 1 tv) := hm2
      k_steps
      rename Fr _ _ _ _ => F7
      rename News _ _ _ _ => N7
      refine Hold.out ?_
      refine' sum_pick (hI.pick (some 1) (some 60) (some 3)) ?s1 F7 N7 List.mem_cons_self ?_
      (case s1 => rfl)
      intro h8 tk8 t8 F8 N8
      generalize (pickNums ns (some 1) (some 60) (some 3)).sum = a0
      k_steps
      exact LCg.CompEnd.intro F8 (news_tail (news_tail N8)) _ (fun p h => h) off6 trivial ⟨rfl, _, _, rfl, fmod_1597 _⟩
    · replace hm2 : m₂ (Str.ofString "k") = some (.int 2 tv) := hm2
      k_steps
      rename Fr _ _ _ _ => F7
      rename News _ _ _ _ => N7
      refine Hold.out ?_
      refine' sum_pick (hI.pick (some 2) (some 60) (some 3)) ?s1 F7 N7 List.mem_cons_self ?_
      (case s1 => rfl)
      intro h8 tk8 t8 F8 N8
      generalize (pickNums ns (some 2) (some 60) (some 3)).sum = a0
      k_steps
      exact LCg.CompEnd.intro F8 (news_tail (news_tail N8)) _ (fun p h => h) off6 trivial ⟨rfl, _, _, rfl, fmod_1597 _⟩
  · intro ys ks hks hk3 hkb D3 h6 tk6 F7 N7 off7 up7
    obtain ⟨x1, x2, x3, rfl⟩ : ∃ x1 x2 x3, ks = [x1, x2, x3] := by
      match ks, hk3 with
      | [x1, x2, x3], _ => exact ⟨x1, x2, x3, rfl⟩
    obtain ⟨hx1, hx1'⟩ := hkb x1 (by simp)
    obtain ⟨hx2, hx2'⟩ := hkb x2 (by simp)
    obtain ⟨hx3, hx3'⟩ := hkb x3 (by simp)
    clear hk3 hkb
    replace up7 : tk2 ≤ tk6 := Nat.le_trans (Nat.le_refl _) up7
    have F8 : Fr s.heap L' h6 (fun y => if y = Str.ofString "numbers" then some (Value.ref D3) else none) := F7
    clear F7
    k_steps
    refine Hold.out ?_
    refine Assign_ListComp_M (h₀ := s.heap) (L := L') (m := fun y => if y = Str.ofString "numbers" then some (Value.ref D3) else none) (by rfl) (by with_unfolding_all rfl) (by with_unfolding_all rfl) (by decide) (by rfl) (by decide) (by rfl) (by rfl) (by rfl) ?_
    k_steps
    refine CSrc.list D3 (LCg.lst ys) ys.toArray ys.length _ (Jp G tk1 _ [x1, x2, x3]) rfl rfl F8 N7 List.mem_cons_self rfl rfl (by rw [List.size_toArray, hks.length, PySem.sizeLine_eq]; exact Nat.le_of_ble_eq_true rfl) (Jp.zero (Nat.le_trans u2 up7)) (fun g6 => ⟨⟨Jp.mono, ?_⟩, ?_⟩)
    · intro i v zs nw I oI C oC D m₂ h7 tk7 E' hi hv hJ htk7 hlen7 hoC hm2 F9 N9 off9 ne9 hS9
      obtain ⟨x, tx, rfl, hx⟩ := IntsAre.at hks i v (by simpa using hv)
      have hG : Good x (G x) := P.good x (by rcases mem3 hx with e | e | e <;> omega) (by rcases mem3 hx with e | e | e <;> omega)
      have hJ1 := hJ.1
      have hs1 := hJ.sub (D1, listOf v1.toArray n1) (List.mem_cons_of_mem _ (List.mem_cons_of_mem _ List.mem_cons_self))
      have hs2 := hJ.sub (D2, listOf v2.toArray n2) (List.mem_cons_of_mem _ List.mem_cons_self)
      have hs3 := hJ.sub (L' + 1 + 1 + 1, c1) (List.mem_cons_of_mem _ (List.mem_cons_of_mem _ (List.mem_cons_of_mem _ List.mem_cons_self)))
      have hs4 := hJ.sub (L' + 1 + 1, c2) (List.mem_cons_of_mem _ (List.mem_cons_of_mem _ (List.mem_cons_of_mem _ (List.mem_cons_of_mem _ List.mem_cons_self))))
      replace htk7 : tk6 ≤ tk7 := htk7
      have h374 : 374 ≤ tk := Nat.le_trans htk htk1
      clear hx1 hx1' hx2 hx2' hx3 hx3'
      k_steps
      rename Fr _ _ _ _ => F10
      rename News _ _ _ _ => N10
      rename_i hF9 h10 tk10 hu10 D10 v10 n10 hv10 ho10
      replace hu10 : tk7 ≤ tk10 := hu10
      refine CEnd.push F10 N10 ho10 off9 (List.mem_cons_of_mem _ hS9) (fun _ => Jp.succ hJ hx hv10 hu10)
    · intro zs nw tk9 hzl htk9 hJ9
      have hsz3 : ys.toArray.size = 3 := by rw [List.size_toArray, hks.length]; rfl
      rw [hsz3] at hJ9
      obtain ⟨hJ91, A1, a1, m1, A2, a2, m2, A3, a3, m3, rfl, rfl, hA1, hA2, hA3⟩ := Jp.three hJ9
      obtain ⟨t1, t2, t3, rfl⟩ := ints3 hks
      replace htk9 : tk6 ≤ tk9 := htk9
      intro D4 h8 tk10 htk10 F11 N11 off11
      have F12 : Fr s.heap L' h8 (fun y => if y = Str.ofString "read" then some (Value.ref D4) else if y = Str.ofString "numbers" then some (Value.ref D3) else none) := F11
      clear F11 F8 N7 hJ9 hks hzl hsz3
      have N12 : News s.heap L' h8 [(D4, listOf #[.ref A1, .ref A2, .ref A3] 3), (A3, listOf a3.toArray m3), (A2, listOf a2.toArray m2), (A1, listOf a1.toArray m1), (D3, listOf #[.int x1 t1, .int x2 t2, .int x3 t3] 3), (D2, listOf v2.toArray n2), (D1, listOf v1.toArray n1), (L' + 1 + 1 + 1, c1), (L' + 1 + 1, c2), (L' + 1, o3)] := N11
      clear N11
      have hp1 : ∀ p ∈ G x1, 0 ≤ p := fun p hp => ((P.good x1 hx1 (by omega)).bnd p hp).1
      have hp2 : ∀ p ∈ G x2, 0 ≤ p := fun p hp => ((P.good x2 hx2 (by omega)).bnd p hp).1
      have hp3 : ∀ p ∈ G x3, 0 ≤ p := fun p hp => ((P.good x3 hx3 (by omega)).bnd p hp).1
      have hab : ∀ p ∈ G x1, ∀ q ∈ G x2, p + q + 2 < 50 := fun p hp q hq => by have := P.small x1 hx1 hx1' p hp; have := P.small x2 hx2 hx2' q hq; omega
      have hbc : ∀ p ∈ G x2, ∀ q ∈ G x3, p + q + 2 < 50 := fun p hp q hq => by have := P.small x2 hx2 hx2' p hp; have := P.small x3 hx3 hx3' q hq; omega
      have hx1'' : x1 < 5702887 := by omega
      have hx2'' : x2 < 5702887 := by omega
      obtain ⟨hl0, hl1⟩ := P.bound x1 x2 hx1 hx1' hx2 hx2'
      obtain ⟨hr0, hr1⟩ := P.bound x2 x3 hx2 hx2' hx3 hx3'
      have hass := P.assoc x1 x2 x3 hx1 hx1' hx2 hx2' hx3 hx3'
      k_steps
      refine Hold.out ?_
      refine wpAny_up ?_
      refine LCt.ListComp_T (F₀ := F12) (by with_unfolding_all rfl) (by decide) (by rfl) (by decide) (by rfl) ?_
      k_steps
      refine Hold.out ?_
      refine LCt.CompSrcT.ledger (its := ([A1, A2, A3].map Value.ref).toArray) (k := 3) rfl F12 N12 List.mem_cons_self (by rw [PySem.sizeLine_eq]; exact Nat.le_of_ble_eq_true rfl) ?_
      intro g7
      refine restN ?_ ?_
      · intro i a I oI C oC D m₂ h9 tk9 E' hai hoC hm2 F13 N13 off13 ne13
        k_steps
        exact LCg.CompEnd.intro F13 N13 _ (fun p h => h) off13 (.inr ⟨_, List.mem_cons_self, rfl, _, rfl⟩) rfl
      · k_steps
        rename Fr _ _ _ _ => F14
        rename News _ _ _ _ => N14
        rename_i tkE oE upE e1 hE ltE hA tkA uA tl hB hC tkC uC tr hD FD ND tD1 tD2 hF tkF FF uF tF NF eF tG1 tG2 h14 tk14 u14 t14 e14
        have htk14 : tk1 ≤ tk14 := by
          have u1' : tk10 ≤ tkE := upE
          have u2' : tkE + 1 + 1 ≤ tkA := uA
          have u3' : tkA + 1 + 1 + 1 ≤ tkC := uC
          have u4' : tkC + 1 + 1 + 1 ≤ tkF := uF
          have u5' : tkF + 1 + 1 ≤ tk14 := u14
          omega
        clear FD ND FF NF eF e14 uA uC uF u14 upE oE ltE hF hD hC hB hA
        refine Hold.out ?_
        refine Assign_ListComp_M (h₀ := s.heap) (L := L') (m := fun y => if y = Str.ofString "right" then some (Value.int (prG G x2 x3) tr) else if y = Str.ofString "left" then some (Value.int (prG G x1 x2) tl) else if y = Str.ofString "read" then some (Value.ref D4) else if y = Str.ofString "numbers" then some (Value.ref D3) else none) (by rfl) (by with_unfolding_all rfl) (by with_unfolding_all rfl) (by decide) (by rfl) (by decide) (by rfl) (by rfl) (by rfl) ?_
        k_steps
        rename Fr _ _ _ _ => F15
        rename News _ _ _ _ => N15
        rename_i D5 h15 lt15
        refine CSrc.list D5 (listOf #[.int (prG G x1 x2) tl, .int (prG G x2 x3) tr] 0) #[.int (prG G x1 x2) tl, .int (prG G x2 x3) tr] 0 _ (Jp G tk1 _ [prG G x1 x2, prG G x2 x3]) rfl rfl F15 N15 List.mem_cons_self rfl rfl (by rw [PySem.sizeLine_eq]; exact Nat.le_of_ble_eq_true rfl) (Jp.zero (Nat.le_trans htk14 (by first | exact Nat.le_refl _ | exact Nat.le_add_right _ _))) (fun g8 => ⟨⟨Jp.mono, ?_⟩, ?_⟩)
        · intro i v zs nw I oI C oC D m₂ h16 tk16 E' hi hv hJ htk16 hlen16 hoC hm2 F16 N16 off16 ne16 hS16
          have hlr : IntsAre [Value.int (prG G x1 x2) tl, Value.int (prG G x2 x3) tr] [prG G x1 x2, prG G x2 x3] := .cons _ _ (.cons _ _ .nil)
          obtain ⟨x, tx, rfl, hx⟩ := IntsAre.at hlr i v (by simpa using hv)
          have hG : Good x (G x) := P.good x (by rcases mem2 hx with e | e <;> rw [e] <;> assumption) (by rcases mem2 hx with e | e <;> rw [e] <;> assumption)
          have hJ1 := hJ.1
          have hs1 := hJ.sub (D1, listOf v1.toArray n1) (by kcf_m)
          have hs2 := hJ.sub (D2, listOf v2.toArray n2) (by kcf_m)
          have hs3 := hJ.sub (L' + 1 + 1 + 1, c1) (by kcf_m)
          have hs4 := hJ.sub (L' + 1 + 1, c2) (by kcf_m)
          replace htk16 : tk14 ≤ tk16 := Nat.le_trans (by first | exact Nat.le_refl _ | exact Nat.le_add_right _ _) htk16
          have h374 : 374 ≤ tk := Nat.le_trans htk htk1
          clear hx1 hx1' hx2 hx2' hx3 hx3' F15 N15 hab hbc hp1 hp2 hp3 hlr hv
          k_steps
          rename Fr _ _ _ _ => F17
          rename News _ _ _ _ => N17
          rename_i hF9 h17 tk17 hu17 D17 v17 n17 hv17 ho17
          replace hu17 : tk16 ≤ tk17 := hu17
          refine CEnd.push F17 N17 ho17 off16 (List.mem_cons_of_mem _ hS16) (fun _ => Jp.succ hJ hx hv17 hu17)
        · intro zs nw tk18 hzl htk18 hJ18
          obtain ⟨hJ181, B1, b1, k1, B2, b2, k2, rfl, rfl, hB1, hB2⟩ := Jp.two hJ18
          intro D6 h18 tk19 htk19 F18 N18 off18
          have F19 : Fr s.heap L' h18 (fun y => if y = Str.ofString "joined" then some (Value.ref D6) else if y = Str.ofString "right" then some (Value.int (prG G x2 x3) tr) else if y = Str.ofString "left" then some (Value.int (prG G x1 x2) tl) else if y = Str.ofString "read" then some (Value.ref D4) else if y = Str.ofString "numbers" then some (Value.ref D3) else none) := F18
          have N19 : News s.heap L' h18 ((D6, listOf #[.ref B1, .ref B2] 2) :: _) := N18
          clear F18 F15 N15 N18 hJ18 hzl
          have hp4 : ∀ p ∈ G (prG G x1 x2), 0 ≤ p := fun p hp => ((P.good _ hl0 hl1).bnd p hp).1
          have hp5 : ∀ p ∈ G (prG G x2 x3), 0 ≤ p := fun p hp => ((P.good _ hr0 hr1).bnd p hp).1
          have hac : ∀ p ∈ G (prG G x1 x2), ∀ q ∈ G x3, p + q + 2 < 50 := fun p hp q hq => by have := ((P.good _ hl0 hl1).bnd p hp).2; have := P.small x3 hx3 hx3' q hq; omega
          have had : ∀ p ∈ G x1, ∀ q ∈ G (prG G x2 x3), p + q + 2 < 50 := fun p hp q hq => by have := P.small x1 hx1 hx1' p hp; have := ((P.good _ hr0 hr1).bnd q hq).2; omega
          k_steps
          refine Hold.out ?_
          refine LCt.ListComp_T (F₀ := F19) (by with_unfolding_all rfl) (by decide) (by rfl) (by decide) (by rfl) ?_
          k_steps
          refine Hold.out ?_
          refine LCt.CompSrcT.ledger (its := ([B1, B2].map Value.ref).toArray) (k := 2) rfl F19 N19 List.mem_cons_self (by rw [PySem.sizeLine_eq]; exact Nat.le_of_ble_eq_true rfl) ?_
          intro g20
          refine restN ?_ ?_
          · intro i a I oI C oC D m₂ h21 tk21 E' hai hoC hm2 F21 N21 off21 ne21
            k_steps
            exact LCg.CompEnd.intro F21 N21 _ (fun p h => h) off21 (.inr ⟨_, List.mem_cons_self, rfl, _, rfl⟩) rfl
          · clear F19 N19
            k_steps
            rename Fr _ _ _ _ => F22
            refine Hold.out ?_
            refine ⟨_, _, _, rfl, F22, fun m L'' F23 => ?_⟩
            have e23 : (prG G (prG G x1 x2) x3 == prG G x1 (prG G x2 x3)) = true := by rw [hass]; exact beq_self_eq_true _
            dsimp only
            rw [e23]
            exact hR _ _ _ _ F23
end Mine

end

section
open PySem PySem.W PyProof.Rows
set_option Elab.async false
namespace Mine
set_option maxRecDepth 100000
open Builtin Builtin.Str
open StrLaws (ChainG At partsFrom)

/-- The signs of glued texts. -/
def glue : List (List Nat) → List Nat
  | [] => []
  | [x] => x
  | x :: r => x ++ 44 :: 32 :: glue r

theorem at_iff {x : Str} {k : Nat} : At x (Str.ofString ", ") x.length k ↔ ∃ r, x.cps.toList.drop k = 44 :: 32 :: r := by
  have ey : (Str.ofString ", ").cps.toList = [44, 32] := by decide +kernel
  have el : (Str.ofString ", ").length = 2 := by decide +kernel
  have hn : x.cps.toList.length = x.length := by simp [Str.length]
  unfold At
  rw [StrLaws.subAt_eq, ey, el]
  generalize x.cps.toList = L at hn
  constructor
  · rintro ⟨h1, h2⟩
    have h3 : (L.drop k).take 2 = [44, 32] := eq_of_beq h2
    refine ⟨(L.drop k).drop 2, ?_⟩
    rw [← List.take_append_drop 2 (L.drop k), h3]; simp
  · rintro ⟨r, hr⟩
    constructor
    · have := congrArg List.length hr
      simp only [List.length_drop, List.length_cons] at this
      omega
    · rw [hr]; rfl

theorem not_at_word {x : Str} {a : Nat} {w r : List Nat} (hx : x.cps.toList.drop a = w ++ r) (hw : 44 ∉ w) {k : Nat} (h1 : a ≤ k) (h2 : k < a + w.length) : ¬ At x (Str.ofString ", ") x.length k := by
  intro h
  obtain ⟨r', hr⟩ := at_iff.mp h
  have e : x.cps.toList.drop k = (w ++ r).drop (k - a) := by
    rw [← hx, List.drop_drop]; congr 1; omega
  rw [e, List.drop_append_of_le_length (by omega)] at hr
  have hne : w.drop (k - a) ≠ [] := by
    intro h0
    have := congrArg List.length h0
    simp only [List.length_drop, List.length_nil] at this
    omega
  cases hd : w.drop (k - a) with
  | nil => exact hne hd
  | cons c cs =>
    rw [hd] at hr
    simp at hr
    have : c ∈ w := List.mem_of_mem_drop (hd ▸ List.mem_cons_self)
    rw [hr.1] at this
    exact hw this

theorem parts_glue {x : Str} : ∀ (ws : List Str) (cuts : List Nat) (a f : Nat), ws ≠ [] → (∀ w ∈ ws, 44 ∉ w.cps.toList) → x.cps.toList.drop a = glue (ws.map (·.cps.toList)) → a ≤ x.length →
    ChainG x (Str.ofString ", ") x.length a cuts f → (∀ k, f ≤ k → ¬ At x (Str.ofString ", ") x.length k) → partsFrom x (Str.ofString ", ").length a cuts = ws := by
  have el : (Str.ofString ", ").length = 2 := by decide +kernel
  have hn : x.cps.toList.length = x.length := by simp [Str.length]
  intro ws
  induction ws with
  | nil => intro cuts a f h; exact absurd rfl h
  | cons w ws ih =>
    intro cuts a f _ hfree hdrop ha hG hno
    have hw := hfree w List.mem_cons_self
    cases ws with
    | nil =>
      replace hdrop : x.cps.toList.drop a = w.cps.toList := hdrop
      have hlen : w.cps.toList.length = x.length - a := by rw [← hdrop, List.length_drop, hn]
      cases cuts with
      | nil =>
        show [strSub x a x.length] = [w]
        have : strSub x a x.length = w := by
          apply Str.ext'
          apply Array.toList_inj.mp
          rw [StrLaws.strSub_toList, hdrop]
          exact List.take_of_length_le (by omega)
        rw [this]
      | cons c r =>
        exfalso
        obtain ⟨h1, h2, _⟩ := hG
        have h3 := h2.1
        rw [el] at h3
        exact not_at_word (x := x) (a := a) (w := w.cps.toList) (r := []) (by simpa using hdrop) hw h1 (by omega) h2
    | cons w' ws =>
      replace hdrop : x.cps.toList.drop a = w.cps.toList ++ 44 :: 32 :: glue ((w' :: ws).map (·.cps.toList)) := hdrop
      have hlen : x.length - a = w.cps.toList.length + (2 + (glue ((w' :: ws).map (·.cps.toList))).length) := by
        have := congrArg List.length hdrop
        simp only [List.length_drop, List.length_append, List.length_cons, hn] at this
        omega
      have hd2 : x.cps.toList.drop (a + w.cps.toList.length) = 44 :: 32 :: glue ((w' :: ws).map (·.cps.toList)) := by
        rw [← List.drop_drop, hdrop]; simp
      have hat : At x (Str.ofString ", ") x.length (a + w.cps.toList.length) := at_iff.mpr ⟨_, hd2⟩
      cases cuts with
      | nil =>
        exfalso
        have e : f = a := hG
        exact hno _ (by omega) hat
      | cons c r =>
        obtain ⟨h1, h2, h3, h4⟩ := hG
        have hc1 : ¬ c < a + w.cps.toList.length := fun h => not_at_word hdrop hw h1 h h2
        have hc2 : ¬ a + w.cps.toList.length < c := fun h => h3 _ (by omega) h hat
        obtain rfl : c = a + w.cps.toList.length := by omega
        show strSub x a _ :: partsFrom x _ _ r = w :: w' :: ws
        have e1 : strSub x a (a + w.cps.toList.length) = w := by
          apply Str.ext'
          apply Array.toList_inj.mp
          rw [StrLaws.strSub_toList, hdrop]
          have : a + w.cps.toList.length - a = w.cps.toList.length := by omega
          rw [this]; simp
        rw [e1, ih r _ f (by simp) (fun v hv => hfree v (List.mem_cons_of_mem _ hv)) ?_ ?_ h4 hno]
        · rw [el, ← List.drop_drop, hd2]; rfl
        · rw [el]; omega

theorem join_glue : ∀ ws : List Str, (Str.join (Str.ofString ", ") ws).cps.toList = glue (ws.map (·.cps.toList)) := by
  have ey : (Str.ofString ", ").cps.toList = [44, 32] := by decide +kernel
  intro ws
  induction ws with
  | nil => rfl
  | cons w ws ih =>
    cases ws with
    | nil => rfl
    | cons w' ws =>
      show (w ++ Str.ofString ", " ++ Str.join (Str.ofString ", ") (w' :: ws)).cps.toList = w.cps.toList ++ 44 :: 32 :: glue ((w' :: ws).map (·.cps.toList))
      rw [← ih]
      simp only [Str.cps_append, Array.toList_append, ey]
      simp

theorem kind_le {x y : Str} (h : ∀ c ∈ y.cps.toList, c ∈ x.cps.toList) : ¬ Builtin.Str.strKind x < Builtin.Str.strKind y := by
  intro hk
  have all_of : ∀ B : Nat, x.cps.all (· < B) = true → y.cps.all (· < B) = true := fun B hB => by
    rw [← Array.all_toList] at hB ⊢
    exact List.all_eq_true.mpr fun c hc => List.all_eq_true.mp hB c (h c hc)
  unfold Builtin.Str.strKind at hk
  by_cases a1 : x.cps.all (· < 256) = true
  · rw [if_pos a1, if_pos (all_of _ a1)] at hk; omega
  · rw [if_neg a1] at hk
    by_cases a2 : x.cps.all (· < 65536) = true
    · rw [if_pos a2] at hk
      by_cases b1 : y.cps.all (· < 256) = true
      · rw [if_pos b1] at hk; omega
      · rw [if_neg b1, if_pos (all_of _ a2)] at hk; omega
    · rw [if_neg a2] at hk
      split at hk
      · omega
      · split at hk <;> omega

/-- What join has glued, split takes apart. -/
theorem split_join (ws : List Str) (hne : ws ≠ []) (hfree : ∀ w ∈ ws, 44 ∉ w.cps.toList) : Txt.split (Str.join (Str.ofString ", ") ws) (Str.ofString ", ") = ws := by
  have el : (Str.ofString ", ").length = 2 := by decide +kernel
  have hg := join_glue ws
  generalize Str.join (Str.ofString ", ") ws = x at hg
  have hn : x.cps.toList.length = x.length := by simp [Str.length]
  obtain ⟨f, hG, hno⟩ := StrLaws.occ_tight x (Str.ofString ", ") (by rw [el]; omega)
  have key : ∀ cuts f, ChainG x (Str.ofString ", ") x.length 0 cuts f → (∀ k, f ≤ k → ¬ At x (Str.ofString ", ") x.length k) → partsFrom x (Str.ofString ", ").length 0 cuts = ws :=
    fun cuts f h1 h2 => parts_glue ws cuts 0 f hne hfree (by simpa using hg) (Nat.zero_le _) h1 h2
  have whole : (∀ k, ¬ At x (Str.ofString ", ") x.length k) → [x] = ws := fun h => by
    have := key [] 0 rfl (fun k _ => h k)
    rw [← this]
    show [x] = [strSub x 0 x.length]
    rw [StrLaws.sub_whole]
  unfold Txt.split
  split
  · rename_i hc
    refine whole fun k hA => ?_
    rw [Bool.or_eq_true, decide_eq_true_eq, decide_eq_true_eq] at hc
    rcases hc with h | h
    · have := hA.1; omega
    · refine kind_le (x := x) (y := Str.ofString ", ") (fun c hc => ?_) h
      obtain ⟨r, hr⟩ := at_iff.mp hA
      have ey : (Str.ofString ", ").cps.toList = [44, 32] := by decide +kernel
      rw [ey] at hc
      refine List.mem_of_mem_drop (i := k) ?_
      rw [hr]
      simp at hc
      rcases hc with rfl | rfl <;> simp
  · split
    · rename_i he
      have e0 : Builtin.Str.occurrences x (Str.ofString ", ") 0 x.length (x.length + 1) = [] := List.isEmpty_iff.mp he
      rw [e0] at hG
      have ef : f = 0 := hG
      subst ef
      exact whole fun k => hno k (Nat.zero_le _)
    · rw [StrLaws.partsBetween_eq]
      exact key _ f hG hno
end Mine

end

section
open PySem PySem.W PyProof.Rows
set_option Elab.async false
namespace Mine
set_option maxRecDepth 100000

/-- Rising places below k, no two of them neighbours. -/
inductive Zk : Nat → List Int → Prop
  | nil : Zk 0 []
  | skip {k : Nat} {ps : List Int} : Zk k ps → Zk (k + 1) ps
  | one : Zk 1 [0]
  | take {k : Nat} {ps : List Int} : Zk k ps → Zk (k + 2) (ps ++ [((k + 1 : Nat) : Int)])

theorem wo_step (k : Nat) (h : k + 2 < 50) : wo (k + 2) = wo (k + 1) + wo k := worthsL_step (k + 2) h (by omega)
theorem wo_le : ∀ j : Nat, j < 50 → ∀ k : Nat, k < j → wo k ≤ wo j := by decide +kernel
theorem wo_nn : ∀ j : Nat, j < 50 → 0 ≤ wo j := by decide +kernel
/-- What the places of ps are worth. -/
def sa (ps : List Int) : Int := (ps.map fun p => worthsL.getD p.toNat 0).sum
theorem sa_snoc (ps : List Int) (k : Nat) : sa (ps ++ [(k : Int)]) = sa ps + wo k := by
  unfold sa wo
  rw [List.map_append, List.sum_append]; simp

theorem gr_Z : ∀ k : Nat, k ≤ 48 → ∀ r : Int, 0 ≤ r → r < wo k → Zk k (gr k r) ∧ sa (gr k r) = r
  | 0, _, r, h0, h1 => by
    have : wo 0 = 1 := by decide
    obtain rfl : r = 0 := by omega
    exact ⟨.nil, rfl⟩
  | 1, _, r, h0, h1 => by
    have e0 : wo 0 = 1 := by decide
    have e1 : wo 1 = 2 := by decide
    show Zk 1 (if wo 0 ≤ r then gr 0 (r - wo 0) ++ [((0 : Nat) : Int)] else gr 0 r) ∧ sa (if wo 0 ≤ r then gr 0 (r - wo 0) ++ [((0 : Nat) : Int)] else gr 0 r) = r
    rw [e0]
    by_cases h : 1 ≤ r
    · rw [if_pos h]
      obtain rfl : r = 1 := by omega
      exact ⟨.one, by decide⟩
    · rw [if_neg h]
      obtain rfl : r = 0 := by omega
      exact ⟨.skip .nil, rfl⟩
  | k + 2, hk, r, h0, h1 => by
    have es := wo_step k (by omega)
    show Zk (k + 2) (if wo (k + 1) ≤ r then gr (k + 1) (r - wo (k + 1)) ++ [((k + 1 : Nat) : Int)] else gr (k + 1) r) ∧ sa (if wo (k + 1) ≤ r then gr (k + 1) (r - wo (k + 1)) ++ [((k + 1 : Nat) : Int)] else gr (k + 1) r) = r
    by_cases h : wo (k + 1) ≤ r
    · rw [if_pos h]
      have e : gr (k + 1) (r - wo (k + 1)) = gr k (r - wo (k + 1)) := by
        show (if wo k ≤ r - wo (k + 1) then _ else gr k (r - wo (k + 1))) = _
        rw [if_neg (by omega)]
      rw [e]
      obtain ⟨h2, h3⟩ := gr_Z k (by omega) (r - wo (k + 1)) (by omega) (by omega)
      exact ⟨.take h2, by rw [sa_snoc, h3]; omega⟩
    · rw [if_neg h]
      obtain ⟨h2, h3⟩ := gr_Z (k + 1) (by omega) r h0 (by omega)
      exact ⟨.skip h2, h3⟩
theorem gr_drop {k : Nat} {r : Int} (h : r < wo k) : ∀ n : Nat, k + n ≤ 49 → gr (k + n) r = gr k r
  | 0, _ => rfl
  | n + 1, hn => by
    show (if wo (k + n) ≤ r then _ else gr (k + n) r) = _
    have h2 : wo k ≤ wo (k + n) := by
      cases n with
      | zero => exact Int.le_refl _
      | succ n => exact wo_le _ (by omega) _ (by omega)
    rw [if_neg (by omega)]
    exact gr_drop h n (by omega)

theorem Zk.bnd {k : Nat} {ps : List Int} (h : Zk k ps) : ∀ p ∈ ps, 0 ≤ p ∧ p < k := by
  induction h with
  | nil => exact fun _ h => nomatch h
  | skip _ ih => exact fun p hp => by have := ih p hp; omega
  | one => intro p hp; rw [List.mem_singleton.mp hp]; omega
  | take _ ih =>
    intro p hp
    rcases List.mem_append.mp hp with h1 | h1
    · have := ih p h1; omega
    · rw [List.mem_singleton.mp h1]; omega
theorem Zk.up {k : Nat} {ps : List Int} (h : Zk k ps) : ps.Pairwise (· < ·) := by
  induction h with
  | nil => exact .nil
  | skip _ ih => exact ih
  | one => exact List.pairwise_singleton _ _
  | take h ih =>
    refine List.pairwise_append.mpr ⟨ih, List.pairwise_singleton _ _, fun a ha b hb => ?_⟩
    rw [List.mem_singleton.mp hb]
    have := h.bnd a ha
    omega
theorem Zk.len {k : Nat} {ps : List Int} (h : Zk k ps) : ps.length ≤ k := by
  induction h with
  | nil => exact Nat.le_refl _
  | skip _ ih => omega
  | one => exact Nat.le_refl _
  | take h ih => rw [List.length_append, List.length_singleton]; omega
theorem Zk.apart {k : Nat} {ps : List Int} (h : Zk k ps) : ∀ p ∈ ps, p + 1 ∉ ps := by
  induction h with
  | nil => exact fun _ h => nomatch h
  | skip _ ih => exact ih
  | one => intro p hp hq; rw [List.mem_singleton.mp hp] at hq; exact absurd (List.mem_singleton.mp hq) (by omega)
  | take h ih =>
    intro p hp hq
    rcases List.mem_append.mp hp with h1 | h1
    · rcases List.mem_append.mp hq with h2 | h2
      · exact ih p h1 h2
      · have e := List.mem_singleton.mp h2
        have := h.bnd p h1
        omega
    · have e := List.mem_singleton.mp h1
      rcases List.mem_append.mp hq with h2 | h2
      · have := h.bnd _ h2; omega
      · have := List.mem_singleton.mp h2; omega
/-- The bits of the mask are the places. -/
theorem Zk.bits {k : Nat} {ps : List Int} (h : Zk k ps) : ∃ n : Nat, ms ps = (n : Int) ∧ n < 2 ^ k ∧ ∀ i : Nat, n.testBit i = true ↔ (i : Int) ∈ ps := by
  induction h with
  | nil => exact ⟨0, rfl, by decide, fun i => by simp⟩
  | skip _ ih =>
    obtain ⟨n, h1, h2, h3⟩ := ih
    exact ⟨n, h1, Nat.lt_of_lt_of_le h2 (Nat.pow_le_pow_right (by decide) (Nat.le_succ _)), h3⟩
  | one =>
    refine ⟨1, rfl, by decide, fun i => ?_⟩
    rw [List.mem_singleton]
    constructor
    · intro h
      cases i with
      | zero => rfl
      | succ i => simp [Nat.testBit_succ] at h
    · intro h
      have : i = 0 := by omega
      subst this; rfl
  | @take k ps h ih =>
    obtain ⟨n, h1, h2, h3⟩ := ih
    have hlt : n < 2 ^ (k + 1) := Nat.lt_of_lt_of_le h2 (Nat.pow_le_pow_right (by decide) (Nat.le_succ _))
    refine ⟨2 ^ (k + 1) + n, ?_, ?_, fun i => ?_⟩
    · rw [ms_append, ms_cons, ms_nil, h1, Int.toNat_natCast]
      rw [Int.natCast_add, Int.natCast_pow]
      have : ((2 : Nat) : Int) = 2 := rfl
      rw [this]; omega
    · have : 2 ^ (k + 2) = 2 ^ (k + 1) + 2 ^ (k + 1) := by rw [Nat.pow_succ]; omega
      omega
    · rw [List.mem_append, List.mem_singleton]
      by_cases hi : i = k + 1
      · subst hi
        rw [Nat.testBit_two_pow_add_eq]
        have : n.testBit (k + 1) = false := Nat.testBit_lt_two_pow hlt
        rw [this]
        simp
      · by_cases hi2 : i < k + 1
        · rw [Nat.testBit_two_pow_add_gt hi2, h3]
          constructor
          · exact .inl
          · rintro (h | h)
            · exact h
            · omega
        · have hgt : 2 ^ (k + 1) + n < 2 ^ i := by
            have e1 : 2 ^ (k + 1 + 1) ≤ 2 ^ i := Nat.pow_le_pow_right (by decide) (by omega)
            have e2 : 2 ^ (k + 1 + 1) = 2 ^ (k + 1) + 2 ^ (k + 1) := by rw [Nat.pow_succ]; omega
            omega
          rw [Nat.testBit_lt_two_pow hgt]
          constructor
          · intro h; cases h
          · rintro (h' | h')
            · have := h.bnd _ h'; omega
            · omega
theorem Zk.free {k : Nat} {ps : List Int} (h : Zk k ps) : Builtin.bitAnd (ms ps) (ms ps * 2 ^ (1 : Int).toNat) = 0 := by
  obtain ⟨n, h1, _, h3⟩ := h.bits
  have key : n &&& (n * 2) = 0 := by
    apply Nat.eq_of_testBit_eq
    intro i
    rw [Nat.testBit_and, Nat.zero_testBit]
    cases i with
    | zero =>
      have : (n * 2).testBit 0 = false := by simp [Nat.testBit_zero]
      rw [this, Bool.and_false]
    | succ i =>
      have e : (n * 2).testBit (i + 1) = n.testBit i := by
        rw [Nat.testBit_succ]; congr 1; omega
      rw [e]
      cases hb : n.testBit i with
      | false => rw [Bool.and_false]
      | true =>
        cases hc : n.testBit (i + 1) with
        | false => rfl
        | true => exact absurd ((h3 (i + 1)).mp hc) (by have := h.apart _ ((h3 i).mp hb); exact_mod_cast this)
  rw [h1]
  have e2 : (2 : Int) ^ (1 : Int).toNat = 2 := rfl
  rw [e2]
  have e3 : (n : Int) * 2 = ((n * 2 : Nat) : Int) := by rw [Int.natCast_mul]; rfl
  rw [e3]
  rw [bitAnd_pp (Int.natCast_nonneg _) (Int.natCast_nonneg _), Int.toNat_natCast, Int.toNat_natCast, key]
  rfl
end Mine

end

section
open PySem PySem.W PyProof.Rows
set_option Elab.async false
namespace Mine
set_option maxRecDepth 100000
theorem wd_facts : ∀ i : Nat, i < 32 → (44 ∉ (wd i).cps.toList ∧ wordsL.any (· == wd i) = true ∧ wordsL.idxOf (wd i) = i ∧ 1 ≤ (wd i).length ∧ (wd i).length ≤ 100) := by decide +kernel
theorem wd_fact {p : Int} (h : 0 ≤ p ∧ p < (32 : Nat)) : 44 ∉ (wd p).cps.toList ∧ wordsL.any (· == wd p) = true ∧ ((wordsL.idxOf (wd p) : Nat) : Int) = p ∧ 1 ≤ (wd p).length ∧ (wd p).length ≤ 100 := by
  obtain ⟨i, rfl⟩ : ∃ i : Nat, p = (i : Int) := ⟨p.toNat, by omega⟩
  obtain ⟨h1, h2, h3, h4⟩ := wd_facts i (by omega)
  exact ⟨h1, h2, by rw [h3], h4⟩
theorem text_cons (p : Int) (ps : List Int) : textOf (p :: ps) = Str.join (Str.ofString ", ") ((p :: ps).map wd) := by
  unfold textOf
  rw [if_neg (by simp)]
  exact StrLaws.glued_eq_join _ _
theorem idxs_wd : ∀ (ps : List Int), (∀ p ∈ ps, 0 ≤ p ∧ p < (32 : Nat)) → idxs (ps.map wd) = ps
  | [], _ => rfl
  | p :: ps, h => by
    have ih := idxs_wd ps fun q hq => h q (List.mem_cons_of_mem _ hq)
    obtain ⟨_, h2, h3, _⟩ := wd_fact (h p List.mem_cons_self)
    unfold idxs at ih ⊢
    rw [List.map_cons, List.filter_cons, if_pos h2, List.map_cons, h3, ih]
theorem back_of (ps : List Int) (h : ∀ p ∈ ps, 0 ≤ p ∧ p < (32 : Nat)) : idxs (Txt.split (textOf ps) (Str.ofString ", ")) = ps := by
  cases ps with
  | nil => decide +kernel
  | cons p ps =>
    rw [text_cons, split_join _ (by simp) ?_]
    · exact idxs_wd _ h
    · intro w hw
      obtain ⟨q, hq, rfl⟩ := List.mem_map.mp hw
      exact (wd_fact (h q hq)).1
theorem lens_le : ∀ (ps : List Int), (∀ p ∈ ps, 0 ≤ p ∧ p < (32 : Nat)) → ((ps.map wd).map (·.length)).sum ≤ 100 * ps.length
  | [], _ => Nat.le_refl _
  | p :: ps, h => by
    have ih := lens_le ps fun q hq => h q (List.mem_cons_of_mem _ hq)
    obtain ⟨_, _, _, _, h5⟩ := wd_fact (h p List.mem_cons_self)
    simp only [List.map_cons, List.sum_cons, List.length_cons]
    omega
theorem fits_of (ps : List Int) (h : ∀ p ∈ ps, 0 ≤ p ∧ p < (32 : Nat)) (hl : ps.length ≤ 32) : (textOf ps).length ≤ 100000 := by
  cases ps with
  | nil => decide +kernel
  | cons p ps =>
    rw [text_cons]
    have h1 := StrLaws.join_length_le (Str.ofString ", ") ((p :: ps).map wd)
    have h2 := lens_le _ h
    have h3 : (Str.ofString ", ").length = 2 := by decide +kernel
    rw [h3, List.length_map] at h1
    omega
theorem pos_of (ps : List Int) (h : ∀ p ∈ ps, 0 ≤ p ∧ p < (32 : Nat)) : 1 ≤ (textOf ps).length := by
  cases ps with
  | nil => decide +kernel
  | cons p ps =>
    rw [text_cons, List.map_cons, len_join_cons]
    obtain ⟨_, _, _, h4, _⟩ := wd_fact (h p List.mem_cons_self)
    simp only [List.map_cons, List.sum_cons]
    omega
theorem wo32 : wo 32 = 5702887 := by decide
theorem good_gr (x : Int) (h0 : 0 ≤ x) (h1 : x < 5702887) : Good x (gr 32 x) := by
  obtain ⟨hz, hs⟩ := gr_Z 32 (by omega) x h0 (by rw [wo32]; exact h1)
  generalize gr 32 x = ps at hz hs
  exact ⟨hz.up, hz.bnd, back_of ps hz.bnd, fits_of ps hz.bnd hz.len, hz.free, hs, hz.len, pos_of ps hz.bnd⟩
theorem wo15 : wo 15 = 1597 := by decide
theorem small_gr (x : Int) (h0 : 0 ≤ x) (h1 : x < 1597) : ∀ p ∈ gr 32 x, p < 16 := by
  rw [← wo15] at h1
  have e : gr 32 x = gr 15 x := gr_drop h1 17 (by omega)
  rw [e]
  obtain ⟨hz, _⟩ := gr_Z 15 (by omega) x h0 h1
  intro p hp
  have := hz.bnd p hp
  omega
end Mine

end

section
open PySem PySem.W PyProof.Rows
set_option Elab.async false
namespace Mine
set_option maxRecDepth 100000
/-- The worths of the places one below. -/
def wb (p : Int) : Int := (1 :: worthsL).getD p.toNat 0
def sb (ps : List Int) : Int := (ps.map wb).sum
theorem sb_snoc (ps : List Int) (k : Nat) : sb (ps ++ [(k : Int)]) = sb ps + wb k := by
  unfold sb
  rw [List.map_append, List.sum_append]; simp
theorem pair_id : ∀ p : Nat, p < 32 → ∀ q : Nat, q < 32 → p + q + 2 < 50 → worthsL.getD (p + q + 2) 0 = wo p * wo q + wo p * wb q + wb p * wo q := by decide +kernel
theorem pair_id' {p q : Int} (hp : 0 ≤ p ∧ p < (32 : Nat)) (hq : 0 ≤ q ∧ q < (32 : Nat)) (h : p + q + 2 < 50) : worthsL.getD (p + q + 2).toNat 0 = worthsL.getD p.toNat 0 * worthsL.getD q.toNat 0 + worthsL.getD p.toNat 0 * wb q + wb p * worthsL.getD q.toNat 0 := by
  obtain ⟨i, rfl⟩ : ∃ i : Nat, p = (i : Int) := ⟨p.toNat, by omega⟩
  obtain ⟨j, rfl⟩ : ∃ j : Nat, q = (j : Int) := ⟨q.toNat, by omega⟩
  have e : ((i : Int) + (j : Int) + 2).toNat = i + j + 2 := by omega
  rw [e, pair_id i (by omega) j (by omega) (by omega)]
  rfl
theorem row_id {p : Int} (hp : 0 ≤ p ∧ p < (32 : Nat)) : ∀ (qs : List Int), (∀ q ∈ qs, (0 ≤ q ∧ q < (32 : Nat)) ∧ p + q + 2 < 50) → (qs.map fun q => worthsL.getD (p + q + 2).toNat 0).sum = worthsL.getD p.toNat 0 * sa qs + worthsL.getD p.toNat 0 * sb qs + wb p * sa qs
  | [], _ => by simp [sa, sb]
  | q :: qs, h => by
    have ih := row_id hp qs fun r hr => h r (List.mem_cons_of_mem _ hr)
    obtain ⟨h1, h2⟩ := h q List.mem_cons_self
    have e1 : sa (q :: qs) = worthsL.getD q.toNat 0 + sa qs := rfl
    have e2 : sb (q :: qs) = wb q + sb qs := rfl
    rw [List.map_cons, List.sum_cons, ih, pair_id' hp h1 h2, e1, e2]
    generalize worthsL.getD p.toNat 0 = a
    generalize worthsL.getD q.toNat 0 = b
    grind
theorem prod_id : ∀ (ps qs : List Int), (∀ p ∈ ps, 0 ≤ p ∧ p < (32 : Nat)) → (∀ q ∈ qs, 0 ≤ q ∧ q < (32 : Nat)) → (∀ p ∈ ps, ∀ q ∈ qs, p + q + 2 < 50) → (ps.map fun p => (qs.map fun q => worthsL.getD (p + q + 2).toNat 0).sum).sum = sa ps * sa qs + sa ps * sb qs + sb ps * sa qs
  | [], qs, _, _, _ => by simp [sa, sb]
  | p :: ps, qs, hp, hq, h => by
    have ih := prod_id ps qs (fun r hr => hp r (List.mem_cons_of_mem _ hr)) hq fun r hr => h r (List.mem_cons_of_mem _ hr)
    have e1 : sa (p :: ps) = worthsL.getD p.toNat 0 + sa ps := rfl
    have e2 : sb (p :: ps) = wb p + sb ps := rfl
    rw [List.map_cons, List.sum_cons, ih, row_id (hp p List.mem_cons_self) qs fun q hq' => ⟨hq q hq', h p List.mem_cons_self q hq'⟩, e1, e2]
    generalize worthsL.getD p.toNat 0 = a
    grind

def uf (k : Nat) : Int := wb k * 1134903170 - wo k * 701408733
def uhi : Nat → Int
  | 0 => 0
  | k + 1 => uhi k + max (uf k) 0
def ulo : Nat → Int
  | 0 => 0
  | k + 1 => ulo k + min (uf k) 0
theorem Zk.ub {k : Nat} {ps : List Int} (h : Zk k ps) : ulo k ≤ sb ps * 1134903170 - sa ps * 701408733 ∧ sb ps * 1134903170 - sa ps * 701408733 ≤ uhi k := by
  induction h with
  | nil => decide
  | @skip k ps _ ih =>
    have e1 : uhi (k + 1) = uhi k + max (uf k) 0 := rfl
    have e2 : ulo (k + 1) = ulo k + min (uf k) 0 := rfl
    omega
  | one => decide
  | @take k ps _ ih =>
    have e1 : uhi (k + 2) = uhi k + max (uf k) 0 + max (uf (k + 1)) 0 := rfl
    have e2 : ulo (k + 2) = ulo k + min (uf k) 0 + min (uf (k + 1)) 0 := rfl
    have e3 : uf (k + 1) = wb (k + 1 : Nat) * 1134903170 - wo (k + 1) * 701408733 := rfl
    rw [sa_snoc, sb_snoc]
    omega
/-- The number of a place list, its shadow, and how near they lie. -/
structure Near (x b : Int) : Prop where
  lo : -433494348 ≤ b * 1134903170 - x * 701408733
  hi : b * 1134903170 - x * 701408733 ≤ 701408589
theorem near_gr (x : Int) (h0 : 0 ≤ x) (h1 : x < 5702887) : Near x (sb (gr 32 x)) := by
  obtain ⟨hz, hs⟩ := gr_Z 32 (by omega) x h0 (by rw [wo32]; exact h1)
  obtain ⟨h2, h3⟩ := hz.ub
  have e1 : ulo 32 = -433494348 := by decide +kernel
  have e2 : uhi 32 = 701408589 := by decide +kernel
  rw [hs] at h2 h3
  exact ⟨by omega, by omega⟩
end Mine

end

section
open PySem PySem.W PyProof.Rows
set_option Elab.async false
namespace Mine
set_option maxRecDepth 100000
theorem sq_lt {a b : Int} (hb : 0 ≤ b) (h : a * a < b * b) : a < b := by
  by_cases h' : a < b
  · exact h'
  · have := Int.mul_le_mul (Int.not_lt.mp h') (Int.not_lt.mp h') hb (Int.le_trans hb (Int.not_lt.mp h'))
    omega
theorem key1 (m c T : Int) (h : c * 1134903170 = m * 433494437 - T) : 1288005205276048900 * (m * m - 3 * (m * c) + c * c) = m * (2537720636 * T - m) + T * T := by grind
theorem key2 (m c S : Int) (h : (c + 1) * 1134903170 = m * 433494437 + S) : 1288005205276048900 * (m * m - 3 * (m * (c + 1)) + (c + 1) * (c + 1)) = -(m * m) - S * (2537720636 * m - S) := by grind
theorem wpart_eq {x b w : Int} (h0 : 0 ≤ x) (h1 : x < 5702887) (hN : Near x b) (h : WPart x w) : w = x - b := by
  obtain ⟨root, ⟨hr0, hr1, hr2⟩, rfl⟩ := h
  obtain ⟨hlo, hhi⟩ := hN
  obtain ⟨m, hm⟩ : ∃ m, m = x + 1 := ⟨_, rfl⟩
  obtain ⟨c, hc⟩ : ∃ c, c = x - b := ⟨_, rfl⟩
  obtain ⟨T, hT⟩ : ∃ T, T = m * 433494437 - c * 1134903170 := ⟨_, rfl⟩
  have hT1 : 1 ≤ T := by omega
  have hT2 : T < 1134903170 := by omega
  have k1 := key1 m c T (by omega)
  have k2 := key2 m c (1134903170 - T) (by omega)
  have p1 : 0 ≤ m * (2537720636 * T - m) := Int.mul_nonneg (by omega) (by omega)
  have p2 : 1 * 1 ≤ T * T := Int.mul_le_mul hT1 hT1 (by decide) (by omega)
  have q1 : 0 < m * m - 3 * (m * c) + c * c := by omega
  have p3 : 0 ≤ (1134903170 - T) * (2537720636 * m - (1134903170 - T)) := Int.mul_nonneg (by omega) (by omega)
  have p4 : 0 ≤ m * m := Int.mul_nonneg (by omega) (by omega)
  have q2 : m * m - 3 * (m * (c + 1)) + (c + 1) * (c + 1) ≤ 0 := by omega
  have i1 : (3 * m - 2 * c) * (3 * m - 2 * c) = 5 * m * m + 4 * (m * m - 3 * (m * c) + c * c) := by grind
  have i2 : (3 * m - 2 * c - 2) * (3 * m - 2 * c - 2) = 5 * m * m + 4 * (m * m - 3 * (m * (c + 1)) + (c + 1) * (c + 1)) := by grind
  rw [← hm] at hr1 hr2
  have r1 : root < 3 * m - 2 * c := sq_lt (by omega) (by omega)
  have r2 : 3 * m - 2 * c - 2 < root + 1 := sq_lt (by omega) (by omega)
  rw [Int.fdiv_eq_ediv_of_nonneg _ (by decide)]
  omega

theorem prG_id (x y : Int) (hp : ∀ p ∈ gr 32 x, 0 ≤ p ∧ p < (32 : Nat)) (hq : ∀ q ∈ gr 32 y, 0 ≤ q ∧ q < (32 : Nat)) (h : ∀ p ∈ gr 32 x, ∀ q ∈ gr 32 y, p + q + 2 < 50) (hx : sa (gr 32 x) = x) (hy : sa (gr 32 y) = y) :
    prG (gr 32) x y = x * y + x * sb (gr 32 y) + sb (gr 32 x) * y := by
  unfold prG
  rw [prod_id _ _ hp hq h, hx, hy]
theorem sa_gr (x : Int) (h0 : 0 ≤ x) (h1 : x < 5702887) : sa (gr 32 x) = x := (gr_Z 32 (by omega) x h0 (by rw [wo32]; exact h1)).2
theorem bnd_gr (x : Int) (h0 : 0 ≤ x) (h1 : x < 5702887) : ∀ p ∈ gr 32 x, 0 ≤ p ∧ p < (32 : Nat) := (gr_Z 32 (by omega) x h0 (by rw [wo32]; exact h1)).1.bnd
/-- The product, with a big first number. -/
theorem prG_l (x y : Int) (hx : 0 ≤ x) (hx1 : x < 5702887) (hy : 0 ≤ y) (hy1 : y < 1597) : prG (gr 32) x y = x * y + x * sb (gr 32 y) + sb (gr 32 x) * y :=
  prG_id x y (bnd_gr x hx hx1) (bnd_gr y hy (by omega)) (fun p hp q hq => by have := bnd_gr x hx hx1 p hp; have := small_gr y hy hy1 q hq; omega) (sa_gr x hx hx1) (sa_gr y hy (by omega))
/-- The product, with a big second number. -/
theorem prG_r (x y : Int) (hx : 0 ≤ x) (hx1 : x < 1597) (hy : 0 ≤ y) (hy1 : y < 5702887) : prG (gr 32) x y = x * y + x * sb (gr 32 y) + sb (gr 32 x) * y :=
  prG_id x y (bnd_gr x hx (by omega)) (bnd_gr y hy hy1) (fun p hp q hq => by have := small_gr x hx hx1 p hp; have := bnd_gr y hy hy1 q hq; omega) (sa_gr x hx (by omega)) (sa_gr y hy hy1)
theorem due_gr (x y wx wy : Int) (hx : 0 ≤ x) (hx1 : x < 5702887) (hy : 0 ≤ y) (hy1 : y < 1597) (h1 : WPart x wx) (h2 : WPart y wy) : prG (gr 32) x y = 3 * x * y - x * wy - y * wx := by
  rw [prG_l x y hx hx1 hy hy1, wpart_eq hx hx1 (near_gr x hx hx1) h1, wpart_eq hy (by omega) (near_gr y hy (by omega)) h2]
  grind
theorem sb_bnd {x b : Int} (h0 : 0 ≤ x) (h1 : x < 1597) (h : Near x b) : 0 ≤ b ∧ b ≤ 987 := by
  obtain ⟨h2, h3⟩ := h
  omega
theorem bound_gr (x y : Int) (hx : 0 ≤ x) (hx1 : x < 1597) (hy : 0 ≤ y) (hy1 : y < 1597) : 0 ≤ prG (gr 32) x y ∧ prG (gr 32) x y < 5702887 := by
  rw [prG_l x y hx (by omega) hy hy1]
  obtain ⟨b1, b2⟩ := sb_bnd hx hx1 (near_gr x hx (by omega))
  obtain ⟨b3, b4⟩ := sb_bnd hy hy1 (near_gr y hy (by omega))
  generalize sb (gr 32 x) = a at *
  generalize sb (gr 32 y) = b at *
  have m1 : x * y ≤ 1596 * 1596 := Int.mul_le_mul (by omega) (by omega) hy (by decide)
  have m2 : x * b ≤ 1596 * 987 := Int.mul_le_mul (by omega) b4 b3 (by decide)
  have m3 : a * y ≤ 987 * 1596 := Int.mul_le_mul b2 (by omega) hy (by decide)
  have m4 := Int.mul_nonneg hx hy
  have m5 := Int.mul_nonneg hx b3
  have m6 := Int.mul_nonneg b1 hy
  omega
theorem abs_mul {u v K : Int} (h1 : -K ≤ u) (h2 : u ≤ K) (h3 : -K ≤ v) (h4 : v ≤ K) : -(K * K) ≤ u * v ∧ u * v ≤ K * K := by
  have a1 : 0 ≤ (K - u) * (K + v) := Int.mul_nonneg (by omega) (by omega)
  have a2 : 0 ≤ (K + u) * (K - v) := Int.mul_nonneg (by omega) (by omega)
  have a3 : 0 ≤ (K - u) * (K - v) := Int.mul_nonneg (by omega) (by omega)
  have a4 : 0 ≤ (K + u) * (K + v) := Int.mul_nonneg (by omega) (by omega)
  have e1 : (K - u) * (K + v) = K * K + K * v - K * u - u * v := by grind
  have e2 : (K + u) * (K - v) = K * K - K * v + K * u - u * v := by grind
  have e3 : (K - u) * (K - v) = K * K - K * v - K * u + u * v := by grind
  have e4 : (K + u) * (K + v) = K * K + K * v + K * u + u * v := by grind
  omega
theorem prod_key (x y a b : Int) : ((x * y + a * b) * 1134903170 - (x * y + x * b + a * y) * 701408733) * 1134903170 = (a * 1134903170 - x * 701408733) * (b * 1134903170 - y * 701408733) + x * y := by grind
/-- The shadow of a product. -/
theorem sb_prod (x y : Int) (hx : 0 ≤ x) (hx1 : x < 1597) (hy : 0 ≤ y) (hy1 : y < 1597) : sb (gr 32 (prG (gr 32) x y)) = x * y + sb (gr 32 x) * sb (gr 32 y) := by
  obtain ⟨hb0, hb1⟩ := bound_gr x y hx hx1 hy hy1
  obtain ⟨hn1, hn2⟩ := near_gr _ hb0 hb1
  generalize sb (gr 32 (prG (gr 32) x y)) = B at *
  rw [prG_l x y hx (by omega) hy hy1] at hn1 hn2
  obtain ⟨u1, u2⟩ := near_gr x hx (by omega)
  obtain ⟨v1, v2⟩ := near_gr y hy (by omega)
  generalize sb (gr 32 x) = a at *
  generalize sb (gr 32 y) = b at *
  have hk := prod_key x y a b
  obtain ⟨w1, w2⟩ := abs_mul (K := 701408589) (by omega) u2 (by omega) v2
  have m1 : x * y ≤ 1596 * 1596 := Int.mul_le_mul (by omega) (by omega) hy (by decide)
  have m4 := Int.mul_nonneg hx hy
  generalize (a * 1134903170 - x * 701408733) * (b * 1134903170 - y * 701408733) = UV at *
  generalize x * y + x * b + a * y = P at *
  generalize x * y + a * b = B' at *
  generalize x * y = xy at *
  omega
theorem assoc_gr (x y z : Int) (hx : 0 ≤ x) (hx1 : x < 1597) (hy : 0 ≤ y) (hy1 : y < 1597) (hz : 0 ≤ z) (hz1 : z < 1597) : prG (gr 32) (prG (gr 32) x y) z = prG (gr 32) x (prG (gr 32) y z) := by
  obtain ⟨hb0, hb1⟩ := bound_gr x y hx hx1 hy hy1
  obtain ⟨hc0, hc1⟩ := bound_gr y z hy hy1 hz hz1
  rw [prG_l _ z hb0 hb1 hz hz1, prG_r x _ hx hx1 hc0 hc1, sb_prod x y hx hx1 hy hy1, sb_prod y z hy hy1 hz hz1, prG_l x y hx (by omega) hy hy1, prG_l y z hy (by omega) hz hz1]
  generalize sb (gr 32 x) = a
  generalize sb (gr 32 y) = b
  generalize sb (gr 32 z) = c
  grind
theorem plain_gr : Plain (gr 32) := ⟨good_gr, small_gr, due_gr, bound_gr, assoc_gr⟩
end Mine

end

section
open PySem PySem.W PySem.W.X PyProof.Rows
set_option Elab.async false
namespace Mine
set_option maxRecDepth 100000
set_option maxHeartbeats 0
theorem zh : PySem.Challenge.rw_pe0054_01.Holds := by
  refine hd ?_
  w_top off
  k_fill
  intro w s₀ s₁ mg mb G y fa o pm cd doc dV kV ho hd hcd hD hmg hg args vals as LL hpre hlay hrd hwl hlo
  z_open y LL KX ZH ZN ZT
  have KX' : (Mine.kTop.heap_1 w.params).In s₁.heap := by
    have e : ∀ p ∈ Mine.kTop.heap_1 w.params, (Mine.hd.heap_174 w.params).lookup p.1 = some p.2 := by
      unfold Mine.kTop.heap_1
      repeat (refine List.forall_mem_cons.mpr ⟨rfl, ?_⟩)
      exact fun _ h => nomatch h
    exact fun a o h => KX a o (e (a, o) (PySem.W.mem_of_lookupK h))
  clear ZH
  refine Ground.open G ?_
  intro T B D TE TW
  have T' : Top Mine.hd.view_310 Loose (ExcName.means s₀.heap) mg mb s₁.heap := T
  wrow_args hpre hlay hrd hwl hlo
  have htk := script_toks LL ZT
  x_fa T KX hmg
  clear ho hd hcd hD hmg TE TW D B KX T G
  first | refine callC_kw (enter_call ?_) | refine enter_call ?_
  refine codeAny_mono ?_ (fun _ _ g => GoodW.toG g)
  rename Heap.IsList _ _ _ => hL
  rename IntsAre _ _ => hI
  refine law_body plain_gr rfl KX' T' hL hI (by omega) htk ?_
  intro h' tk' m L F
  exact ⟨.inl ⟨_, .bool true, [], rfl, fun _ => rfl, ReadsW.bool _, (postW_of (by wrow_shape) (by wtm_val) (by str_meet; first | done | w_fin)), fun _ => ⟨List.nodup_nil, fun _ h => nomatch h⟩⟩, F.keep, rfl, hg⟩
end Mine

end

theorem PySem.Challenge.cw_pe0054_01_holds : PySem.Challenge.rw_pe0054_01.Holds :=
  Mine.zh

