import PyProof.Rows.All
import Wide.All
import OpenK.AllK
import Wide.FinOn
import PySem.Challenge.RW_yf0033_01
set_option Elab.async false
set_option maxRecDepth 100000
set_option genInjectivity false
set_option genSizeOf false
set_option compiler.extract_closed false
local macro_rules | `(tactic| omega) => `(tactic| ((fail_if_success (fail_if_success (omega (config := {})))); (first | lia | omega (config := {}))))
section
open PySem PySem.W PyProof.Rows
set_option Elab.async false
namespace Y33
set_option maxRecDepth 100000 in
set_option maxHeartbeats 8000000 in
theorem wsaid : OpenLaw.wellSaid PySem.Challenge.rw_yf0033_01 = true := Eq.trans (congrFun PySem.W.Fast.te9446332074065402090 PySem.Challenge.rw_yf0033_01) (by decide +kernel)
section
local macro_rules | `(tactic| o_law) => `(tactic| refine holds_law wsaid fun said => ?_)
set_option maxRecDepth 100000 in
set_option maxHeartbeats 8000000 in
open_top hd for PySem.Challenge.rw_yf0033_01
end
set_option maxRecDepth 100000 in
set_option maxHeartbeats 8000000 in
theorem vq1 : namesOk hd.view_1 (looseW hd.view_1 [Str.ofString "IPV4_RE", Str.ofString "length_hint", Str.ofString "Whitespace"]) (namesW hd.view_1 [Str.ofString "IPV4_RE", Str.ofString "length_hint", Str.ofString "Whitespace"]) = true := (congrFun (congrFun (congrFun Fast.te17448422675489707002 _) _) _).trans (by rw [Fast.te821141287760084731]; decide +kernel)
set_option maxRecDepth 100000 in
set_option maxHeartbeats 8000000 in
theorem vq2 : importsNone hd.view_1 = true := (congrFun Fast.te2458874890965802552 _).trans (by decide +kernel)
end Y33
end
section
open PySem PySem.W PyProof.Rows PySem.Calls
set_option Elab.async false
set_option maxRecDepth 100000
namespace Y33
theorem runs_toks {M : Model} {Γ : Ctx} {p : Pos} {t : Sem Fin} {fs : List Frame} {s s' : Shared} {e : End} (h : Runs M Γ p t fs s e s') : s.toks ≤ s'.toks := by
  induction h with
  | fresh _ ih => exact Nat.le_of_succ_le ih
  | call _ _ i1 i2 => exact Nat.le_trans i1 i2
  | resumeFresh _ _ _ _ i1 i2 => exact Nat.le_trans i1 i2
  | resumeSuspended _ _ _ _ i1 i2 => exact Nat.le_trans i1 i2
  | segRet _ _ i1 i2 => exact Nat.le_trans i1 i2
  | segGen _ _ i1 i2 => exact Nat.le_trans i1 i2
  | segSuspGen _ _ _ _ i1 i2 => exact Nat.le_trans i1 i2
  | _ => first | exact Nat.le_refl _ | assumption
theorem wakes_toks {M : Model} {Γ : Ctx} {p : Pos} {g : Nat} {r : Resume} {s s' : Shared} {res : GenResult} (h : Wakes M Γ p g r s res s') : s.toks ≤ s'.toks := by
  unfold Wakes at h
  split at h
  · exact h.elim
  · split at h
    · obtain ⟨e₁, s₁, h1, _, _, rfl⟩ := h
      have := runs_toks h1; simpa [Shared.setGen] using this
    · rw [h.2]; exact Nat.le_refl _
    · rw [h.2]; exact Nat.le_refl _
  · obtain ⟨e₁, s₁, h1, _, _, rfl⟩ := h
    have := runs_toks h1; simpa [Shared.setGen] using this
  · rw [h.2]; exact Nat.le_refl _
  · rw [h.2]; exact Nat.le_refl _
open Sem in
theorem wp_toks {α : Type} {M : Model} {Γ : Ctx} (t : Sem α) : ∀ {Q : α → Pos → Shared → Prop} {E : Value → Pos → Shared → Prop} {p : Pos} {s : Shared} {n : Nat}, n ≤ s.toks → wp M Γ t (fun a p' s' => n ≤ s'.toks → Q a p' s') (fun e p' s' => n ≤ s'.toks → E e p' s') p s → wp M Γ t Q E p s := by
  induction t with
  | pure a => intro Q E p s n hn h; exact h hn
  | raise e => intro Q E p s n hn h; exact h hn
  | unsupported _ => intro Q E p s n hn h; exact h
  | finish _ => intro Q E p s n hn h; exact h
  | rule _ k ih => intro Q E p s n hn h; exact ih _ hn h
  | «at» _ k ih => intro Q E p s n hn h; exact ih _ hn h
  | load a _ k ih => intro Q E p s n hn h; obtain ⟨o, ho, h⟩ := h; exact ⟨o, ho, ih _ hn h⟩
  | update a _ f k ih => intro Q E p s n hn h; exact ⟨h.1, ih _ hn h.2⟩
  | alloc o k ih => intro Q E p s n hn h; exact ih _ hn h
  | loadIfAlive a k ih => intro Q E p s n hn h; exact ih _ hn h
  | point _ k ih => intro Q E p s n hn h; exact ih _ hn h
  | register _ _ _ => intro Q E p s n hn h; exact h
  | fresh k ih => intro Q E p s n hn h; exact ih _ (Nat.le_succ_of_le hn) h
  | ask k ih => intro Q E p s n hn h; exact ih _ hn h
  | choose src m k ih => intro Q E p s n hn h; exact ⟨h.1, ih _ hn h.2⟩
  | os q _ k ih => intro Q E p s n hn h; exact ih _ hn h
  | call c hd g l k ih => intro Q E p s n hn h; obtain ⟨r, s', h1, h2⟩ := h; exact ⟨r, s', h1, ih _ (Nat.le_trans hn (runs_toks h1)) h2⟩
  | handled own k ih => intro Q E p s n hn h; exact ih _ hn h
  | newGen c k ih => intro Q E p s n hn h; exact ih _ hn h
  | genState g k ih => intro Q E p s n hn h; obtain ⟨st, h1, h2⟩ := h; exact ⟨st, h1, ih _ hn h2⟩
  | resume g r l k ih => intro Q E p s n hn h; obtain ⟨r', s', h1, h2⟩ := h; exact ⟨r', s', h1, ih _ (Nat.le_trans hn (wakes_toks h1)) h2⟩
  | yield _ _ _ _ _ => intro Q E p s n hn h; exact h
  | stack k ih => intro Q E p s n hn h; exact ih _ hn h
  | fork _ _ _ => intro Q E p s n hn h; exact h
  | thread k ih => intro Q E p s n hn h; exact ih _ hn h
  | await _ _ _ _ _ _ => intro Q E p s n hn h; exact h
noncomputable def TokThen (a b : Nat) (P : Prop) : Prop := a ≤ b → P
/-- the count of tokens never falls -/
theorem wpAny_tok {α : Type} {M : Model} {A : Around} {t : Sem α} {Q : α → Shared → Prop} {E : Value → Shared → Prop} {s : Shared} (h : wpAny M A t (fun a s' => TokThen s.toks s'.toks (Q a s')) E s) : wpAny M A t Q E s :=
  fun Γ p hΓ => wp_toks t (Nat.le_refl s.toks) (Sem.wp_mono M Γ t (fun _ _ _ x => x) (fun _ _ _ x => fun _ => x) p s (h Γ p hΓ))
end Y33
end
section
open PySem PySem.W PyProof.Rows PySem.Calls
set_option Elab.async false
set_option maxRecDepth 100000
namespace Y33
section
variable {prog : Program} {w : World} {A : Around} {E : Value → Shared → Prop} {s : Shared} {h₀ : Heap} {L : Addr} {news : List (Addr × Obj)}
theorem item_ints {value slice : PySem.Expr} {l : Addr} {vs : List Value} {ns : List Int} {n : Nat} {k : Int} {u : Tok} {Q : Value → Shared → Prop} (N : News h₀ L s.heap news)
    (hm : (l, W.listOf vs.toArray n) ∈ news) (hi : IntsAre vs ns) (h0 : 0 ≤ k) (h1 : k < ns.length) (hfit : k < 2 ^ 63) (h : ∀ t, Q (.int (ns.getD k.toNat 0) t) s)
    (hs : subscripted slice false (.ref l) (.int k u) = operate [.ref l, .int k u] (getItem (.ref l) (.int k u)) := by with_unfolding_all rfl)
    (hg : ∀ r, letTemporaryGo value (.ref l) r = pure () := by intro _; with_unfolding_all rfl) :
    wpAny (model prog w) A (subscriptTail value slice (.ref l) (.int k u)) Q E s := by
  obtain ⟨t, hx⟩ := hi.get k.toNat _ (ints_getD h0 h1)
  exact kim_list N hm rfl rfl h0 hfit hx (h t) hs hg
end

/-- a goal that the walk is not to touch -/
noncomputable def Hold (P : Prop) : Prop := P
theorem Hold.out {P : Prop} (h : Hold P) : P := h
theorem Hold.mk {P : Prop} (h : P) : Hold P := h

noncomputable def mapB (rest : Str → Option Value) : List (Str × Value) → Str → Option Value
  | [] => rest
  | p :: r => fun z => if z = p.1 then some p.2 else mapB rest r z
theorem mapB_eq {m : Str → Option Value} : ∀ {ps : List (Str × Value)}, (∀ p ∈ ps, m p.1 = some p.2) → mapB m ps = m
  | [], _ => rfl
  | p :: r, h => by
    funext z
    show (if z = p.1 then some p.2 else mapB m r z) = m z
    by_cases e : z = p.1
    · rw [if_pos e, e]; exact (h p (.head _)).symm
    · rw [if_neg e, mapB_eq fun q hq => h q (.tail _ hq)]


theorem news_sub {h₀ h : Heap} {L : Addr} {a b : List (Addr × Obj)} (N : News h₀ L h a) (hs : ∀ p ∈ b, p ∈ a) : News h₀ L h b := fun p hp => N p (hs p hp)
theorem off_its {h₀ h' : Heap} {L : Addr} {its all led : List (Addr × Obj)} (N : News h₀ L h' all) (hI : ∀ q ∈ its, q ∈ all) (hs : ∀ p ∈ led, p ∈ all) (h : ∀ p ∈ led, ∀ q ∈ its, p.1 ≠ q.1 ∨ p.2.cls ≠ q.2.cls) : ∀ p ∈ led, ∀ q ∈ its, p.1 ≠ q.1 := by
  intro p hp q hq e
  rcases h p hp q hq with z | z
  · exact z e
  · have h1 := (N _ (hs p hp)).1
    have h2 := (N _ (hI q hq)).1
    rw [e] at h1
    exact z (congrArg Obj.cls (Option.some.inj (h1.symm.trans h2)))

noncomputable def TEnd (h₀ : Heap) (L : Addr) {σ : Type} (Led : σ → List (Addr × Obj)) (ps : σ → List (Str × Value)) (its : List (Addr × Obj)) (P' : σ → Prop) (s₁ s₂ : Shared) : Prop :=
  ∃ c' h' tk m' all, s₂ = { s₁ with heap := h', toks := tk } ∧ Fr h₀ L h' m' ∧ News h₀ L h' all ∧ (∀ q ∈ its, q ∈ all) ∧ (∀ p ∈ Led c', p ∈ all) ∧ (∀ p ∈ Led c', ∀ q ∈ its, p.1 ≠ q.1) ∧ (∀ p ∈ ps c', m' p.1 = some p.2) ∧ P' c'
noncomputable def TPost (h₀ : Heap) (L : Addr) {σ : Type} (Led : σ → List (Addr × Obj)) (ps : σ → List (Str × Value)) (its : List (Addr × Obj)) (P' : σ → Prop) (s₁ : Shared) (Q : Flow → Shared → Prop) (f : Flow) (s₂ : Shared) : Prop :=
  match f with
  | .ret v => Q (.ret v) s₂
  | .brk => Q .next s₂
  | _ => TEnd h₀ L Led ps its P' s₁ s₂
theorem TEnd.intro {h₀ : Heap} {L : Addr} {σ : Type} {Led : σ → List (Addr × Obj)} {ps : σ → List (Str × Value)} {its : List (Addr × Obj)} {P' : σ → Prop} {s₁ : Shared} {h' : Heap} {tk : Nat} {m' : Str → Option Value} {all : List (Addr × Obj)} (c' : σ)
    (F : Fr h₀ L h' m') (N : News h₀ L h' all) (hI : ∀ q ∈ its, q ∈ all) (hs : ∀ p ∈ Led c', p ∈ all) (ho : ∀ p ∈ Led c', ∀ q ∈ its, p.1 ≠ q.1 ∨ p.2.cls ≠ q.2.cls) (hp : ∀ p ∈ ps c', m' p.1 = some p.2) (h : P' c') :
    TEnd h₀ L Led ps its P' s₁ { s₁ with heap := h', toks := tk } := ⟨c', h', tk, m', all, rfl, F, N, hI, hs, off_its N hI hs ho, hp, h⟩

/-- an iterator's turns, with the tokens of what it gives -/
structure KTT (prog : Program) (w : World) (A : Around) (target : Expr) (I : Addr) (fp wr : List Addr) (n : Nat) (P Md : Nat → Value → Heap → Nat → Nat → Prop) (St : Nat → Heap → Prop) : Prop where
  sub : ∀ b ∈ wr, b ∈ fp
  frame : ∀ i h h', St i h → (∀ b ∈ fp, ∀ o, h.get? b = some o → h'.get? b = some o) → St i h'
  item : ∀ i (s : Shared) (Q : Option Value → Shared → Prop) (E : Value → Shared → Prop), i < n → St i s.heap →
    (∀ v h' tk, s.toks ≤ tk → Md i v h' s.toks tk → (∀ b o, b ∉ wr → s.heap.get? b = some o → h'.get? b = some o) → Q (some v) { s with heap := h', toks := tk }) → wpAny (model prog w) A (pyNext (.ref I)) Q E s
  go : ∀ i v lo hi (s : Shared) (Q : Unit → Shared → Prop) (E : Value → Shared → Prop), Md i v s.heap lo hi →
    (∀ h', P i v h' lo hi → St (i + 1) h' → (∀ b o, b ∉ wr → s.heap.get? b = some o → h'.get? b = some o) → Q () { s with heap := h' }) → wpAny (model prog w) A (letOwnedTupleGo target (.ref I) v) Q E s
  done : ∀ (s : Shared) (Q : Option Value → Shared → Prop) (E : Value → Shared → Prop), St n s.heap →
    (∀ h' tk, s.toks ≤ tk → (∀ b o, b ∉ wr → s.heap.get? b = some o → h'.get? b = some o) → Q none { s with heap := h', toks := tk }) → wpAny (model prog w) A (pyNext (.ref I)) Q E s
theorem KTT.ofK {prog : Program} {w : World} {A : Around} {target : Expr} {I : Addr} {fp wr : List Addr} {n : Nat} {P Md : Nat → Value → Heap → Prop} {St : Nat → Heap → Prop} (W : KTurns prog w A target I fp wr n P Md St) :
    KTT prog w A target I fp wr n (fun i v h _ _ => P i v h) (fun i v h _ _ => Md i v h) St where
  sub := W.sub
  frame := W.frame
  item := fun i s Q E hi st hQ => wpAny_tok (W.item i s _ _ hi st fun v h' tk hm hk htk => hQ v h' tk htk hm hk)
  go := fun i v lo hi s Q E hm hQ => W.go i v s Q E hm hQ
  done := fun s Q E st hQ => wpAny_tok (W.done s _ _ st fun h' tk hk htk => hQ h' tk htk hk)
noncomputable def TEndT (h₀ : Heap) (L : Addr) {σ : Type} (Led : σ → List (Addr × Obj)) (ps : σ → List (Str × Value)) (its : List (Addr × Obj)) (P' : σ → Nat → Prop) (s₁ s₂ : Shared) : Prop :=
  ∃ c' h' tk m' all, s₂ = { s₁ with heap := h', toks := tk } ∧ Fr h₀ L h' m' ∧ News h₀ L h' all ∧ (∀ q ∈ its, q ∈ all) ∧ (∀ p ∈ Led c', p ∈ all) ∧ (∀ p ∈ Led c', ∀ q ∈ its, p.1 ≠ q.1) ∧ (∀ p ∈ ps c', m' p.1 = some p.2) ∧ P' c' tk
noncomputable def TPostT (h₀ : Heap) (L : Addr) {σ : Type} (Led : σ → List (Addr × Obj)) (ps : σ → List (Str × Value)) (its : List (Addr × Obj)) (P' : σ → Nat → Prop) (s₁ : Shared) (Q : Flow → Shared → Prop) (f : Flow) (s₂ : Shared) : Prop :=
  match f with
  | .ret v => Q (.ret v) s₂
  | .brk => Q .next s₂
  | _ => TEndT h₀ L Led ps its P' s₁ s₂
theorem TEndT.intro {h₀ : Heap} {L : Addr} {σ : Type} {Led : σ → List (Addr × Obj)} {ps : σ → List (Str × Value)} {its : List (Addr × Obj)} {P' : σ → Nat → Prop} {s₁ : Shared} {h' : Heap} {tk : Nat} {m' : Str → Option Value} {all : List (Addr × Obj)} (c' : σ)
    (F : Fr h₀ L h' m') (N : News h₀ L h' all) (hI : ∀ q ∈ its, q ∈ all) (hs : ∀ p ∈ Led c', p ∈ all) (ho : ∀ p ∈ Led c', ∀ q ∈ its, p.1 ≠ q.1 ∨ p.2.cls ≠ q.2.cls) (hp : ∀ p ∈ ps c', m' p.1 = some p.2) (h : P' c' tk) :
    TEndT h₀ L Led ps its P' s₁ { s₁ with heap := h', toks := tk } := ⟨c', h', tk, m', all, rfl, F, N, hI, hs, off_its N hI hs ho, hp, h⟩

section
variable {prog : Program} {w : World} {A : Around} {E : Value → Shared → Prop} {s : Shared} {env : Env} {h₀ : Heap} {target : Expr} {body orelse : List Stmt} {Q : Flow → Shared → Prop}

/-- a for loop whose iterator is made -/
noncomputable def XL (prog : Program) (w : World) (A : Around) (env : Env) (target : Expr) (body orelse : List Stmt) (Q : Flow → Shared → Prop) (E : Value → Shared → Prop) (it : Value) (s₂ : Shared) : Prop :=
  PassesOwn (model prog w) A env E → codeAny (model prog w) A (.forLoop target it body orelse env) (fun r s' => match r with | .ok f => Q f s' | .error e => cameBackBy (model prog w) A env E e s') s₂

theorem x_For {iter : Expr} {pos : Pos}
    (h : wpAny (model prog w) A (eval iter env) (fun xv s₁ => wpAny (model prog w) A (pyIter xv) (fun it s₂ => XL prog w A env target body orelse Q E it s₂) E s₁) E s)
    (hs : ∀ x, foldedSetIterable iter env x = pure x) (hE : PassesOwn (model prog w) A env E) :
    wpAny (model prog w) A (exec (.For target iter body orelse pos) env) Q E s :=
  wpAny_For (wpAny_mono h (fun _ _ h₁ => wpAny_mono h₁ (fun _ _ h₂ => h₂ hE) fun _ _ e => e) fun _ _ e => e) hs

theorem x_coreT {σ : Type} {I : Addr} {fp wr : List Addr} {n : Nat} {P Md : Nat → Value → Heap → Nat → Nat → Prop} {St : Nat → Heap → Prop} {ws : List (Addr × String)} {m₀ : Str → Option Value} {hp : Heap} {tk0 : Nat}
    (Led : σ → List (Addr × Obj)) (ps : σ → List (Str × Value)) (Pc : Nat → σ → Nat → Prop) (c₀ : σ)
    (W : KTT prog w A target I fp wr n P Md St)
    (hobj : ∀ i h, St i h → ∃ its, Objs ws its ∧ ∀ p ∈ its, h.get? p.1 = some p.2)
    (hws : ∀ b ∈ ws.map (·.1), b ∈ fp ∧ h₀.get? b = none) (hwr : ∀ b ∈ wr, b ∈ ws.map (·.1))
    (hfp : ∀ b ∈ fp, b ∈ ws.map (·.1) ∨ (∃ o, ∀ c, (b, o) ∈ Led c) ∨ ∃ o, h₀.get? b = some o)
    (hLf : env.locals ∉ fp) (hoff : ∀ p ∈ Led c₀, p.1 ∉ ws.map (·.1)) (hst : St 0 hp)
    (F : Fr h₀ env.locals hp m₀) (N : News h₀ env.locals hp (Led c₀)) (hk : ∀ p ∈ ps c₀, m₀ p.1 = some p.2) (hP : Pc 0 c₀ tk0)
    (turn : ∀ (c : σ) i v m₁ h lo hi its, i < n → P i v h lo hi → lo ≤ hi → Pc i c lo → Objs ws its → (∀ p ∈ Led c, ∀ q ∈ its, p.1 ≠ q.1) →
      Fr h₀ env.locals h (mapB m₁ (ps c)) → News h₀ env.locals h (its ++ Led c) →
      wpAny (model prog w) A (assign target env v) (fun _ s₂ => wpAny (model prog w) A (execs body env) (TPostT h₀ env.locals Led ps its (Pc (i + 1)) { s with heap := h, toks := hi } Q) E s₂) E { s with heap := h, toks := hi })
    (done : ∀ (c : σ) m₁ h lo tk, Pc n c lo → lo ≤ tk → Fr h₀ env.locals h (mapB m₁ (ps c)) → News h₀ env.locals h (Led c) → wpAny (model prog w) A (execs orelse env) Q E { s with heap := h, toks := tk }) :
    XL prog w A env target body orelse Q E (.ref I) { s with heap := hp, toks := tk0 } := by
  intro hE
  have hwr0 : ∀ b ∈ wr, h₀.get? b = none := fun b hb => (hws b (hwr b hb)).2
  have hLw : env.locals ∉ wr := fun h => hLf (W.sub _ h)
  have old : ∀ b o, h₀.get? b = some o → b ∉ wr := fun b o e hb => by rw [hwr0 b hb] at e; cases e
  refine codeAny_forLoop_any
    (fun k s' => ∃ h' tk m' c i, s' = { s with heap := h', toks := tk } ∧ St i h' ∧ Fr h₀ env.locals h' m' ∧ News h₀ env.locals h' (Led c) ∧ (∀ p ∈ Led c, p.1 ∉ ws.map (·.1)) ∧ (∀ p ∈ ps c, m' p.1 = some p.2) ∧ Pc i c tk ∧ i ≤ n ∧ k = n + 1 - i) ?_ (n + 1)
    ⟨hp, tk0, m₀, c₀, 0, rfl, hst, F, N, hoff, hk, hP, Nat.zero_le _, rfl⟩
  rintro k s' ⟨h', tk, m', c, i, rfl, hst', F', N', hnw', hm', hPc, hi, rfl⟩
  have next : ∀ h₁ : Heap, (∀ b o, b ∉ wr → h'.get? b = some o → h₁.get? b = some o) → Fr h₀ env.locals h₁ m' ∧ News h₀ env.locals h₁ (Led c) := fun h₁ hk₁ =>
    ⟨⟨F'.ns.at' fun o e => hk₁ _ o hLw e, fun b o e => hk₁ b o (old b o e) (F'.keep b o e), F'.above⟩, fun p hp => ⟨hk₁ _ _ (fun hb => hnw' p hp (hwr _ hb)) (N' p hp).1, (N' p hp).2⟩⟩
  by_cases hlt : i < n
  · refine W.item i _ _ _ hlt hst' fun v h₁ tk₁ hle hMd hk₁ => ?_
    refine W.go i v _ _ _ _ _ hMd fun h₂ hPi hst₂ hk₂ => ?_
    obtain ⟨F₂, N₂⟩ := next h₂ fun b o hb x => hk₂ b o hb (hk₁ b o hb x)
    obtain ⟨its, hits, hval⟩ := hobj (i + 1) h₂ hst₂
    have hmap := hits.map
    have F₃ : Fr h₀ env.locals h₂ (mapB m' (ps c)) := by rw [mapB_eq hm']; exact F₂
    have Nits : News h₀ env.locals h₂ its := fun p hp => by
      have h1 : p.1 ∈ ws.map (·.1) := by rw [← hmap]; exact List.mem_map.mpr ⟨p, hp, rfl⟩
      exact ⟨hval p hp, fun e => hLf (e ▸ (hws _ h1).1), (hws _ h1).2⟩
    have N₃ : News h₀ env.locals h₂ (its ++ Led c) := fun p hp => (List.mem_append.mp hp).elim (Nits p) (N₂ p)
    have hoff' : ∀ p ∈ Led c, ∀ q ∈ its, p.1 ≠ q.1 := fun p hp q hq e => hnw' p hp (by rw [← hmap, e]; exact List.mem_map.mpr ⟨q, hq, rfl⟩)
    refine wpAny_mono (wpAny_passesOwn hE (wpAny_mono (turn c i v m' h₂ tk tk₁ its hlt hPi hle hPc hits hoff' F₃ N₃) (fun _ s₂ x => wpAny_passesOwn hE x) fun _ _ e => e)) (fun _ s₂ h₂' => wpAny_mono h₂' (fun f s₃ h₃ => ?_) fun _ _ e => e) fun _ _ e => e
    have fin : TEndT h₀ env.locals Led ps its (Pc (i + 1)) { s with heap := h₂, toks := tk₁ } s₃ → ∃ m, m < n + 1 - i ∧ ∃ h' tk m' c i, s₃ = { s with heap := h', toks := tk } ∧ St i h' ∧ Fr h₀ env.locals h' m' ∧ News h₀ env.locals h' (Led c) ∧ (∀ p ∈ Led c, p.1 ∉ ws.map (·.1)) ∧ (∀ p ∈ ps c, m' p.1 = some p.2) ∧ Pc i c tk ∧ i ≤ n ∧ m = n + 1 - i := by
      rintro ⟨c', h₃', tk₃, m₃, all, rfl, F₄, N₄, hI', hs', ho', hp', hP'⟩
      refine ⟨n + 1 - (i + 1), by omega, h₃', tk₃, m₃, c', i + 1, rfl, ?_, F₄, news_sub N₄ hs', ?_, hp', hP', hlt, rfl⟩
      · refine W.frame _ _ _ hst₂ fun b hb o e => ?_
        rcases hfp b hb with h1 | ⟨o', h1⟩ | ⟨o', h1⟩
        · rw [← hmap] at h1
          obtain ⟨q, hq, rfl⟩ := List.mem_map.mp h1
          have e1 := hval q hq
          have e2 := (N₄ q (hI' q hq)).1
          rw [e1] at e; cases e
          exact e2
        · have e1 := (N₂ _ (h1 c)).1
          have e2 := (N₄ _ (hs' _ (h1 c'))).1
          have e1' : h₂.get? b = some o' := e1
          rw [e1'] at e; cases e
          exact e2
        · have e1 := F₂.keep b o' h1
          rw [e1] at e; cases e
          exact F₄.keep b _ h1
      · intro p hp hb
        rw [← hmap] at hb
        obtain ⟨q, hq, e⟩ := List.mem_map.mp hb
        exact ho' p hp q hq e.symm
    cases f with
    | ret v => exact h₃
    | brk => exact h₃
    | cont => exact fin h₃
    | next => exact fin h₃
  · have hin : i = n := by omega
    subst hin
    refine W.done _ _ _ hst' fun h₁ tk₁ hle hk₁ => ?_
    obtain ⟨F₁, N₁⟩ := next h₁ hk₁
    exact wpAny_passesOwn hE (done c m' h₁ tk tk₁ hPc hle (by rw [mapB_eq hm']; exact F₁) N₁)
theorem x_core {σ : Type} {I : Addr} {fp wr : List Addr} {n : Nat} {P Md : Nat → Value → Heap → Prop} {St : Nat → Heap → Prop} {ws : List (Addr × String)} {m₀ : Str → Option Value} {hp : Heap} {tk0 : Nat}
    (Led : σ → List (Addr × Obj)) (ps : σ → List (Str × Value)) (Pc : Nat → σ → Prop) (c₀ : σ)
    (W : KTurns prog w A target I fp wr n P Md St)
    (hobj : ∀ i h, St i h → ∃ its, Objs ws its ∧ ∀ p ∈ its, h.get? p.1 = some p.2)
    (hws : ∀ b ∈ ws.map (·.1), b ∈ fp ∧ h₀.get? b = none) (hwr : ∀ b ∈ wr, b ∈ ws.map (·.1))
    (hfp : ∀ b ∈ fp, b ∈ ws.map (·.1) ∨ (∃ o, ∀ c, (b, o) ∈ Led c) ∨ ∃ o, h₀.get? b = some o)
    (hLf : env.locals ∉ fp) (hoff : ∀ p ∈ Led c₀, p.1 ∉ ws.map (·.1)) (hst : St 0 hp)
    (F : Fr h₀ env.locals hp m₀) (N : News h₀ env.locals hp (Led c₀)) (hk : ∀ p ∈ ps c₀, m₀ p.1 = some p.2) (hP : Pc 0 c₀)
    (turn : ∀ (c : σ) i v m₁ h tk its, i < n → P i v h → Pc i c → Objs ws its → (∀ p ∈ Led c, ∀ q ∈ its, p.1 ≠ q.1) →
      Fr h₀ env.locals h (mapB m₁ (ps c)) → News h₀ env.locals h (its ++ Led c) →
      wpAny (model prog w) A (assign target env v) (fun _ s₂ => wpAny (model prog w) A (execs body env) (TPost h₀ env.locals Led ps its (Pc (i + 1)) { s with heap := h, toks := tk } Q) E s₂) E { s with heap := h, toks := tk })
    (done : ∀ (c : σ) m₁ h tk, Pc n c → Fr h₀ env.locals h (mapB m₁ (ps c)) → News h₀ env.locals h (Led c) → wpAny (model prog w) A (execs orelse env) Q E { s with heap := h, toks := tk }) :
    XL prog w A env target body orelse Q E (.ref I) { s with heap := hp, toks := tk0 } :=
  x_coreT Led ps (fun i c _ => Pc i c) c₀ (KTT.ofK W) hobj hws hwr hfp hLf hoff hst F N hk hP (fun c i v m₁ h _ hi its h1 h2 _ h3 h4 h5 h6 h7 => turn c i v m₁ h hi its h1 h2 h3 h4 h5 h6 h7) (fun c m₁ h _ tk h1 _ h2 h3 => done c m₁ h tk h1 h2 h3)

theorem x_name {σ : Type} {Led : σ → List (Addr × Obj)} {ps : σ → List (Str × Value)} {x : Str} {px : Pos} {its : List (Addr × Obj)} {P' : σ → Prop} {v : Value} {m₁ : Str → Option Value} {h : Heap} {tk : Nat} {c : σ}
    (hx : env.kindOf x = some .local) (hp : (env.scope.kind == .class || (env.scope.kind == .module && env.locals != env.globals)) = false)
    (F : Fr h₀ env.locals h (mapB m₁ (ps c))) (N : News h₀ env.locals h (its ++ Led c))
    (turn : ∀ h tk', Fr h₀ env.locals h (fun y => if y = x then some v else mapB m₁ (ps c) y) → News h₀ env.locals h (its ++ Led c) →
      wpAny (model prog w) A (execs body env) (TPost h₀ env.locals Led ps its P' { s with heap := h, toks := tk' } Q) E { s with heap := h, toks := tk' }) :
    wpAny (model prog w) A (assign (.Name x px) env v) (fun _ s₂ => wpAny (model prog w) A (execs body env) (TPost h₀ env.locals Led ps its P' { s with heap := h, toks := tk } Q) E s₂) E { s with heap := h, toks := tk } := by
  refine wpAny_assign_Name (wpAny_storeName_local hx F.ns (fun h₂ hn₂ hs₂ => ?_) hp)
  exact turn h₂ (tk + 1) (F.set hn₂ hs₂) (N.set hs₂)
end

section
variable {prog : Program} {w : World} {A : Around} {E : Value → Shared → Prop} {s : Shared} {env : Env} {h₀ : Heap} {x : Str} {px : Pos} {target : Expr} {body orelse : List Stmt} {Q : Flow → Shared → Prop}

theorem objs1 {I : Addr} {cn : String} : ∀ {its : List (Addr × Obj)}, Objs [(I, cn)] its → ∃ o, its = [(I, o)] ∧ o.cls = .type cn
  | [], h => h.elim
  | [p], h => ⟨p.2, by rw [show I = p.1 from h.1.1.symm], h.1.2⟩
  | _ :: _ :: _, h => (show False from h.2).elim
theorem objs2 {I J : Addr} {cn dn : String} : ∀ {its : List (Addr × Obj)}, Objs [(I, cn), (J, dn)] its → ∃ o o', its = [(I, o), (J, o')] ∧ o.cls = .type cn ∧ o'.cls = .type dn
  | [], h => h.elim
  | [_], h => (show False from h.2).elim
  | [p, q], h => ⟨p.2, q.2, by rw [show I = p.1 from h.1.1.symm, show J = q.1 from h.2.1.1.symm], h.1.2, h.2.1.2⟩
  | _ :: _ :: _ :: _, h => (show False from h.2.2).elim

variable {K : Type} [DecidableEq K] {knd : KeyKind prog w K} {enc : K → PyData} {kvs : List (K × Value)}
theorem x_items {σ : Type} {elts : List Expr} {kk : Nat} {pos : Pos} {d vw : Addr} {od : Obj} {m₀ : Str → Option Value} (Led : σ → List (Addr × Obj)) (ps : σ → List (Str × Value)) (Pc : Nat → σ → Prop) (c₀ : σ)
    (hh : A.handled = none) (hvw : ∃ ov, s.heap.get? vw = some ov ∧ ov.cls = .type "dict_items" ∧ ov.data = .fields #[.ref d]) (hm : ∀ c, (d, od) ∈ Led c) (hd : od.IsDictOf knd kvs)
    (F : Fr h₀ env.locals s.heap m₀) (N : News h₀ env.locals s.heap (Led c₀)) (hk : ∀ p ∈ ps c₀, m₀ p.1 = some p.2) (hP : Pc 0 c₀)
    (turn : ∀ (c : σ) (i : Nat) key k v T m₁ h tk I oI, kvs[i]? = some (k, v) → knd.is k key = true → IsTup h T #[key, v] → Pc i c → oI.cls = .type "dict_itemiterator" → (∀ p ∈ Led c, p.1 ≠ I) →
      Fr h₀ env.locals h (mapB m₁ (ps c)) → News h₀ env.locals h ((I, oI) :: Led c) →
      wpAny (model prog w) A (assign (.Tuple elts kk pos) env (.ref T)) (fun _ s₂ => wpAny (model prog w) A (execs body env) (TPost h₀ env.locals Led ps [(I, oI)] (Pc (i + 1)) { s with heap := h, toks := tk } Q) E s₂) E { s with heap := h, toks := tk })
    (done : ∀ (c : σ) m₁ h tk, Pc kvs.length c → Fr h₀ env.locals h (mapB m₁ (ps c)) → News h₀ env.locals h (Led c) → wpAny (model prog w) A (execs orelse env) Q E { s with heap := h, toks := tk }) :
    wpAny (model prog w) A (pyIter (.ref vw)) (fun it s₂ => XL prog w A env (.Tuple elts kk pos) body orelse Q E it s₂) E s := by
  have hax := N _ (hm c₀)
  obtain ⟨ep, hat⟩ := (kda_dict N (hm c₀) hd).dictAt
  have hne : d ≠ s.heap.objs.size := Nat.ne_of_lt hat.lt_size
  refine wpAny_pyIter_items hvw hat ?_
  refine x_core (tk0 := s.toks) (ws := [(s.heap.objs.size, "dict_itemiterator")]) Led ps Pc c₀ (kti_itemsTurns (knd := knd) (elts := elts) (kk := kk) (pos := pos) hh s.heap.objs.size d hne kvs ep) ?_ ?_ ?_ ?_ ?_ ?_ ⟨⟨.none, .none, Heap.get?_push_size _ rfl⟩, hat.push _⟩ (F.push _) (fun p hp => ⟨Heap.get?_push_of_some _ (N p hp).1, (N p hp).2⟩) hk hP ?_ done
  · rintro i h ⟨⟨ok, ov, he⟩, _⟩
    have e1 : ∃ o : Obj, h.get? s.heap.objs.size = some o ∧ o.cls = .type "dict_itemiterator" := ⟨_, he, rfl⟩
    obtain ⟨oi, g, c⟩ := e1
    exact ⟨[(s.heap.objs.size, oi)], ⟨⟨rfl, c⟩, trivial⟩, fun p hp => by rw [List.mem_singleton.mp hp]; exact g⟩
  · intro b hb; have e : b = s.heap.objs.size := by simpa using hb
    subst e; exact ⟨List.mem_cons_self .., next_is_new F⟩
  · intro b hb; simpa using hb
  · intro b hb
    have hb' : b = s.heap.objs.size ∨ b = d := by simpa using hb
    rcases hb' with e | e
    · exact .inl (by simp [e])
    · exact .inr (.inl ⟨od, by rw [e]; exact hm⟩)
  · intro hI
    have hb' : env.locals = s.heap.objs.size ∨ env.locals = d := by simpa using hI
    rcases hb' with e | e
    · exact absurd F.ns.lt (e ▸ Nat.lt_irrefl _)
    · exact hax.2.1 e.symm
  · intro p hp hb
    have e : p.1 = s.heap.objs.size := by simpa using hb
    exact absurd (Heap.lt_size (N p hp).1) (e ▸ Nat.lt_irrefl _)
  · rintro c i v m₁ h tk its hi ⟨T, key, k, y, rfl, hky, hkk, hT⟩ hPc hits ho F' N'
    obtain ⟨oI, rfl, hc⟩ := objs1 hits
    exact turn c i key k y T m₁ h tk _ oI hky hkk hT hPc hc (fun p hp => ho p hp _ (List.mem_singleton.mpr rfl)) F' N'

theorem x_values {σ : Type} {d vw : Addr} {od : Obj} {m₀ : Str → Option Value} (Led : σ → List (Addr × Obj)) (ps : σ → List (Str × Value)) (Pc : Nat → σ → Prop) (c₀ : σ)
    (hh : A.handled = none) (hv : s.heap.IsValuesView vw d) (hm : ∀ c, (d, od) ∈ Led c) (hd : od.IsDictOf knd kvs)
    (hx : env.kindOf x = some .local) (hpm : (env.scope.kind == .class || (env.scope.kind == .module && env.locals != env.globals)) = false)
    (F : Fr h₀ env.locals s.heap m₀) (N : News h₀ env.locals s.heap (Led c₀)) (hk : ∀ p ∈ ps c₀, m₀ p.1 = some p.2) (hP : Pc 0 c₀)
    (turn : ∀ (c : σ) (i : Nat) k v m₁ h tk I oI, kvs[i]? = some (k, v) → Pc i c → oI.cls = .type "dict_valueiterator" → (∀ p ∈ Led c, p.1 ≠ I) →
      Fr h₀ env.locals h (fun y => if y = x then some v else mapB m₁ (ps c) y) → News h₀ env.locals h ((I, oI) :: Led c) →
      wpAny (model prog w) A (execs body env) (TPost h₀ env.locals Led ps [(I, oI)] (Pc (i + 1)) { s with heap := h, toks := tk } Q) E { s with heap := h, toks := tk })
    (done : ∀ (c : σ) m₁ h tk, Pc kvs.length c → Fr h₀ env.locals h (mapB m₁ (ps c)) → News h₀ env.locals h (Led c) → wpAny (model prog w) A (execs orelse env) Q E { s with heap := h, toks := tk }) :
    wpAny (model prog w) A (pyIter (.ref vw)) (fun it s₂ => XL prog w A env (.Name x px) body orelse Q E it s₂) E s := by
  have hax := N _ (hm c₀)
  obtain ⟨ep, hat⟩ := (kda_dict N (hm c₀) hd).dictAt
  have hne : d ≠ s.heap.objs.size := Nat.ne_of_lt hat.lt_size
  refine wpAny_pyIter_values hv hat ?_
  refine x_core (tk0 := s.toks) (ws := [(s.heap.objs.size, "dict_valueiterator")]) Led ps Pc c₀ (KTurns.ofWalks (target := .Name x px) (Walks.dictValues (knd := knd) hh s.heap.objs.size d hne kvs ep) fun i v s Q E st q => wpAny_pure q) ?_ ?_ ?_ ?_ ?_ ?_ ⟨⟨_, Heap.get?_push_size _ rfl, rfl, rfl⟩, hat.push _⟩ (F.push _) (fun p hp => ⟨Heap.get?_push_of_some _ (N p hp).1, (N p hp).2⟩) hk hP ?_ done
  · rintro i h ⟨⟨oi, g, c, _⟩, _⟩
    exact ⟨[(s.heap.objs.size, oi)], ⟨⟨rfl, c⟩, trivial⟩, fun p hp => by rw [List.mem_singleton.mp hp]; exact g⟩
  · intro b hb; have e : b = s.heap.objs.size := by simpa using hb
    subst e; exact ⟨List.mem_cons_self .., next_is_new F⟩
  · intro b hb; simpa using hb
  · intro b hb
    have hb' : b = s.heap.objs.size ∨ b = d := by simpa using hb
    rcases hb' with e | e
    · exact .inl (by simp [e])
    · exact .inr (.inl ⟨od, by rw [e]; exact hm⟩)
  · intro hI
    have hb' : env.locals = s.heap.objs.size ∨ env.locals = d := by simpa using hI
    rcases hb' with e | e
    · exact absurd F.ns.lt (e ▸ Nat.lt_irrefl _)
    · exact hax.2.1 e.symm
  · intro p hp hb
    have e : p.1 = s.heap.objs.size := by simpa using hb
    exact absurd (Heap.lt_size (N p hp).1) (e ▸ Nat.lt_irrefl _)
  · rintro c i v m₁ h tk its hi ⟨k, hky⟩ hPc hits ho F' N'
    obtain ⟨oI, rfl, hc⟩ := objs1 hits
    exact x_name hx hpm F' N' fun h' tk' F'' N'' => turn c i k v m₁ h' tk' _ oI hky hPc hc (fun p hp => ho p hp _ (List.mem_singleton.mpr rfl)) F'' N''
end
end Y33
end
section
open PySem PySem.W PyProof.Rows PySem.Calls
set_option Elab.async false
set_option maxRecDepth 100000
namespace Y33
theorem mm0 {α : Type} {x : α} {l : List α} : x ∈ x :: l := List.mem_cons_self ..
theorem mm1 {α : Type} {a0 x : α} {l : List α} : x ∈ a0 :: x :: l := List.mem_cons_of_mem _ (List.mem_cons_self ..)
theorem mm2 {α : Type} {a0 a1 x : α} {l : List α} : x ∈ a0 :: a1 :: x :: l := List.mem_cons_of_mem _ (List.mem_cons_of_mem _ (List.mem_cons_self ..))
theorem mm3 {α : Type} {a0 a1 a2 x : α} {l : List α} : x ∈ a0 :: a1 :: a2 :: x :: l := List.mem_cons_of_mem _ (List.mem_cons_of_mem _ (List.mem_cons_of_mem _ (List.mem_cons_self ..)))
theorem mm4 {α : Type} {a0 a1 a2 a3 x : α} {l : List α} : x ∈ a0 :: a1 :: a2 :: a3 :: x :: l := List.mem_cons_of_mem _ (List.mem_cons_of_mem _ (List.mem_cons_of_mem _ (List.mem_cons_of_mem _ (List.mem_cons_self ..))))
theorem mm5 {α : Type} {a0 a1 a2 a3 a4 x : α} {l : List α} : x ∈ a0 :: a1 :: a2 :: a3 :: a4 :: x :: l := List.mem_cons_of_mem _ (List.mem_cons_of_mem _ (List.mem_cons_of_mem _ (List.mem_cons_of_mem _ (List.mem_cons_of_mem _ (List.mem_cons_self ..)))))
theorem mm6 {α : Type} {a0 a1 a2 a3 a4 a5 x : α} {l : List α} : x ∈ a0 :: a1 :: a2 :: a3 :: a4 :: a5 :: x :: l := List.mem_cons_of_mem _ (List.mem_cons_of_mem _ (List.mem_cons_of_mem _ (List.mem_cons_of_mem _ (List.mem_cons_of_mem _ (List.mem_cons_of_mem _ (List.mem_cons_self ..))))))
theorem mm7 {α : Type} {a0 a1 a2 a3 a4 a5 a6 x : α} {l : List α} : x ∈ a0 :: a1 :: a2 :: a3 :: a4 :: a5 :: a6 :: x :: l := List.mem_cons_of_mem _ (List.mem_cons_of_mem _ (List.mem_cons_of_mem _ (List.mem_cons_of_mem _ (List.mem_cons_of_mem _ (List.mem_cons_of_mem _ (List.mem_cons_of_mem _ (List.mem_cons_self ..)))))))
theorem mm8 {α : Type} {a0 a1 a2 a3 a4 a5 a6 a7 x : α} {l : List α} : x ∈ a0 :: a1 :: a2 :: a3 :: a4 :: a5 :: a6 :: a7 :: x :: l := List.mem_cons_of_mem _ (List.mem_cons_of_mem _ (List.mem_cons_of_mem _ (List.mem_cons_of_mem _ (List.mem_cons_of_mem _ (List.mem_cons_of_mem _ (List.mem_cons_of_mem _ (List.mem_cons_of_mem _ (List.mem_cons_self ..))))))))
theorem mm9 {α : Type} {a0 a1 a2 a3 a4 a5 a6 a7 a8 x : α} {l : List α} : x ∈ a0 :: a1 :: a2 :: a3 :: a4 :: a5 :: a6 :: a7 :: a8 :: x :: l := List.mem_cons_of_mem _ (List.mem_cons_of_mem _ (List.mem_cons_of_mem _ (List.mem_cons_of_mem _ (List.mem_cons_of_mem _ (List.mem_cons_of_mem _ (List.mem_cons_of_mem _ (List.mem_cons_of_mem _ (List.mem_cons_of_mem _ (List.mem_cons_self ..)))))))))
theorem mm10 {α : Type} {a0 a1 a2 a3 a4 a5 a6 a7 a8 a9 x : α} {l : List α} : x ∈ a0 :: a1 :: a2 :: a3 :: a4 :: a5 :: a6 :: a7 :: a8 :: a9 :: x :: l := List.mem_cons_of_mem _ (List.mem_cons_of_mem _ (List.mem_cons_of_mem _ (List.mem_cons_of_mem _ (List.mem_cons_of_mem _ (List.mem_cons_of_mem _ (List.mem_cons_of_mem _ (List.mem_cons_of_mem _ (List.mem_cons_of_mem _ (List.mem_cons_of_mem _ (List.mem_cons_self ..))))))))))
theorem mm11 {α : Type} {a0 a1 a2 a3 a4 a5 a6 a7 a8 a9 a10 x : α} {l : List α} : x ∈ a0 :: a1 :: a2 :: a3 :: a4 :: a5 :: a6 :: a7 :: a8 :: a9 :: a10 :: x :: l := List.mem_cons_of_mem _ (List.mem_cons_of_mem _ (List.mem_cons_of_mem _ (List.mem_cons_of_mem _ (List.mem_cons_of_mem _ (List.mem_cons_of_mem _ (List.mem_cons_of_mem _ (List.mem_cons_of_mem _ (List.mem_cons_of_mem _ (List.mem_cons_of_mem _ (List.mem_cons_of_mem _ (List.mem_cons_self ..)))))))))))
theorem mm12 {α : Type} {a0 a1 a2 a3 a4 a5 a6 a7 a8 a9 a10 a11 x : α} {l : List α} : x ∈ a0 :: a1 :: a2 :: a3 :: a4 :: a5 :: a6 :: a7 :: a8 :: a9 :: a10 :: a11 :: x :: l := List.mem_cons_of_mem _ (List.mem_cons_of_mem _ (List.mem_cons_of_mem _ (List.mem_cons_of_mem _ (List.mem_cons_of_mem _ (List.mem_cons_of_mem _ (List.mem_cons_of_mem _ (List.mem_cons_of_mem _ (List.mem_cons_of_mem _ (List.mem_cons_of_mem _ (List.mem_cons_of_mem _ (List.mem_cons_of_mem _ (List.mem_cons_self ..))))))))))))
theorem mm13 {α : Type} {a0 a1 a2 a3 a4 a5 a6 a7 a8 a9 a10 a11 a12 x : α} {l : List α} : x ∈ a0 :: a1 :: a2 :: a3 :: a4 :: a5 :: a6 :: a7 :: a8 :: a9 :: a10 :: a11 :: a12 :: x :: l := List.mem_cons_of_mem _ (List.mem_cons_of_mem _ (List.mem_cons_of_mem _ (List.mem_cons_of_mem _ (List.mem_cons_of_mem _ (List.mem_cons_of_mem _ (List.mem_cons_of_mem _ (List.mem_cons_of_mem _ (List.mem_cons_of_mem _ (List.mem_cons_of_mem _ (List.mem_cons_of_mem _ (List.mem_cons_of_mem _ (List.mem_cons_of_mem _ (List.mem_cons_self ..)))))))))))))
theorem md1 {α : Type} {a0 x : α} {l : List α} (h : x ∈ l) : x ∈ a0 :: l := List.mem_cons_of_mem _ (h)
theorem md2 {α : Type} {a0 a1 x : α} {l : List α} (h : x ∈ l) : x ∈ a0 :: a1 :: l := List.mem_cons_of_mem _ (List.mem_cons_of_mem _ (h))
theorem md3 {α : Type} {a0 a1 a2 x : α} {l : List α} (h : x ∈ l) : x ∈ a0 :: a1 :: a2 :: l := List.mem_cons_of_mem _ (List.mem_cons_of_mem _ (List.mem_cons_of_mem _ (h)))
theorem md4 {α : Type} {a0 a1 a2 a3 x : α} {l : List α} (h : x ∈ l) : x ∈ a0 :: a1 :: a2 :: a3 :: l := List.mem_cons_of_mem _ (List.mem_cons_of_mem _ (List.mem_cons_of_mem _ (List.mem_cons_of_mem _ (h))))
theorem md5 {α : Type} {a0 a1 a2 a3 a4 x : α} {l : List α} (h : x ∈ l) : x ∈ a0 :: a1 :: a2 :: a3 :: a4 :: l := List.mem_cons_of_mem _ (List.mem_cons_of_mem _ (List.mem_cons_of_mem _ (List.mem_cons_of_mem _ (List.mem_cons_of_mem _ (h)))))
theorem md6 {α : Type} {a0 a1 a2 a3 a4 a5 x : α} {l : List α} (h : x ∈ l) : x ∈ a0 :: a1 :: a2 :: a3 :: a4 :: a5 :: l := List.mem_cons_of_mem _ (List.mem_cons_of_mem _ (List.mem_cons_of_mem _ (List.mem_cons_of_mem _ (List.mem_cons_of_mem _ (List.mem_cons_of_mem _ (h))))))
theorem md7 {α : Type} {a0 a1 a2 a3 a4 a5 a6 x : α} {l : List α} (h : x ∈ l) : x ∈ a0 :: a1 :: a2 :: a3 :: a4 :: a5 :: a6 :: l := List.mem_cons_of_mem _ (List.mem_cons_of_mem _ (List.mem_cons_of_mem _ (List.mem_cons_of_mem _ (List.mem_cons_of_mem _ (List.mem_cons_of_mem _ (List.mem_cons_of_mem _ (h)))))))
theorem md8 {α : Type} {a0 a1 a2 a3 a4 a5 a6 a7 x : α} {l : List α} (h : x ∈ l) : x ∈ a0 :: a1 :: a2 :: a3 :: a4 :: a5 :: a6 :: a7 :: l := List.mem_cons_of_mem _ (List.mem_cons_of_mem _ (List.mem_cons_of_mem _ (List.mem_cons_of_mem _ (List.mem_cons_of_mem _ (List.mem_cons_of_mem _ (List.mem_cons_of_mem _ (List.mem_cons_of_mem _ (h))))))))
theorem md9 {α : Type} {a0 a1 a2 a3 a4 a5 a6 a7 a8 x : α} {l : List α} (h : x ∈ l) : x ∈ a0 :: a1 :: a2 :: a3 :: a4 :: a5 :: a6 :: a7 :: a8 :: l := List.mem_cons_of_mem _ (List.mem_cons_of_mem _ (List.mem_cons_of_mem _ (List.mem_cons_of_mem _ (List.mem_cons_of_mem _ (List.mem_cons_of_mem _ (List.mem_cons_of_mem _ (List.mem_cons_of_mem _ (List.mem_cons_of_mem _ (h)))))))))
theorem md10 {α : Type} {a0 a1 a2 a3 a4 a5 a6 a7 a8 a9 x : α} {l : List α} (h : x ∈ l) : x ∈ a0 :: a1 :: a2 :: a3 :: a4 :: a5 :: a6 :: a7 :: a8 :: a9 :: l := List.mem_cons_of_mem _ (List.mem_cons_of_mem _ (List.mem_cons_of_mem _ (List.mem_cons_of_mem _ (List.mem_cons_of_mem _ (List.mem_cons_of_mem _ (List.mem_cons_of_mem _ (List.mem_cons_of_mem _ (List.mem_cons_of_mem _ (List.mem_cons_of_mem _ (h))))))))))
theorem md11 {α : Type} {a0 a1 a2 a3 a4 a5 a6 a7 a8 a9 a10 x : α} {l : List α} (h : x ∈ l) : x ∈ a0 :: a1 :: a2 :: a3 :: a4 :: a5 :: a6 :: a7 :: a8 :: a9 :: a10 :: l := List.mem_cons_of_mem _ (List.mem_cons_of_mem _ (List.mem_cons_of_mem _ (List.mem_cons_of_mem _ (List.mem_cons_of_mem _ (List.mem_cons_of_mem _ (List.mem_cons_of_mem _ (List.mem_cons_of_mem _ (List.mem_cons_of_mem _ (List.mem_cons_of_mem _ (List.mem_cons_of_mem _ (h)))))))))))
theorem md12 {α : Type} {a0 a1 a2 a3 a4 a5 a6 a7 a8 a9 a10 a11 x : α} {l : List α} (h : x ∈ l) : x ∈ a0 :: a1 :: a2 :: a3 :: a4 :: a5 :: a6 :: a7 :: a8 :: a9 :: a10 :: a11 :: l := List.mem_cons_of_mem _ (List.mem_cons_of_mem _ (List.mem_cons_of_mem _ (List.mem_cons_of_mem _ (List.mem_cons_of_mem _ (List.mem_cons_of_mem _ (List.mem_cons_of_mem _ (List.mem_cons_of_mem _ (List.mem_cons_of_mem _ (List.mem_cons_of_mem _ (List.mem_cons_of_mem _ (List.mem_cons_of_mem _ (h))))))))))))
theorem md13 {α : Type} {a0 a1 a2 a3 a4 a5 a6 a7 a8 a9 a10 a11 a12 x : α} {l : List α} (h : x ∈ l) : x ∈ a0 :: a1 :: a2 :: a3 :: a4 :: a5 :: a6 :: a7 :: a8 :: a9 :: a10 :: a11 :: a12 :: l := List.mem_cons_of_mem _ (List.mem_cons_of_mem _ (List.mem_cons_of_mem _ (List.mem_cons_of_mem _ (List.mem_cons_of_mem _ (List.mem_cons_of_mem _ (List.mem_cons_of_mem _ (List.mem_cons_of_mem _ (List.mem_cons_of_mem _ (List.mem_cons_of_mem _ (List.mem_cons_of_mem _ (List.mem_cons_of_mem _ (List.mem_cons_of_mem _ (h)))))))))))))
theorem md14 {α : Type} {a0 a1 a2 a3 a4 a5 a6 a7 a8 a9 a10 a11 a12 a13 x : α} {l : List α} (h : x ∈ l) : x ∈ a0 :: a1 :: a2 :: a3 :: a4 :: a5 :: a6 :: a7 :: a8 :: a9 :: a10 :: a11 :: a12 :: a13 :: l := List.mem_cons_of_mem _ (List.mem_cons_of_mem _ (List.mem_cons_of_mem _ (List.mem_cons_of_mem _ (List.mem_cons_of_mem _ (List.mem_cons_of_mem _ (List.mem_cons_of_mem _ (List.mem_cons_of_mem _ (List.mem_cons_of_mem _ (List.mem_cons_of_mem _ (List.mem_cons_of_mem _ (List.mem_cons_of_mem _ (List.mem_cons_of_mem _ (List.mem_cons_of_mem _ (h))))))))))))))
theorem fa_nil {α : Type} {P : α → Prop} : ∀ p ∈ ([] : List α), P p := fun _ h => nomatch h
theorem fa_cons {α : Type} {P : α → Prop} {a : α} {l : List α} (h : P a) (t : ∀ p ∈ l, P p) : ∀ p ∈ a :: l, P p := fun p hp => (List.mem_cons.mp hp).elim (fun e => e ▸ h) (t p)
theorem fa_one {α : Type} {P : α → Prop} {a : α} (h : P a) : ∀ p ∈ [a], P p := fa_cons h fa_nil
theorem ps_cons {m : Str → Option Value} {n : Str} {v : Value} {l : List (Str × Value)} (h : m n = some v) (t : ∀ p ∈ l, m p.1 = some p.2) : ∀ p ∈ (n, v) :: l, m p.1 = some p.2 := fa_cons h t
theorem ps_one {m : Str → Option Value} {n : Str} {v : Value} (h : m n = some v) : ∀ p ∈ [(n, v)], m p.1 = some p.2 := fa_one h
theorem lt_in {a b : Addr} {o : Obj} {l : List (Addr × Obj)} (h : ∀ p ∈ l, p.1 < b) (m : (a, o) ∈ l) : @LT.lt Nat _ a b := h _ m
theorem ne_ltL {a b : Addr} {o : Obj} {l : List (Addr × Obj)} (h : ∀ p ∈ l, p.1 < b) (m : (a, o) ∈ l) : @Ne Nat a b := Nat.ne_of_lt (h _ m)
theorem ne_ltR {a b : Addr} {o : Obj} {l : List (Addr × Obj)} (h : ∀ p ∈ l, p.1 < a) (m : (b, o) ∈ l) : @Ne Nat a b := Nat.ne_of_gt (h _ m)
theorem ne_sy {a b : Addr} (h : @Ne Nat b a) : @Ne Nat a b := h.symm
theorem lts1 {a : Addr × Obj} {l : List (Addr × Obj)} {d : Addr} (h : ∀ p ∈ a :: l, p.1 < d) : ∀ p ∈ l, p.1 < d := fun p hp => h p (List.mem_cons_of_mem _ hp)
theorem nes1 {a : Addr × Obj} {l : List (Addr × Obj)} {d : Addr} (h : ∀ p ∈ a :: l, p.1 ≠ d) : ∀ p ∈ l, p.1 ≠ d := fun p hp => h p (List.mem_cons_of_mem _ hp)
theorem off1 {l : List (Addr × Obj)} {I : Addr} {oI : Obj} (h : ∀ p ∈ l, p.1 ≠ I) : ∀ p ∈ l, ∀ q ∈ [(I, oI)], p.1 ≠ q.1 ∨ p.2.cls ≠ q.2.cls := fun p hp _ hq => .inl (List.mem_singleton.mp hq ▸ h p hp)
theorem nes_of {l : List (Addr × Obj)} {d : Addr} (h : ∀ p ∈ l, p.1 < d) : ∀ p ∈ l, p.1 ≠ d := fun p hp => Nat.ne_of_lt (h p hp)
theorem q_or3 {i : Nat} (h : i < 3) : i = 0 ∨ i = 1 ∨ i = 2 := by omega
theorem q_or4 {i : Nat} (h : i ≤ 3) : i = 0 ∨ i = 1 ∨ i = 2 ∨ i = 3 := by omega
theorem q_oi3 {x : Int} (h : 0 ≤ x) (h2 : x ≤ 2) : x = 0 ∨ x = 1 ∨ x = 2 := by omega
theorem q_oi4 {x : Int} (h : 0 ≤ x ∧ x ≤ 3) : x = 0 ∨ x = 1 ∨ x = 2 ∨ x = 3 := by omega
theorem q_u12 {u : Nat} (h : u + 8 * 12 < cLine) : u + 3 + 8 * 1 < cLine := by omega
theorem q_u3 {u : Nat} (h : u + 8 * 3 < cLine) : u + 3 + 8 * 1 < cLine := by omega
theorem q_u2 {u : Nat} (h : u + 8 * 2 < cLine) : u + 3 + 8 * 1 < cLine := by omega
theorem q_d12 {d : Nat} (h : d + 12 < recursionLimit) : d + 1 + 1 < recursionLimit := by omega
theorem q_d3 {d : Nat} (h : d + 3 < recursionLimit) : d + 1 + 1 < recursionLimit := by omega
theorem q_e12 {d : Nat} (h : d + 12 < recursionLimit) : d < recursionLimit := by omega
theorem q_e1 {d n : Nat} (h : d + 1 < n) : d < n := by omega
theorem q_e2 {d n : Nat} (h : d + 2 < n) : d < n := by omega
theorem q_e3 {d n : Nat} (h : d + 3 < n) : d < n := by omega
theorem q_p2 {x : Int} (h : x ≤ 2) : x < 2 ^ 63 := by omega
theorem q_p3 {x : Int} (h : x ≤ 3) : x < 2 ^ 63 := by omega
theorem q_pl {x : Int} (h : x < 3) : x < 2 ^ 63 := by omega
theorem q_pi {i : Nat} (h : i < 3) : (0 : Int) + (i : Int) < 2 ^ 63 := by omega
theorem q_zi {i : Nat} : (0 : Int) ≤ 0 + (i : Int) := by omega
theorem q_zn {i : Nat} : (0 : Int) ≤ (i : Int) := by omega
theorem q_ti {i : Nat} : ((0 : Int) + (i : Int)).toNat = i := by omega
theorem q_ng {i : Nat} : -((2 : Int) ^ 64) < (i : Int) := by omega
theorem q_l3 {x : Int} {n : Nat} (h : x ≤ 2) (h2 : n = 3) : x < (n : Int) := by omega
theorem q_s3 {x : Int} {n : Nat} (h : x ≤ 2) : x < ((n + 1 + 1 + 1 : Nat) : Int) := by omega
theorem q_z4 {z : Int} (h : z ≤ 4) : z < 2 ^ 64 := by omega
theorem q_n4 {z : Int} (h : 1 ≤ z) : -((2 : Int) ^ 64) < z := by omega
theorem q_le {a b c : Nat} (h : a ≤ b) (h2 : Nat.ble b c = true) : a ≤ c := Nat.le_trans h (Nat.le_of_ble_eq_true h2)
theorem q_lt {a b c : Nat} (h : a ≤ b) (h2 : Nat.blt b c = true) : a < c := Nat.lt_of_le_of_lt h (Nat.le_of_ble_eq_true h2)
theorem q_ll {a b c : Nat} (h : a < b) (h2 : Nat.ble b c = true) : a < c := Nat.lt_of_lt_of_le h (Nat.le_of_ble_eq_true h2)
theorem q_eq {a b c : Nat} (h : a = b) (h2 : Nat.blt b c = true) : a < c := q_lt (Nat.le_of_eq h) h2
theorem q_lw {a b : Nat} (h : a < b) : a ≤ b := Nat.le_of_lt h
theorem q_sp {a b : Nat} (h : a + 1 ≤ b) : 0 < b := Nat.lt_of_lt_of_le (Nat.succ_pos a) h
theorem q_sl {a b : Nat} (h : a + 1 ≤ b) : a ≤ b := Nat.le_of_succ_le h
end Y33
end
section
open PySem PySem.W PyProof.Rows PySem.Calls
set_option Elab.async false
set_option maxRecDepth 100000
namespace Y33
namespace FB
theorem lk_getitem : typeLookup (.type "list") "__getitem__" = pure (some (.builtin "list.__getitem__")) := by rw [typeLookup_type, builtinLookup_eq_fast]; kernel_rfl
theorem typeOf_getitem : typeOf (.builtin "list.__getitem__") = pure (.type "method_descriptor") := by kernel_rfl
theorem slot_md_get : Slot "method_descriptor" "__get__" "method_descriptor.__get__" :=
  .of (owner := "method_descriptor") (n := "__get__") (by rw [typeLookup_type, builtinLookup_eq_fast]; kernel_rfl) (by decide +kernel) (by decide +kernel) (by decide +kernel)
    (by first | exact .inl (by decide +kernel) | exact .inr (by decide +kernel)) (by rw [isSubtype_type]; kernel_rfl)
theorem lk_md_set : typeLookup (.type "method_descriptor") "__set__" = pure none := by rw [typeLookup_type, builtinLookup_eq_fast]; kernel_rfl
theorem lk_md_delete : typeLookup (.type "method_descriptor") "__delete__" = pure none := by rw [typeLookup_type, builtinLookup_eq_fast]; kernel_rfl
theorem entry_md_get : entryFor table "method_descriptor.__get__" = some Builtin.«method_descriptor.__get__» := entryFor_of_tree (by kernel_rfl)
theorem args_md_get (a b c : Value) : argsOk "method_descriptor.__get__" ⟨[a, b, c], []⟩ := by unfold argsOk; kernel_rfl
end FB
section
variable {prog : Program} {w : World} {A : Around} {E : Value → Shared → Prop} {h : Heap} {g : Array GenState} {d : Drawn} {t : Nat} {os : OsState} {a : Addr} {o : Obj}
theorem if_not {α : Type} {M : Model} {A : Around} {E : Value → Shared → Prop} {s : Shared} {c : Bool} {a b : Sem α} {Q : α → Shared → Prop} (hc : c = false) (h : wpAny M A b Q E s) : wpAny M A (if c = true then a else b) Q E s := by
  subst hc; exact h
theorem if_so {α : Type} {M : Model} {A : Around} {E : Value → Shared → Prop} {s : Shared} {c : Bool} {a b : Sem α} {Q : α → Shared → Prop} (hc : c = true) (h : wpAny M A a Q E s) : wpAny M A (if c = true then a else b) Q E s := by
  subst hc; exact h
theorem told : Manifest.toldItsClass.contains "list.__getitem__" = false := by decide +kernel
theorem md_get_run {P : Fin → Shared → Prop} {s : Shared} (hT : s.TypeIs (.ref a) "list")
    (hq : P (.done (.ret (.ref s.heap.objs.size))) { s with heap := s.heap.push { cls := .type "builtin_function_or_method", data := .fields #[.builtin "list.__getitem__", .ref a] } }) :
    wpAny (model prog w) A (Builtin.«method_descriptor.__get__» ⟨[.builtin "list.__getitem__", .ref a, .type "list"], []⟩) P E s := by
  unfold Builtin.«method_descriptor.__get__»
  refine wpAny_bind (wpAny_of_eq (a := (.builtin "list.__getitem__", some (.ref a), some (.type "list"))) (by first | rfl | kernel_rfl) ?_)
  dsimp only
  refine if_not told ?_
  refine wpAny_bind (wpAny_bind (wpAny_of_eq (a := ((Str.ofString "__getitem__", Value.type "list") : Str × Value)) (by first | rfl | kernel_rfl) ?_))
  refine wpAny_bind (wpAny_isInstance (T := "list") (b := true) hT (by rw [isSubtype_type]; kernel_rfl) ?_)
  refine wpAny_pure ?_
  exact wpAny_bind (wpAny_newObj_type (wpAny_pure hq))
theorem gi_entry {tk : Tok} {its : Array Value} {n : Nat} {Q : Fin → Shared → Prop} (hx : h.get? a = some (W.listOf its n)) (hq : Q (.done (.ret (.ref h.objs.size))) ⟨h.push { cls := .type "builtin_function_or_method", data := .fields #[.builtin "list.__getitem__", .ref a] }, g, d, t, os⟩) :
    wpAny (model prog w) A (Builtin.«object.__getattribute__» ⟨[.ref a, .str "__getitem__" tk], []⟩) Q E ⟨h, g, d, t, os⟩ := by
  have hT : (⟨h, g, d, t, os⟩ : Shared).TypeIs (.ref a) "list" := ⟨_, hx, rfl⟩
  have f4 := FB.lk_getitem
  have f5 := FB.typeOf_getitem
  have f6 := FB.slot_md_get.lookup
  have f7 := FB.lk_md_set
  have f8 := FB.lk_md_delete
  repeat (any_goals (first | assumption | wp_step))
  have hT5 : (⟨h, g, d, t, os⟩ : Shared).TypeIs (.builtin "list.__getitem__") "method_descriptor" := FB.typeOf_getitem
  refine codeAny_call_builtin FB.slot_md_get.plain FB.entry_md_get (FB.slot_md_get.check _ _ _ _ _ _ _ _ hT5 (FB.args_md_get _ _ _) (md_get_run hT ?_))
  repeat (any_goals (first | assumption | wp_step))
theorem gi_call {tk : Tok} {its : Array Value} {n : Nat} {R : Result → Shared → Prop} (hx : h.get? a = some (W.listOf its n)) (hq : R (.ok (.ret (.ref h.objs.size))) ⟨h.push { cls := .type "builtin_function_or_method", data := .fields #[.builtin "list.__getitem__", .ref a] }, g, d, t, os⟩) :
    codeAny (model prog w) A (.call (.builtin "list.__getattribute__") ⟨[.ref a, .str "__getitem__" tk], []⟩) R ⟨h, g, d, t, os⟩ :=
  codeAny_call_builtin F.slot_list_getattribute.plain F.entry_list_ga (F.slot_list_getattribute.check _ _ _ _ _ _ _ _ (show (⟨h, g, d, t, os⟩ : Shared).TypeIs (.ref a) "list" from ⟨_, hx, rfl⟩) (F.args_list_getattribute_2 _ _) (gi_entry hx hq))
theorem gi_by {tk : Tok} {its : Array Value} {n : Nat} {Q : Value → Shared → Prop} (hx : h.get? a = some (W.listOf its n)) (hq : Q (.ref h.objs.size) ⟨h.push { cls := .type "builtin_function_or_method", data := .fields #[.builtin "list.__getitem__", .ref a] }, g, d, t, os⟩) :
    wpAny (model prog w) A (getAttrBy (.ref a) (.str "__getitem__" tk) false) Q E ⟨h, g, d, t, os⟩ := by
  have hT : (⟨h, g, d, t, os⟩ : Shared).TypeIs (.ref a) "list" := ⟨_, hx, rfl⟩
  have f2 := F.slot_list_getattribute.lookup
  have f3 := F.slot_list_getattribute.bind (.ref a)
  repeat (any_goals (first | assumption | wp_step))
  refine gi_call hx ?_
  repeat (any_goals (first | assumption | wp_step))
theorem hasattr_entry : entryFor table "hasattr" = some Builtin.«hasattr» := entryFor_of_tree (by kernel_rfl)
theorem hasattr_run {tk : Tok} {its : Array Value} {n : Nat} {Q : Fin → Shared → Prop} (hx : h.get? a = some (W.listOf its n)) (hq : Q (.done (.ret (.bool true))) ⟨h.push { cls := .type "builtin_function_or_method", data := .fields #[.builtin "list.__getitem__", .ref a] }, g, d, t, os⟩) :
    wpAny (model prog w) A (Builtin.«hasattr» ⟨[.ref a, .str "__getitem__" tk], []⟩) Q E ⟨h, g, d, t, os⟩ := by
  have hT : (⟨h, g, d, t, os⟩ : Shared).TypeIs (.ref a) "list" := ⟨_, hx, rfl⟩
  have f4 := FB.lk_getitem
  have f2 := F.slot_list_getattribute.lookup
  have f6 : withoutEnding? "list.__getitem__" "#data" = none := by decide +kernel
  have f7 : isSubtype (.type "list") (.type "module") = pure false := by rw [isSubtype_type]; kernel_rfl
  unfold Builtin.«hasattr»
  repeat (any_goals (first | assumption | with_reducible apply gi_by hx | wp_step))
theorem hasattr_call {s : Shared} {h₀ : Heap} {L : Addr} {m : Str → Option Value} {news : List (Addr × Obj)} {tk : Tok} {its : Array Value} {n : Nat} {Q : Value → Shared → Prop} {E : Value → Shared → Prop}
    (F : Fr h₀ L s.heap m) (N : News h₀ L s.heap news) (hm : (a, W.listOf its n) ∈ news) (hq : ∀ h', Fr h₀ L h' m → News h₀ L h' news → Q (.bool true) { s with heap := h' }) :
    wpAny (model prog w) A (call (.builtin "hasattr") [.ref a, .str "__getitem__" tk]) Q E s := by
  refine Calls.call_function_entry (id := "hasattr") (by decide +kernel) (by decide +kernel) hasattr_entry (by unfold argsOk; kernel_rfl) ?_
  exact hasattr_run (N _ hm).1 ⟨_, rfl, hq _ (F.push _) (N.grown fun _ _ e => Heap.get?_push_of_some _ e)⟩
end
end Y33
end
section
open PySem PySem.W PyProof.Rows PySem.Calls
set_option Elab.async false
set_option maxRecDepth 100000
namespace Y33
noncomputable def theCode : Array Nat := #[14, 8, 1, 2, 4294967295, 1, 1, 46, 0, 16, 46, 24, 9, 1, 4294967295, 13, 4, 8, 0, 0, 1, 6, 5, 1]
noncomputable def patObj : Obj := { cls := .type "re.Pattern", data := .fields #[.str ⟨#[92, 46, 92, 100, 43, 36]⟩ 301, .int 256 328, .int 0 0, .none, .none, .ref 49, .int 0 0] }
noncomputable def codeItems : Array Value := #[.int 14 0, .int 8 0, .int 1 0, .int 2 0, .int 4294967295 0, .int 1 0, .int 1 0, .int 46 0, .int 0 0, .int 16 0, .int 46 0, .int 24 0, .int 9 0, .int 1 0, .int 4294967295 0, .int 13 0, .int 4 0, .int 8 0, .int 0 0, .int 0 0, .int 1 0, .int 6 0, .int 5 0, .int 1 0]
noncomputable def codeTup : Obj := { cls := .type "tuple", data := .seq codeItems 0 }
theorem codeItems_eq : Array.map (fun x => x.toNat) (Array.map Builtin.Re.reRawOf ((some codeItems).getD #[])) = theCode := by decide +kernel
noncomputable def driveP : Nat → Sre.M → Option Sre.M
  | 0, _ => none
  | n + 1, m => match (m.runFor 4).outcome with
    | some _ => some (m.runFor 4)
    | none => driveP n (m.runFor 4)
section
variable {M : Model} {A : Around} {E : Value → Shared → Prop} {s : Shared}
theorem wp_drive {Q : Sre.M → Shared → Prop} (k : Nat) : ∀ (n : Nat) (m m' : Sre.M), driveP n m = some m' → Q m' s → wpAny M A (Builtin.Re.reDrive (n + k) m) Q E s
  | 0, m, m', h, _ => by cases h
  | n + 1, m, m', h, hq => by
    rw [Nat.add_right_comm]
    unfold driveP at h
    show wpAny M A (if (m.runFor 4).outcome.isSome = true then pure (m.runFor 4) else (rule "sre.turn" >>= fun _ => Builtin.Re.reDrive (n + k) (m.runFor 4))) Q E s
    split at h
    · rename_i o ho
      rw [ho]; cases h; exact wpAny_pure hq
    · rename_i ho
      rw [ho]
      exact wpAny_bind (wpAny_rule (wp_drive k n _ _ h hq))
theorem wp_toEnd {Q : Option Sre.M → Shared → Prop} {m m' : Sre.M} (h : driveP 200 m = some m') (hq : (m'.outcome = some .matched ∧ Q (some m') s) ∨ (m'.outcome = some .failed ∧ Q none s)) : wpAny M A (Builtin.Re.reRunToEnd m) Q E s := by
  unfold Builtin.Re.reRunToEnd
  refine wpAny_bind (wp_drive (2 ^ 64 - 200) 200 m m' h ?_)
  refine wpAny_bind (wpAny_forIn_list _ (fun _ _ s' => s' = s) _ ?_ ?_ _ _ rfl)
  · rintro i rest b s' rfl
    split
    · exact wpAny_bind (wpAny_rule (wpAny_pure rfl))
    · exact wpAny_pure rfl
  · rintro b s' rfl
    rcases hq with ⟨ho, hq⟩ | ⟨ho, hq⟩
    · rw [ho]; exact wpAny_pure hq
    · rw [ho]; exact wpAny_pure hq
end
section
variable {prog : Program} {w : World} {A : Around} {E : Value → Shared → Prop} {s : Shared}
theorem target_run {x : Str} {t : Tok} {Q : Builtin.Re.ReTarget → Shared → Prop} (hP : s.heap.get? 50 = some patObj) (hC : s.heap.get? 49 = some codeTup) (hsz : x.cps.size ≤ 1000)
    (hq : Q { pattern := .ref 50, string := .str x t, code := theCode, text := x.cps, kind := 0, groups := 0, pos := 0, lim := x.cps.size } s) :
    wpAny (model prog w) A (Builtin.Re.reTarget "re.Pattern.search" "search" ⟨[.ref 50, .str x t], []⟩) Q E s := by
  unfold Builtin.Re.reTarget
  repeat (any_goals (first | assumption | wp_step))
  have e1 : min (Int.toNat 0) x.cps.size = 0 := Nat.zero_min _
  have e2 : min (Int.toNat (2 ^ 63 - 1)) x.cps.size = x.cps.size := Nat.min_eq_right (by omega)
  show Q { pattern := .ref 50, string := .str x t, code := Array.map (fun x => x.toNat) (Array.map Builtin.Re.reRawOf ((some codeItems).getD #[])), text := x.cps, kind := 0, groups := 0, pos := min (Int.toNat 0) x.cps.size, lim := min (Int.toNat (2 ^ 63 - 1)) x.cps.size } s
  rw [e1, e2, codeItems_eq]
  exact hq
noncomputable def matchObj (x : Str) (t : Tok) (T : Addr) (m' : Sre.M) : Obj := { cls := .type "re.Match", data := .fields #[.str x t, .ref 50, rawInt 0, rawInt x.cps.size, rawInt m'.lastindex, .ref T] }
theorem search_run {x : Str} {t : Tok} {m' : Sre.M} {Q : Fin → Shared → Prop} (hP : s.heap.get? 50 = some patObj) (hC : s.heap.get? 49 = some codeTup) (hsz : x.cps.size ≤ 1000)
    (hd : driveP 200 (Sre.forSearch theCode x.cps 0 0 x.cps.size false) = some m')
    (hq : (m'.outcome = some .failed ∧ Q (.done (.ret .none)) s) ∨ (m'.outcome = some .matched ∧ Q (.done (.ret (.ref (s.heap.objs.size + 1)))) { s with heap := (s.heap.push { cls := .type "tuple", data := .seq #[rawInt m'.start, rawInt m'.handed] 0 }).push (matchObj x t s.heap.objs.size m') })) :
    wpAny (model prog w) A (Builtin.«re.Pattern.search» ⟨[.ref 50, .str x t], []⟩) Q E s := by
  unfold Builtin.«re.Pattern.search»
  refine wpAny_bind (target_run hP hC hsz ?_)
  unfold Builtin.Re.reAnswer
  refine wpAny_bind (wp_toEnd hd ?_)
  rcases hq with ⟨ho, hq⟩ | ⟨ho, hq⟩
  · refine .inr ⟨ho, ?_⟩
    exact wpAny_pure hq
  · refine .inl ⟨ho, ?_⟩
    dsimp only
    unfold Builtin.Re.reNewMatch
    repeat (any_goals (first | assumption | wp_step))
    rw [Heap.size_push]
    exact hq
end
namespace FB
theorem pa_pat : PlainAttrs "re.Pattern" :=
  ⟨⟨"object.__getattribute__", by rw [typeLookup_type, builtinLookup_eq_fast]; kernel_rfl, by decide +kernel⟩, by rw [typeLookup_type, builtinLookup_eq_fast]; kernel_rfl⟩
theorem slot_search : Slot "re.Pattern" "search" "re.Pattern.search" :=
  .of (owner := "re.Pattern") (n := "search") (by rw [typeLookup_type, builtinLookup_eq_fast]; kernel_rfl) (by decide +kernel) (by decide +kernel) (by decide +kernel)
    (by first | exact .inl (by decide +kernel) | exact .inr (by decide +kernel)) (by rw [isSubtype_type]; kernel_rfl)
theorem type_search : typeOf (.builtin "re.Pattern.search") = pure (.type "method_descriptor") := by kernel_rfl
theorem entry_search : entryFor table "re.Pattern.search" = some Builtin.«re.Pattern.search» := entryFor_of_tree (by kernel_rfl)
theorem args_search (a b : Value) : argsOk "re.Pattern.search" ⟨[a, b], []⟩ := by unfold argsOk; kernel_rfl
theorem pa_match : PlainAttrs "re.Match" :=
  ⟨⟨"object.__getattribute__", by rw [typeLookup_type, builtinLookup_eq_fast]; kernel_rfl, by decide +kernel⟩, by rw [typeLookup_type, builtinLookup_eq_fast]; kernel_rfl⟩
theorem slot_span : Slot "re.Match" "span" "re.Match.span" :=
  .of (owner := "re.Match") (n := "span") (by rw [typeLookup_type, builtinLookup_eq_fast]; kernel_rfl) (by decide +kernel) (by decide +kernel) (by decide +kernel)
    (by first | exact .inl (by decide +kernel) | exact .inr (by decide +kernel)) (by rw [isSubtype_type]; kernel_rfl)
theorem type_span : typeOf (.builtin "re.Match.span") = pure (.type "method_descriptor") := by kernel_rfl
theorem entry_span : entryFor table "re.Match.span" = some Builtin.«re.Match.span» := entryFor_of_tree (by kernel_rfl)
theorem args_span (a b : Value) : argsOk "re.Match.span" ⟨[a, b], []⟩ := by unfold argsOk; kernel_rfl
theorem lk_m_bool : typeLookup (.type "re.Match") "__bool__" = pure none := by rw [typeLookup_type, builtinLookup_eq_fast]; kernel_rfl
theorem lk_m_len : typeLookup (.type "re.Match") "__len__" = pure none := by rw [typeLookup_type, builtinLookup_eq_fast]; kernel_rfl
end FB
section
variable {prog : Program} {w : World} {A : Around} {E : Value → Shared → Prop} {s : Shared} {h₀ : Heap} {L : Addr} {m : Str → Option Value} {news : List (Addr × Obj)}
theorem search_method {pl : Sem Bool} {Q : Value × List Value → Shared → Prop} (hP : s.heap.get? 50 = some patObj) (h : Q (.builtin "re.Pattern.search", [.ref 50]) s) :
    wpAny (model prog w) A (getMethod (.ref 50) "search" pl) Q E s :=
  getMethod_builtin (T := "re.Pattern") ⟨_, hP, rfl⟩ FB.pa_pat FB.slot_search FB.type_search (fun a e => by cases e; exact ⟨_, hP, rfl⟩) h
theorem search_none {x : Str} {t : Tok} {m' : Sre.M} {Q : Value → Shared → Prop} (hP : s.heap.get? 50 = some patObj) (hC : s.heap.get? 49 = some codeTup) (hsz : x.cps.size ≤ 1000)
    (hd : driveP 200 (Sre.forSearch theCode x.cps 0 0 x.cps.size false) = some m') (ho : m'.outcome = some .failed) (hq : Q .none s) :
    wpAny (model prog w) A (call (.builtin "re.Pattern.search") [.ref 50, .str x t]) Q E s :=
  wpAny_call (codeAny_call_builtin FB.slot_search.plain FB.entry_search (FB.slot_search.check _ _ _ _ _ _ _ _ (show s.TypeIs (.ref 50) "re.Pattern" from ⟨_, hP, rfl⟩) (FB.args_search _ _) (search_run hP hC hsz hd (.inl ⟨ho, hq⟩))))
theorem search_some {x : Str} {t : Tok} {m' : Sre.M} {Q : Value → Shared → Prop} (hP : s.heap.get? 50 = some patObj) (hC : s.heap.get? 49 = some codeTup) (hsz : x.cps.size ≤ 1000)
    (hd : driveP 200 (Sre.forSearch theCode x.cps 0 0 x.cps.size false) = some m') (ho : m'.outcome = some .matched) (F : Fr h₀ L s.heap m) (N : News h₀ L s.heap news)
    (hq : ∀ M T h', Fr h₀ L h' m → News h₀ L h' ((M, matchObj x t T m') :: (T, { cls := .type "tuple", data := .seq #[rawInt m'.start, rawInt m'.handed] 0 }) :: news) → Q (.ref M) { s with heap := h' }) :
    wpAny (model prog w) A (call (.builtin "re.Pattern.search") [.ref 50, .str x t]) Q E s := by
  refine wpAny_call (codeAny_call_builtin FB.slot_search.plain FB.entry_search (FB.slot_search.check _ _ _ _ _ _ _ _ (show s.TypeIs (.ref 50) "re.Pattern" from ⟨_, hP, rfl⟩) (FB.args_search _ _) (search_run hP hC hsz hd (.inr ⟨ho, ?_⟩))))
  have F1 := F.push { cls := .type "tuple", data := .seq #[rawInt m'.start, rawInt m'.handed] 0 }
  have N1 := News.push F N { cls := .type "tuple", data := .seq #[rawInt m'.start, rawInt m'.handed] 0 }
  have N2 := News.push F1 N1 (matchObj x t s.heap.objs.size m')
  rw [Heap.size_push] at N2
  exact hq _ _ _ (F1.push _) N2
theorem match_truthy {x : Str} {t : Tok} {T M : Addr} {m' : Sre.M} {Q : Bool → Shared → Prop} (hM : s.heap.get? M = some (matchObj x t T m')) (hq : Q true s) : wpAny (model prog w) A (truthy (.ref M)) Q E s := by
  have hT : s.TypeIs (.ref M) "re.Match" := ⟨_, hM, rfl⟩
  have f1 := FB.lk_m_bool
  have f2 := FB.lk_m_len
  unfold truthy
  repeat (any_goals (first | assumption | wp_step))
theorem span_method {x : Str} {t : Tok} {T M : Addr} {m' : Sre.M} {pl : Sem Bool} {Q : Value × List Value → Shared → Prop} (hM : s.heap.get? M = some (matchObj x t T m')) (h : Q (.builtin "re.Match.span", [.ref M]) s) :
    wpAny (model prog w) A (getMethod (.ref M) "span" pl) Q E s :=
  getMethod_builtin (T := "re.Match") ⟨_, hM, rfl⟩ FB.pa_match FB.slot_span FB.type_span (fun a e => by cases e; exact ⟨_, hM, rfl⟩) h
theorem span_run {x : Str} {t u : Tok} {T M : Addr} {m' : Sre.M} {Q : Fin → Shared → Prop} (hM : s.heap.get? M = some (matchObj x t T m')) (hT : s.heap.get? T = some { cls := .type "tuple", data := .seq #[rawInt m'.start, rawInt m'.handed] 0 })
    (hq : Q (.done (.ret (.ref s.heap.objs.size))) { s with heap := s.heap.push { cls := .type "tuple", data := .seq #[.int m'.start s.toks, .int m'.handed (s.toks + 1)] 0 }, toks := s.toks + 1 + 1 }) :
    wpAny (model prog w) A (Builtin.«re.Match.span» ⟨[.ref M, .int 0 u], []⟩) Q E s := by
  unfold Builtin.«re.Match.span» Builtin.Re.reOneGroup
  repeat (any_goals (first | assumption | wp_step))
  have e : Array.map Builtin.Re.reRawOf ((some #[rawInt (m'.start : Int), rawInt (m'.handed : Int)]).getD #[]) = #[(m'.start : Int), (m'.handed : Int)] := by first | rfl | simp [Builtin.Re.reRawOf, rawInt]
  rw [e]
  exact hq
theorem span_call {x : Str} {t u : Tok} {T M : Addr} {m' : Sre.M} {Q : Value → Shared → Prop} (hM : s.heap.get? M = some (matchObj x t T m')) (hT : s.heap.get? T = some { cls := .type "tuple", data := .seq #[rawInt m'.start, rawInt m'.handed] 0 })
    (F : Fr h₀ L s.heap m) (N : News h₀ L s.heap news)
    (hq : ∀ S h' tk t1 t2, Fr h₀ L h' m → News h₀ L h' ((S, { cls := .type "tuple", data := .seq #[.int m'.start t1, .int m'.handed t2] 0 }) :: news) → Q (.ref S) { s with heap := h', toks := tk }) :
    wpAny (model prog w) A (call (.builtin "re.Match.span") [.ref M, .int 0 u]) Q E s :=
  wpAny_call (codeAny_call_builtin FB.slot_span.plain FB.entry_span (FB.slot_span.check _ _ _ _ _ _ _ _ (show s.TypeIs (.ref M) "re.Match" from ⟨_, hM, rfl⟩) (FB.args_span _ _) (span_run hM hT (hq _ _ _ _ _ (F.push _) (News.push F N _)))))
end
namespace FB
theorem lk_string : typeLookup (.type "re.Match") "string" = pure (some (.builtin "re.Match.string")) := by rw [typeLookup_type, builtinLookup_eq_fast]; kernel_rfl
theorem lk_m_ga : typeLookup (.type "re.Match") "__getattribute__" = pure (some (.builtin "object.__getattribute__")) := by rw [typeLookup_type, builtinLookup_eq_fast]; kernel_rfl
theorem type_string : typeOf (.builtin "re.Match.string") = pure (.type "member_descriptor") := by kernel_rfl
theorem slot_mb_get : Slot "member_descriptor" "__get__" "member_descriptor.__get__" :=
  .of (owner := "member_descriptor") (n := "__get__") (by rw [typeLookup_type, builtinLookup_eq_fast]; kernel_rfl) (by decide +kernel) (by decide +kernel) (by decide +kernel)
    (by first | exact .inl (by decide +kernel) | exact .inr (by decide +kernel)) (by rw [isSubtype_type]; kernel_rfl)
theorem slot_mb_set : Slot "member_descriptor" "__set__" "member_descriptor.__set__" :=
  .of (owner := "member_descriptor") (n := "__set__") (by rw [typeLookup_type, builtinLookup_eq_fast]; kernel_rfl) (by decide +kernel) (by decide +kernel) (by decide +kernel)
    (by first | exact .inl (by decide +kernel) | exact .inr (by decide +kernel)) (by rw [isSubtype_type]; kernel_rfl)
theorem entry_mb_get : entryFor table "member_descriptor.__get__" = some Builtin.«member_descriptor.__get__» := entryFor_of_tree (by kernel_rfl)
theorem args_mb_get (a b c : Value) : argsOk "member_descriptor.__get__" ⟨[a, b, c], []⟩ := by unfold argsOk; kernel_rfl
theorem entry_string : entryFor table "re.Match.string" = some Builtin.«re.Match.string» := entryFor_of_tree (by kernel_rfl)
end FB
end Y33
end
section
open PySem PySem.W PyProof.Rows PySem.Calls
set_option Elab.async false
set_option maxRecDepth 100000
namespace Y33
namespace FB
theorem slot_m_ga : Slot "re.Match" "__getattribute__" "object.__getattribute__" :=
  .of (owner := "object") (n := "__getattribute__") (by rw [typeLookup_type, builtinLookup_eq_fast]; kernel_rfl) (by decide +kernel) (by decide +kernel) (by decide +kernel)
    (by first | exact .inl (by decide +kernel) | exact .inr (by decide +kernel)) (by rw [isSubtype_type]; kernel_rfl)
theorem entry_o_ga : entryFor table "object.__getattribute__" = some Builtin.«object.__getattribute__» := entryFor_of_tree (by kernel_rfl)
theorem args_o_ga (a b : Value) : argsOk "object.__getattribute__" ⟨[a, b], []⟩ := by unfold argsOk; kernel_rfl
end FB
section
variable {prog : Program} {w : World} {A : Around} {E : Value → Shared → Prop} {s : Shared} {h₀ : Heap} {L : Addr} {m : Str → Option Value} {news : List (Addr × Obj)}
theorem string_ga {x : Str} {t tk : Tok} {T M : Addr} {m' : Sre.M} {Q : Fin → Shared → Prop} (hM : s.heap.get? M = some (matchObj x t T m')) (hq : Q (.done (.ret (.str x t))) s) :
    wpAny (model prog w) A (Builtin.«object.__getattribute__» ⟨[.ref M, .str "string" tk], []⟩) Q E s := by
  have hT : s.TypeIs (.ref M) "re.Match" := ⟨_, hM, rfl⟩
  have f4 := FB.lk_string
  have f5 := FB.type_string
  have f6 := FB.slot_mb_get.lookup
  have f7 := FB.slot_mb_set.lookup
  unfold matchObj at hM
  repeat (any_goals (first | assumption | wp_step))
  have hT5 : s.TypeIs (.builtin "re.Match.string") "member_descriptor" := FB.type_string
  have f8 : isSubtype (.type "re.Match") (.type (".".intercalate ("re.Match.string".cutAt '.').dropLast)) = pure true := by
    rw [show (".".intercalate ("re.Match.string".cutAt '.').dropLast) = "re.Match" from by
      have e0 : "re.Match.string".cutAt '.' = ["re", "Match", "string"] := by first | rfl | decide +kernel
      rw [e0]; decide +kernel, isSubtype_type]; kernel_rfl
  refine codeAny_call_builtin FB.slot_mb_get.plain FB.entry_mb_get (FB.slot_mb_get.check _ _ _ _ _ _ _ _ hT5 (FB.args_mb_get _ _ _) ?_)
  unfold Builtin.«member_descriptor.__get__»
  repeat (any_goals (first | assumption | wp_step))
  refine ⟨Code.quiet_builtin _ (by decide +kernel), codeAny_builtin FB.entry_string ?_⟩
  unfold Builtin.«re.Match.string»
  repeat (any_goals (first | assumption | wp_step))
theorem if_not' {α : Type} {M : Model} {A : Around} {E : Value → Shared → Prop} {s : Shared} {c : Bool} {a b : Sem α} {Q : α → Shared → Prop} (hc : c = false) (h : wpAny M A b Q E s) : wpAny M A (if c = true then a else b) Q E s := by
  subst hc; exact h
theorem string_attr {x : Str} {t : Tok} {T M : Addr} {m' : Sre.M} {ex : Bool} {Q : Value → Shared → Prop} (hM : s.heap.get? M = some (matchObj x t T m')) (hq : ∀ tk, Q (.str x t) { s with toks := tk }) :
    wpAny (model prog w) A (getAttr (.ref M) "string" ex) Q E s := by
  have hT : s.TypeIs (.ref M) "re.Match" := ⟨_, hM, rfl⟩
  have f2 := FB.slot_m_ga.lookup
  have f3 := FB.slot_m_ga.bind (.ref M)
  unfold matchObj at hM
  unfold getAttr getAttrBy
  repeat (any_goals (first | assumption | wp_step))
  refine if_not' (Bool.and_false ex) ?_
  repeat (any_goals (first | assumption | wp_step))
  have hM' : s.heap.get? M = some (matchObj x t T m') := hM
  refine codeAny_call_builtin FB.slot_m_ga.plain FB.entry_o_ga (FB.slot_m_ga.check _ _ _ _ _ _ _ _ (show Shared.TypeIs _ (.ref M) "re.Match" from ⟨_, hM', rfl⟩) (FB.args_o_ga _ _) (string_ga (x := x) (t := t) (T := T) (m' := m') hM' ?_))
  repeat (any_goals (first | assumption | wp_step))
  all_goals exact hq _
end
end Y33
end
section
open PySem PySem.W PyProof.Rows PySem.Calls
set_option Elab.async false
set_option maxRecDepth 100000
namespace Y33
abbrev C (w : World) (loose : List Str) (mean : ExcName → Option Value) (mg mb : Str → Option Value) (f : Addr) (vs : List Value) (news : List (Addr × Obj)) (need : Nat)
   (R : (h₀ : Heap) → (L : Addr) → (m : Str → Option Value) → (Value → Heap → Nat → Prop) → Prop) : Prop :=
  ∀ (dp un : Nat) (gd : Option (List Code)) (cn : Str) (cs : Scope) (a : Addr) (ccd : Value) (cl : List (Str × Addr)) (outer : List Env) (A₀ : Around) (base h₀ : Heap) (L : Addr) (m : Str → Option Value) (s : Shared) (Q E : Value → Shared → Prop),
    Below A₀ base outer h₀ → Fr h₀ L s.heap m → (Y33.hd.heap_1 w.params).In h₀ → News h₀ L s.heap news → Top Y33.hd.view_1 loose mean mg mb h₀ → cs.kind = .function →
    dp + need < recursionLimit → un + 8 * need < cLine → R h₀ L m (fun v h' tk' => Q v { s with heap := h', toks := tk' }) →
      wpAny (model Challenge.rw_yf0033_01.row.prog w) (ktrTop dp un gd cn cs L a ccd cl outer) (call (.ref f) vs) Q E s
end Y33
namespace Y33
inductive DAre : List (Int × Value) → List (Int × Int) → Prop
  | nil : DAre [] []
  | cons (k x : Int) (t : Tok) {kvs ds} : DAre kvs ds → DAre ((k, .int x t) :: kvs) ((k, x) :: ds)
theorem DAre.length {kvs : List (Int × Value)} {ds : List (Int × Int)} (h : DAre kvs ds) : kvs.length = ds.length := by
  induction h with
  | nil => rfl
  | cons _ _ _ _ ih => exact congrArg Nat.succ ih
theorem DAre.get {kvs : List (Int × Value)} {ds : List (Int × Int)} (h : DAre kvs ds) : ∀ {i : Nat} {k : Int} {v : Value}, kvs[i]? = some (k, v) → ∃ x t, ds[i]? = some (k, x) ∧ v = .int x t := by
  induction h with
  | nil => intro i k v e; cases e
  | cons k x t _ ih =>
    intro i k' v e
    cases i with
    | zero => cases e; exact ⟨x, t, rfl, rfl⟩
    | succ i => exact ih e
abbrev IDict (w : World) (o : Obj) (kvs : List (Int × Value)) : Prop := o.IsDictOf (intKind Challenge.rw_yf0033_01.row.prog w) kvs
end Y33
namespace Y33
noncomputable def putS (ds : List (Int × Int)) (k x : Int) : List (Int × Int) :=
  if ds.any (fun p => p.1 = k) then ds.map (fun p => if p.1 = k then (p.1, x) else p) else ds ++ [(k, x)]
noncomputable def getS (ds : List (Int × Int)) (k : Int) : Option Int := (ds.find? fun p => p.1 = k).map (·.2)
theorem DAre.any {kvs : List (Int × Value)} {ds : List (Int × Int)} (h : DAre kvs ds) (k : Int) : kvs.any (fun p => p.1 = k) = ds.any (fun p => p.1 = k) := by
  induction h with
  | nil => rfl
  | cons a x t _ ih => rw [List.any_cons, List.any_cons, ih]
theorem DAre.append1 {kvs : List (Int × Value)} {ds : List (Int × Int)} (h : DAre kvs ds) (k x : Int) (t : Tok) : DAre (kvs ++ [(k, .int x t)]) (ds ++ [(k, x)]) := by
  induction h with
  | nil => exact .cons k x t .nil
  | cons a y u _ ih => exact .cons a y u ih
theorem DAre.mapAt {kvs : List (Int × Value)} {ds : List (Int × Int)} (h : DAre kvs ds) (k x : Int) (t : Tok) : DAre (kvs.map fun p => if p.1 = k then (p.1, .int x t) else p) (ds.map fun p => if p.1 = k then (p.1, x) else p) := by
  induction h with
  | nil => exact .nil
  | cons a y u _ ih =>
    by_cases e : a = k
    · simp only [List.map_cons, e, if_true]; exact .cons _ _ _ ih
    · simp only [List.map_cons, e, if_false]; exact .cons _ _ _ ih
theorem DAre.stored {kvs : List (Int × Value)} {ds : List (Int × Int)} (h : DAre kvs ds) (k x : Int) (t : Tok) : DAre (stored kvs k (.int x t)) (putS ds k x) := by
  unfold PySem.stored putS
  rw [h.any k]
  split
  · exact h.mapAt k x t
  · exact h.append1 k x t
theorem DAre.valueAt {kvs : List (Int × Value)} {ds : List (Int × Int)} (h : DAre kvs ds) (k : Int) : (valueAt kvs k = none ∧ getS ds k = none) ∨ ∃ y t, valueAt kvs k = some (.int y t) ∧ getS ds k = some y := by
  induction h with
  | nil => exact .inl ⟨rfl, rfl⟩
  | cons a y u _ ih =>
    by_cases e : a = k
    · exact .inr ⟨y, u, by simp [PySem.valueAt, e], by simp [getS, e]⟩
    · simpa [PySem.valueAt, getS, e] using ih
theorem putS_length (ds : List (Int × Int)) (k x : Int) : (putS ds k x).length ≤ ds.length + 1 := by
  unfold putS; split <;> simp
noncomputable def addStep (acc : List (Int × Int)) (p : Int × Int) : List (Int × Int) := match getS acc p.1 with
  | some y => putS acc p.1 (y + p.2)
  | none => putS acc p.1 p.2
theorem addStep_length (acc : List (Int × Int)) (p : Int × Int) : (addStep acc p).length ≤ acc.length + 1 := by
  unfold addStep; split <;> exact putS_length _ _ _
noncomputable def copyS (ds : List (Int × Int)) : List (Int × Int) := ds.foldl (fun a p => putS a p.1 p.2) []
noncomputable def addS (ds es : List (Int × Int)) : List (Int × Int) := es.foldl addStep (copyS ds)
theorem copyS_take {ds : List (Int × Int)} {i : Nat} {k x : Int} (h : ds[i]? = some (k, x)) : copyS (ds.take (i + 1)) = putS (copyS (ds.take i)) k x := by
  rw [List.take_add_one, h]; simp [copyS]
theorem copyS_length (ds : List (Int × Int)) : (copyS ds).length ≤ ds.length := by
  have : ∀ (l a : List (Int × Int)), (l.foldl (fun a p => putS a p.1 p.2) a).length ≤ a.length + l.length := by
    intro l
    induction l with
    | nil => intro a; exact Nat.le_refl _
    | cons p l ih => intro a; have h1 := ih (putS a p.1 p.2); have h2 := putS_length a p.1 p.2; simp only [List.foldl_cons, List.length_cons]; omega
  have h := this ds []; simpa [copyS] using h
theorem addS_take {ds es : List (Int × Int)} {i : Nat} {k x : Int} (h : es[i]? = some (k, x)) : addS ds (es.take (i + 1)) = addStep (addS ds (es.take i)) (k, x) := by
  rw [List.take_add_one, h]; simp [addS]
theorem addS_length (ds es : List (Int × Int)) : (addS ds es).length ≤ ds.length + es.length := by
  have : ∀ (l a : List (Int × Int)), (l.foldl addStep a).length ≤ a.length + l.length := by
    intro l
    induction l with
    | nil => intro a; exact Nat.le_refl _
    | cons p l ih => intro a; have h1 := ih (addStep a p); have h2 := addStep_length a p; simp only [List.foldl_cons, List.length_cons]; omega
  have h1 := this es (copyS ds)
  have h2 := copyS_length ds
  unfold addS; omega
end Y33
namespace Y33
theorem foldl_app_size : ∀ (n : Nat) (c a : Array Nat), ((List.replicate n c).foldl (· ++ ·) a).size = a.size + n * c.size
  | 0, c, a => by simp
  | n + 1, c, a => by rw [List.replicate_succ, List.foldl_cons, foldl_app_size n c (a ++ c), Array.size_append, Nat.succ_mul]; omega
theorem mul_len (x : Str) {n : Int} {k : Nat} (h1 : n ≤ (k : Int)) (hk : 1 ≤ k) : (Txt.mul x n).length ≤ k * x.length := by
  unfold Txt.mul
  split
  · show 0 ≤ _; exact Nat.zero_le _
  · split
    · exact Nat.le_mul_of_pos_left _ hk
    · show ((List.replicate n.toNat x.cps).foldl (· ++ ·) #[]).size ≤ k * x.cps.size
      rw [foldl_app_size]
      simp only [Array.size_empty, Nat.zero_add]
      exact Nat.mul_le_mul_right _ (by omega)
noncomputable def leadS (a b c : Int) : Str :=
  (let l := Txt.mul (Str.ofString " ") a ++ Str.ofString "\t"
   if b < 4 then l ++ (Txt.mul (Str.ofString " ") b ++ Str.ofString "\t") else l) ++ Txt.mul (Str.ofString " ") c ++ Str.ofString "x \t"
noncomputable def leadOf (x : Int) : Str := leadS (x.fmod 4) ((x.fdiv 4).fmod 5) ((x.fdiv 20).fmod 2)
theorem fm_lo (x : Int) {n : Int} (h : 0 < n) : 0 ≤ x.fmod n := Int.fmod_nonneg_of_pos x h
theorem fm_hi (x : Int) {n : Int} (h : 0 < n) : x.fmod n < n := Int.fmod_lt_of_pos x h
end Y33
namespace Y33
noncomputable def ordS (i : Int) : List Int := [[0,1,2],[1,2,0],[2,0,1],[2,1,0],[0,2,1],[1,0,2]].getD i.toNat []
noncomputable def posts0 (i j k : Int) : List Int :=
  let o := ordS i
  ([3, 3, 3].set (o.getD 1 0).toNat ([3, o.getD 0 0].getD j.toNat 0)).set (o.getD 2 0).toNat ([3, o.getD 0 0, o.getD 1 0].getD k.toNat 0)
noncomputable def postsS (x : Int) : List Int := posts0 (x.fmod 6) ((x.fdiv 6).fmod 2) ((x.fdiv 12).fmod 3)
end Y33
namespace Y33
theorem ne_of_allLt {d : Addr} {l : List (Addr × Obj)} (h : AllLt d l) : ∀ p ∈ l, p.1 ≠ d := fun p hp e => absurd (ktn_ltOf h p hp) (e ▸ Nat.lt_irrefl _)
theorem ne_of_lts {d : Addr} {l : List (Addr × Obj)} (h : ∀ p ∈ l, p.1 < d) : ∀ p ∈ l, p.1 ≠ d := fun p hp e => absurd (h p hp) (e ▸ Nat.lt_irrefl _)
end Y33
namespace Y33
theorem news_pick {h₀ h : Heap} {L a : Addr} {o : Obj} {all news : List (Addr × Obj)} (N : News h₀ L h all) (hm : (a, o) ∈ all) (hs : ∀ p ∈ news, p ∈ all) : News h₀ L h ((a, o) :: news) := fun p hp => by
  rcases List.mem_cons.mp hp with rfl | hp
  · exact N _ hm
  · exact N _ (hs p hp)
end Y33
namespace Y33
noncomputable def tags : List Str := [Str.ofString ".7", Str.ofString ".10", Str.ofString ".204"]
noncomputable def nameStep (ps : List Int) (c : Str × Int) : Str × Int := if c.2 < 3 then (tags.getD c.2.toNat Str.empty ++ c.1, ps.getD c.2.toNat 0) else c
noncomputable def nameIt (ps : List Int) (p : Int) : Nat → Str × Int
  | 0 => (Str.ofString "", p)
  | i + 1 => nameStep ps (nameIt ps p i)
noncomputable def nameOf (ps : List Int) (p : Int) : Str := if ((nameIt ps p 3).2 == 3) = true then Str.ofString ".7.x" ++ (nameIt ps p 3).1 ++ Str.ofString "\n" else Str.ofString ""
noncomputable def namesS (ps : List Int) : List Str := [nameOf ps 0, nameOf ps 1, nameOf ps 2]
theorem tag_len (k : Nat) : (tags.getD k Str.empty).length ≤ 4 := by
  match k with
  | 0 => decide +kernel
  | 1 => decide +kernel
  | 2 => decide +kernel
  | k + 3 => exact Nat.zero_le _
noncomputable def InR (ns : List Int) : Prop := ns.length = 3 ∧ ∀ i : Nat, 0 ≤ ns.getD i 0 ∧ ns.getD i 0 ≤ 3
theorem nameIt_in {ps : List Int} (h : InR ps) {p : Int} (h0 : 0 ≤ p) (h3 : p ≤ 3) : ∀ i, 0 ≤ (nameIt ps p i).2 ∧ (nameIt ps p i).2 ≤ 3 ∧ (nameIt ps p i).1.length ≤ 4 * i
  | 0 => ⟨h0, h3, by show (Str.ofString "").length ≤ 0; decide +kernel⟩
  | i + 1 => by
    have := nameIt_in h h0 h3 i
    show 0 ≤ (nameStep ps (nameIt ps p i)).2 ∧ (nameStep ps (nameIt ps p i)).2 ≤ 3 ∧ (nameStep ps (nameIt ps p i)).1.length ≤ 4 * (i + 1)
    unfold nameStep
    split
    · refine ⟨(h.2 _).1, (h.2 _).2, ?_⟩
      rw [Str.length_append]
      have := tag_len (nameIt ps p i).2.toNat
      omega
    · exact ⟨this.1, this.2.1, by omega⟩
theorem strsAre_snoc {vs : List Value} {xs : List Str} (h : StrsAre vs xs) (x : Str) (t : Tok) : StrsAre (vs ++ [.str x t]) (xs ++ [x]) := by
  induction h with
  | nil => exact .cons _ _ .nil
  | cons y u _ ih => exact .cons y u ih


theorem strsAre_getD {vs : List Value} {xs : List Str} (h : StrsAre vs xs) : ∀ {i : Nat}, i < xs.length → ∃ t, vs[i]? = some (.str (xs.getD i Str.empty) t) := by
  induction h with
  | nil => intro i h; cases h
  | cons x t _ ih =>
    intro i e
    cases i with
    | zero => exact ⟨t, rfl⟩
    | succ i => exact ih (Nat.lt_of_succ_lt_succ e)
section
variable {prog : Program} {w : World} {A : Around} {E : Value → Shared → Prop} {s : Shared} {h₀ : Heap} {L : Addr} {news : List (Addr × Obj)}
theorem item_strs {value slice : PySem.Expr} {l : Addr} {vs : List Value} {xs : List Str} {n : Nat} {k : Int} {u : Tok} {Q : Value → Shared → Prop} (N : News h₀ L s.heap news)
    (hm : (l, W.listOf vs.toArray n) ∈ news) (hi : StrsAre vs xs) (h0 : 0 ≤ k) (h1 : k < xs.length) (hfit : k < 2 ^ 63) (h : ∀ t, Q (.str (xs.getD k.toNat Str.empty) t) s)
    (hs : subscripted slice false (.ref l) (.int k u) = operate [.ref l, .int k u] (getItem (.ref l) (.int k u)) := by with_unfolding_all rfl) :
    wpAny (model prog w) A (subscriptTail value slice (.ref l) (.int k u)) Q E s := by
  obtain ⟨t, hx⟩ := strsAre_getD hi (i := k.toNat) (by omega)
  exact item_litK (PySem.IsL.isList (n := n) (N _ hm).1) h0 hfit hx (h t) hs
end
theorem len3 {α : Type} {l : List α} (h : l.length = 3) : ∃ a b c, l = [a, b, c] := by
  match l, h with
  | [a, b, c], _ => exact ⟨_, _, _, rfl⟩
theorem len4 {α : Type} {l : List α} (h : l.length = 4) : ∃ a b c d, l = [a, b, c, d] := by
  match l, h with
  | [a, b, c, d], _ => exact ⟨_, _, _, _, rfl⟩
theorem len5 {α : Type} {l : List α} (h : l.length = 5) : ∃ a b c d e, l = [a, b, c, d, e] := by
  match l, h with
  | [a, b, c, d, e], _ => exact ⟨_, _, _, _, _, rfl⟩
theorem ints_cons {us : List Value} {c : Int} {cs : List Int} (h : IntsAre us (c :: cs)) : ∃ t u, us = .int c t :: u ∧ IntsAre u cs := by
  cases h with
  | cons _ t h => exact ⟨t, _, rfl, h⟩
theorem ints5 {us : List Value} {c0 c1 c2 c3 c4 : Int} (h : IntsAre us [c0, c1, c2, c3, c4]) : ∃ t0 t1 t2 t3 t4, us = [.int c0 t0, .int c1 t1, .int c2 t2, .int c3 t3, .int c4 t4] := by
  obtain ⟨t0, _, rfl, h0⟩ := ints_cons h
  obtain ⟨t1, _, rfl, h1⟩ := ints_cons h0
  obtain ⟨t2, _, rfl, h2⟩ := ints_cons h1
  obtain ⟨t3, _, rfl, h3⟩ := ints_cons h2
  obtain ⟨t4, _, rfl, h4⟩ := ints_cons h3
  cases h4
  exact ⟨_, _, _, _, _, rfl⟩
end Y33
end
section
open PySem PySem.W PyProof.Rows PySem.Calls
set_option Elab.async false
set_option maxRecDepth 100000
namespace Y33
section
variable {prog : Program} {w : World} {A : Around} {E : Value → Shared → Prop} {s : Shared} {h₀ : Heap} {L : Addr} {m : Str → Option Value} {news : List (Addr × Obj)}
theorem lenL {l : Addr} {vs : List Value} {n : Nat} {Q : Value → Shared → Prop} (N : News h₀ L s.heap news) (hm : (l, W.listOf vs.toArray n) ∈ news) (hz : vs.length < 1048576)
   (h : ∀ t tk, Q (.int vs.length t) { s with toks := tk }) : wpAny (model prog w) A (call (.builtin "len") [.ref l]) Q E s := by
  refine Calls.call_len_list (PySem.IsL.isList (n := n) (N _ hm).1) (by rw [List.size_toArray]; omega) ?_
  rw [List.size_toArray]
  exact h _ _
theorem addL {l b : Addr} {vs ws : List Value} {n n' : Nat} {Q : Value → Shared → Prop} (F : Fr h₀ L s.heap m) (N : News h₀ L s.heap news) (hm : (l, W.listOf vs.toArray n) ∈ news) (hm' : (b, W.listOf ws.toArray n') ∈ news)
    (hsz : vs.length + ws.length ≤ 1048576)
    (h : ∀ h' r, Fr h₀ L h' m → News h₀ L h' ((r, W.listOf (vs ++ ws).toArray 0) :: news) → (∀ p ∈ news, p.1 < r) → Q (.ref r) { s with heap := h' }) :
    wpAny (model prog w) A (binaryOp .Add (.ref l) (.ref b)) Q E s := by
  refine PyProof.Rows.add_lists F N (PySem.IsL.isList (n := n) (N _ hm).1) (PySem.IsL.isList (n := n') (N _ hm').1) (fun h' F' N' => h h' _ F' N' fun p hp => Heap.lt_size (N p hp).1) ?_
  rw [PySem.sizeLine_eq]; omega
end
end Y33
end
section
open PySem PySem.W PyProof.Rows PySem.Calls
set_option Elab.async false
set_option maxRecDepth 100000
namespace Y33
theorem KTT.range {prog : Program} {w : World} {A : Around} {x : Str} {px : Pos} (hh : A.handled = none) (I : Addr) (a : Int) (n : Nat) :
    KTT prog w A (.Name x px) I [I] [I] n (fun i v _ lo hi => i < n ∧ ∃ t : Nat, v = .int (a + (i : Int)) t ∧ lo ≤ t ∧ t < hi)
      (fun i v h lo hi => (i < n ∧ ∃ t : Nat, v = .int (a + (i : Int)) t ∧ lo ≤ t ∧ t < hi) ∧ IsRangeIter h I (a + ((i + 1 : Nat) : Int)) ((n : Int) - ((i + 1 : Nat) : Int)) 1) (fun i h => IsRangeIter h I (a + (i : Nat)) ((n : Int) - (i : Nat)) 1) where
  sub := fun _ hb => hb
  frame := fun _ _ _ st hk => hk I (by simp) _ st
  item := fun i s Q E hi st hQ => by
    refine wpAny_pyNext_range_item st (by omega) fun h' hit' hs' => ?_
    refine hQ _ h' _ (Nat.le_succ _) ⟨⟨hi, _, rfl, Nat.le_refl _, Nat.lt_succ_self _⟩, ?_⟩ fun b o hb e => hs'.extBut b o (fun h => hb (by simp [h])) e
    have e1 : a + ((i + 1 : Nat) : Int) = a + (i : Int) + 1 := by omega
    have e2 : (n : Int) - ((i + 1 : Nat) : Int) = (n : Int) - (i : Int) - 1 := by omega
    rw [e1, e2]; exact hit'
  go := fun i v lo hi s Q E hm hQ => wpAny_pure (hQ s.heap hm.1 hm.2 fun _ _ _ e => e)
  done := fun s Q E st hQ => wpAny_pyNext_range_end hh st (by omega) fun h' he' => hQ h' s.toks (Nat.le_refl _) fun b o hb e => he' b o (fun h => hb (by simp [h])) e
theorem KTT.enum {prog : Program} {w : World} {A : Around} {elts : List Expr} {k : Nat} {pos : Pos} (hh : A.handled = none) (e it l : Addr) (hei : e ≠ it) (hle : l ≠ e) (hli : l ≠ it) (items : Array Value) :
    KTT prog w A (.Tuple elts k pos) e [e, it, l] [e, it] items.size
      (fun i v h lo hi => ∃ (T : Addr) (t : Nat) (x : Value), v = .ref T ∧ items[i]? = some x ∧ IsTup h T #[.int i t, x] ∧ lo ≤ t ∧ t < hi)
      (fun i v h lo hi => ∃ (T : Addr) (t : Nat) (x : Value), v = .ref T ∧ items[i]? = some x ∧ IsTup h T #[.int i t, x] ∧ lo ≤ t ∧ t < hi ∧ (∃ x, IsEnumOut h e it ((i : Int) + 1) x T) ∧ h.IsListIter it l (i + 1) ∧ h.IsList l items ∧ T ≠ e ∧ T ≠ it)
      (fun i h => (∃ old, IsEnum h e it i old) ∧ h.IsListIter it l i ∧ h.IsList l items) where
  sub := fun b hb => by
    rcases List.mem_cons.mp hb with rfl | hb
    · exact List.mem_cons_self ..
    · exact List.mem_cons_of_mem _ (by rcases List.mem_cons.mp hb with rfl | hb; exact List.mem_cons_self ..; cases hb)
  frame := fun i h h' hst hk => by
    obtain ⟨⟨old, he⟩, hit, hl⟩ := hst
    exact ⟨⟨old, hk e (by simp) _ he⟩, hit.at fun o x => hk it (by simp) o x, hl.at fun o x => hk l (by simp) o x⟩
  item := fun i s Q E hi hst hQ => by
    obtain ⟨⟨old, he⟩, hit, hl⟩ := hst
    have hx : items[i]? = some items[i] := Array.getElem?_eq_getElem hi
    refine wpAny_pyNext_enum_item he hit hl hx hei fun h' ho hit' hT hsz hk => ?_
    have helt : e < s.heap.objs.size := Heap.lt_size he
    have hilt : it < s.heap.objs.size := by obtain ⟨_, x, _⟩ := hit; exact Heap.lt_size x
    exact hQ (.ref s.heap.objs.size) h' (s.toks + 1) (Nat.le_succ _) ⟨_, _, _, rfl, hx, ⟨_, hT, rfl, _, rfl⟩, Nat.le_refl _, Nat.lt_succ_self _, ⟨_, ho⟩, hit', hl.at fun o x => hk l o hle hli x, Nat.ne_of_gt helt, Nat.ne_of_gt hilt⟩
      fun b o hb x => hk b o (fun e' => hb (by simp [e'])) (fun e' => hb (by simp [e'])) x
  go := fun i v lo hi s Q E hm hQ => by
    obtain ⟨T, t, x, rfl, hx, hT, h1, h2, ⟨y, ho⟩, hit, hl, hTe, hTi⟩ := hm
    refine wpAny_letOwnedTupleGo_enum ho fun h' he' hs' => hQ h' ⟨T, t, x, rfl, hx, ?_, h1, h2⟩ ⟨⟨y, by simpa using he'⟩, hit.at fun o y => (hs'.2 it hei.symm).trans y, hl.at fun o y => (hs'.2 l hle).trans y⟩ fun b o hb y => ?_
    · obtain ⟨o, ho', r⟩ := hT; exact ⟨o, (hs'.2 T hTe).trans ho', r⟩
    · exact (hs'.2 b fun e' => hb (by simp [e'])).trans y
  done := fun s Q E hst hQ => by
    obtain ⟨⟨old, he⟩, hit, hl⟩ := hst
    exact wpAny_pyNext_enum_end hh he hit hl (Array.getElem?_eq_none (Nat.le_refl _)) fun h' hx => hQ h' s.toks (Nat.le_refl _) fun b o hb y => hx b o (fun e' => hb (by simp [e'])) y

section
variable {prog : Program} {w : World} {A : Around} {E : Value → Shared → Prop} {s : Shared} {env : Env} {h₀ : Heap} {target : Expr} {body orelse : List Stmt} {Q : Flow → Shared → Prop}
theorem x_nameT {σ : Type} {Led : σ → List (Addr × Obj)} {ps : σ → List (Str × Value)} {x : Str} {px : Pos} {its : List (Addr × Obj)} {P' : σ → Nat → Prop} {v : Value} {m₁ : Str → Option Value} {h : Heap} {tk : Nat} {c : σ}
    (hx : env.kindOf x = some .local) (hp : (env.scope.kind == .class || (env.scope.kind == .module && env.locals != env.globals)) = false)
    (F : Fr h₀ env.locals h (mapB m₁ (ps c))) (N : News h₀ env.locals h (its ++ Led c))
    (turn : ∀ h tk', tk ≤ tk' → Fr h₀ env.locals h (fun y => if y = x then some v else mapB m₁ (ps c) y) → News h₀ env.locals h (its ++ Led c) →
      wpAny (model prog w) A (execs body env) (TPostT h₀ env.locals Led ps its P' { s with heap := h, toks := tk' } Q) E { s with heap := h, toks := tk' }) :
    wpAny (model prog w) A (assign (.Name x px) env v) (fun _ s₂ => wpAny (model prog w) A (execs body env) (TPostT h₀ env.locals Led ps its P' { s with heap := h, toks := tk } Q) E s₂) E { s with heap := h, toks := tk } := by
  refine wpAny_assign_Name (wpAny_storeName_local hx F.ns (fun h₂ hn₂ hs₂ => ?_) hp)
  exact turn h₂ (tk + 1) (Nat.le_succ _) (F.set hn₂ hs₂) (N.set hs₂)
end

section
variable {prog : Program} {w : World} {A : Around} {E : Value → Shared → Prop} {s : Shared} {env : Env} {h₀ : Heap} {x : Str} {px : Pos} {target : Expr} {body orelse : List Stmt} {Q : Flow → Shared → Prop}
theorem x_listT {σ : Type} {l : Addr} {vs : List Value} {k : Nat} {m₀ : Str → Option Value} (Led : σ → List (Addr × Obj)) (ps : σ → List (Str × Value)) (Pc : Nat → σ → Nat → Prop) (c₀ : σ)
    (hh : A.handled = none) (hl : ∀ c, (l, W.listOf vs.toArray k) ∈ Led c)
    (hx : env.kindOf x = some .local) (hpm : (env.scope.kind == .class || (env.scope.kind == .module && env.locals != env.globals)) = false)
    (F : Fr h₀ env.locals s.heap m₀) (N : News h₀ env.locals s.heap (Led c₀)) (hk : ∀ p ∈ ps c₀, m₀ p.1 = some p.2) (hP : Pc 0 c₀ s.toks)
    (turn : ∀ (c : σ) (i : Nat) v m₁ h lo tk I oI, vs[i]? = some v → Pc i c lo → lo ≤ tk → oI.cls = .type "list_iterator" → (∀ p ∈ Led c, p.1 ≠ I) →
      Fr h₀ env.locals h (fun y => if y = x then some v else mapB m₁ (ps c) y) → News h₀ env.locals h ((I, oI) :: Led c) →
      wpAny (model prog w) A (execs body env) (TPostT h₀ env.locals Led ps [(I, oI)] (Pc (i + 1)) { s with heap := h, toks := tk } Q) E { s with heap := h, toks := tk })
    (done : ∀ (c : σ) m₁ h lo tk, Pc vs.length c lo → lo ≤ tk → Fr h₀ env.locals h (mapB m₁ (ps c)) → News h₀ env.locals h (Led c) → wpAny (model prog w) A (execs orelse env) Q E { s with heap := h, toks := tk }) :
    wpAny (model prog w) A (pyIter (.ref l)) (fun it s₂ => XL prog w A env (.Name x px) body orelse Q E it s₂) E s := by
  have hls : s.heap.IsList l vs.toArray := ⟨_, (N _ (hl c₀)).1, rfl, _, rfl⟩
  have hfpl : (∃ o, ∀ c, (l, o) ∈ Led c) ∨ ∃ o, h₀.get? l = some o := .inl ⟨_, hl⟩
  have hLl : env.locals ≠ l := fun e => (N _ (hl c₀)).2.1 e.symm
  obtain ⟨ol, hol, _⟩ := id hls
  have hne : l ≠ s.heap.objs.size := Nat.ne_of_lt (Heap.lt_size hol)
  refine wpAny_pyIter_list hls ?_
  have W := Walks.list (prog := prog) (w := w) hh s.heap.objs.size l hne vs.toArray
  have hz : vs.toArray.size = vs.length := by simp
  rw [hz] at W
  refine x_coreT (tk0 := s.toks) (ws := [(s.heap.objs.size, "list_iterator")]) Led ps Pc c₀ (KTT.ofK (KTurns.ofWalks (target := .Name x px) W fun i v s Q E st q => wpAny_pure q)) ?_ ?_ ?_ ?_ ?_ ?_ ⟨⟨_, Heap.get?_push_size _ rfl, rfl, rfl⟩, hls.at fun o e => Heap.get?_push_of_some _ e⟩ (F.push _) (fun p hp => ⟨Heap.get?_push_of_some _ (N p hp).1, (N p hp).2⟩) hk hP ?_ done
  · rintro i h ⟨⟨o, ho, hc, _⟩, _⟩; exact ⟨[(s.heap.objs.size, o)], ⟨⟨rfl, hc⟩, trivial⟩, fun p hp => by rw [List.mem_singleton.mp hp]; exact ho⟩
  · intro b hb; have e : b = s.heap.objs.size := by simpa using hb
    subst e; exact ⟨List.mem_cons_self .., next_is_new F⟩
  · intro b hb; simpa using hb
  · intro b hb
    rcases List.mem_cons.mp hb with e | hb
    · exact .inl (by simp [e])
    · rw [List.mem_singleton.mp hb]; exact .inr hfpl
  · intro hm
    rcases List.mem_cons.mp hm with e | hm
    · exact absurd F.ns.lt (e ▸ Nat.lt_irrefl _)
    · exact hLl (List.mem_singleton.mp hm)
  · intro p hp hb
    have e : p.1 = s.heap.objs.size := by simpa using hb
    exact absurd (Heap.lt_size (N p hp).1) (e ▸ Nat.lt_irrefl _)
  · rintro c i v m₁ h lo tk its hi hPi hle hPc hits ho F' N'
    obtain ⟨oI, rfl, hc⟩ := objs1 hits
    exact x_nameT hx hpm F' N' fun h' tk' hle' F'' N'' => turn c i v m₁ h' lo tk' _ oI (by simpa using hPi) hPc (Nat.le_trans hle hle') hc (fun p hp => ho p hp _ (List.mem_singleton.mpr rfl)) F'' N''

theorem x_enumT {σ : Type} {elts : List Expr} {kk : Nat} {pos : Pos} {l : Addr} {vs : List Value} {m₀ : Str → Option Value} (Led : σ → List (Addr × Obj)) (ps : σ → List (Str × Value)) (Pc : Nat → σ → Nat → Prop) (c₀ : σ)
    (hh : A.handled = none) (hls : s.heap.IsList l vs.toArray) (hfpl : (∃ o, ∀ c, (l, o) ∈ Led c) ∨ ∃ o, h₀.get? l = some o) (hLl : env.locals ≠ l)
    (F : Fr h₀ env.locals s.heap m₀) (N : News h₀ env.locals s.heap (Led c₀)) (hk : ∀ p ∈ ps c₀, m₀ p.1 = some p.2) (hP : Pc 0 c₀ s.toks)
    (turn : ∀ (c : σ) (i : Nat) v (t : Nat) T m₁ h (lo tk : Nat) I oI J oJ, vs[i]? = some v → IsTup h T #[.int (i : Int) t, v] → Pc i c lo → lo ≤ t → t < tk → oI.cls = .type "enumerate" → oJ.cls = .type "list_iterator" → (∀ p ∈ Led c, p.1 ≠ I ∧ p.1 ≠ J) →
      Fr h₀ env.locals h (mapB m₁ (ps c)) → News h₀ env.locals h ((I, oI) :: (J, oJ) :: Led c) →
      wpAny (model prog w) A (assign (.Tuple elts kk pos) env (.ref T)) (fun _ s₂ => wpAny (model prog w) A (execs body env) (TPostT h₀ env.locals Led ps [(I, oI), (J, oJ)] (Pc (i + 1)) { s with heap := h, toks := tk } Q) E s₂) E { s with heap := h, toks := tk })
    (done : ∀ (c : σ) m₁ h lo tk, Pc vs.length c lo → lo ≤ tk → Fr h₀ env.locals h (mapB m₁ (ps c)) → News h₀ env.locals h (Led c) → wpAny (model prog w) A (execs orelse env) Q E { s with heap := h, toks := tk }) :
    wpAny (model prog w) A (call (.type "enumerate") [.ref l]) (fun xv s₁ => wpAny (model prog w) A (pyIter xv) (fun it s₂ => XL prog w A env (.Tuple elts kk pos) body orelse Q E it s₂) E s₁) E s := by
  obtain ⟨ol, hol, _⟩ := id hls
  have hlt : l < s.heap.objs.size := Heap.lt_size hol
  have hLs : env.locals < s.heap.objs.size := F.ns.lt
  refine call_enumerate_list hls fun h' hE hI hsz hke => ?_
  refine wpAny_pyIter_enum hE ?_
  have hz : vs.toArray.size = vs.length := by simp
  have W := KTT.enum (prog := prog) (w := w) (elts := elts) (k := kk) (pos := pos) hh (s.heap.objs.size + 1) s.heap.objs.size l (Nat.succ_ne_self _) (ktu_ne 1 hlt) (Nat.ne_of_lt hlt) vs.toArray
  rw [hz] at W
  refine x_coreT (tk0 := s.toks) (ws := [(s.heap.objs.size + 1, "enumerate"), (s.heap.objs.size, "list_iterator")]) Led ps Pc c₀ W ?_ ?_ ?_ ?_ ?_ ?_ ⟨⟨.none, hE⟩, hI, hls.at fun o e => hke l o e⟩ (F.keeps hke) (N.grown hke) hk hP ?_ done
  · rintro i h ⟨⟨old, he⟩, ⟨oi, hoi, hic, _⟩, _⟩
    have he' : ∃ oe : Obj, h.get? (s.heap.objs.size + 1) = some oe ∧ oe.cls = .type "enumerate" := ⟨_, he, rfl⟩
    obtain ⟨oe, h1, h2⟩ := he'
    refine ⟨[(s.heap.objs.size + 1, oe), (s.heap.objs.size, oi)], ⟨⟨rfl, h2⟩, ⟨rfl, hic⟩, trivial⟩, fun p hp => ?_⟩
    rcases List.mem_cons.mp hp with rfl | hp
    · exact h1
    · rw [List.mem_singleton.mp hp]; exact hoi
  · intro b hb
    have hb' : b = s.heap.objs.size + 1 ∨ b = s.heap.objs.size := by simpa using hb
    rcases hb' with rfl | rfl
    · exact ⟨by simp, ktu_new F (Nat.le_add_right _ _)⟩
    · exact ⟨by simp, ktu_new F (Nat.le_refl _)⟩
  · intro b hb; simpa using hb
  · intro b hb
    have hb' : b = s.heap.objs.size + 1 ∨ b = s.heap.objs.size ∨ b = l := by simpa using hb
    rcases hb' with rfl | rfl | rfl
    · exact .inl (by simp)
    · exact .inl (by simp)
    · exact .inr hfpl
  · intro hI'
    have hb' : env.locals = s.heap.objs.size + 1 ∨ env.locals = s.heap.objs.size ∨ env.locals = l := by simpa using hI'
    rcases hb' with e | e | e
    · exact ktu_ne 1 hLs e
    · exact Nat.ne_of_lt hLs e
    · exact hLl e
  · intro p hp hI'
    have hb' : p.1 = s.heap.objs.size + 1 ∨ p.1 = s.heap.objs.size := by simpa using hI'
    have hlp := Heap.lt_size (N p hp).1
    rcases hb' with e | e
    · exact ktu_ne 1 hlp e
    · exact Nat.ne_of_lt hlp e
  · rintro c i v m₁ h lo tk its hi ⟨T, t, y, rfl, hy, hT, h1, h2⟩ hle hPc hits ho F' N'
    obtain ⟨oI, oJ, rfl, hc, hd⟩ := objs2 hits
    exact turn c i y t T m₁ h lo tk _ oI _ oJ (by simpa using hy) hT hPc h1 h2 hc hd (fun p hp => ⟨ho p hp _ (List.mem_cons_self ..), ho p hp _ (List.mem_cons_of_mem _ (List.mem_singleton.mpr rfl))⟩) F' N'
end

/-- `is` between ints told apart by their tokens -/
theorem is_ints {M : Model} {A : Around} {E : Value → Shared → Prop} {s : Shared} {p q : Int} {t u : Tok} {Q : Value → Shared → Prop} (h0 : t ≠ 0) (h1 : u ≠ 0) (hs : smallInt p = true) (hne : p ≠ q → t ≠ u) (h : Q (.bool (decide (p = q))) s) :
    wpAny M A (compareOp .Is (.int p t) (.int q u)) Q E s := by
  show wpAny M A (do return .bool (← isSame (.int p t) (.int q u))) Q E s
  have hz : (t == 0 || u == 0) = false := by simp [h0, h1]
  refine wpAny_bind ?_
  by_cases e : p = q
  · subst e
    show wpAny M A (if (p == p && smallInt p) = true then isSame.cachedInt t u else isSame.created (p == p) t u) _ E s
    rw [if_pos (by simp [hs])]
    show wpAny M A (if (t == 0 || u == 0) = true then _ else _) _ E s
    rw [hz, if_neg Bool.false_ne_true]
    exact wpAny_bind (wpAny_rule (wpAny_pure (wpAny_pure (by simpa using h))))
  · have e' : (p == q) = false := by simpa using e
    show wpAny M A (if (p == q && smallInt p) = true then isSame.cachedInt t u else isSame.created (p == q) t u) _ E s
    rw [e', Bool.false_and, if_neg Bool.false_ne_true]
    show wpAny M A (if (t == 0 || u == 0) = true then _ else if (t == u) = true then _ else if (!false) = true then pure false else _) _ E s
    rw [hz, if_neg Bool.false_ne_true, if_neg (by simpa using hne e)]
    show wpAny M A (pure false) _ E s
    exact wpAny_pure (wpAny_pure (by simpa [e] using h))
theorem is_strs {M : Model} {A : Around} {E : Value → Shared → Prop} {s : Shared} {p q : Str} {t u : Tok} {Q : Value → Shared → Prop} (h0 : t ≠ 0) (h1 : u ≠ 0) (hne : p ≠ q → t ≠ u) (hb : NoneBooked s.heap) (h : ∀ b, (b = true → p = q) → Q (.bool b) s) :
    wpAny M A (compareOp .Is (.str p t) (.str q u)) Q E s := by
  show wpAny M A (do return .bool (← isSame (.str p t) (.str q u))) Q E s
  have hz : (t == 0 || u == 0) = false := by simp [h0, h1]
  refine wpAny_bind ?_
  by_cases e : p = q
  · exact wpAny_isSame_str hz hb fun b => wpAny_pure (h b fun _ => e)
  · have e' : (p == q) = false := by simpa using e
    exact wpAny_of_eq (isSame_str_other p q t u hz (by simpa using hne e) e') (wpAny_pure (h false (by simp)))
end Y33
end
section
open PySem PySem.W PyProof.Rows PySem.Calls
set_option Elab.async false
set_option maxRecDepth 100000
namespace Y33
/-- a contract that also tells the tokens' count -/
abbrev CT (w : World) (loose : List Str) (mean : ExcName → Option Value) (mg mb : Str → Option Value) (f : Addr) (vs : List Value) (news : List (Addr × Obj)) (need : Nat)
   (R : (h₀ : Heap) → (L : Addr) → (m : Str → Option Value) → Nat → (Value → Heap → Nat → Prop) → Prop) : Prop :=
  ∀ (dp un : Nat) (gd : Option (List Code)) (cn : Str) (cs : Scope) (a : Addr) (ccd : Value) (cl : List (Str × Addr)) (outer : List Env) (A₀ : Around) (base h₀ : Heap) (L : Addr) (m : Str → Option Value) (s : Shared) (Q E : Value → Shared → Prop),
    Below A₀ base outer h₀ → Fr h₀ L s.heap m → (Y33.hd.heap_1 w.params).In h₀ → News h₀ L s.heap news → Top Y33.hd.view_1 loose mean mg mb h₀ → cs.kind = .function →
    dp + need < recursionLimit → un + 8 * need < cLine → R h₀ L m s.toks (fun v h' tk' => Q v { s with heap := h', toks := tk' }) →
      wpAny (model Challenge.rw_yf0033_01.row.prog w) (ktrTop dp un gd cn cs L a ccd cl outer) (call (.ref f) vs) Q E s
theorem gen_toks {α : Type} {M : Model} {A : Around} {t : Sem α} {Q : α → Shared → Prop} {E : Value → Shared → Prop} {h : Heap} {g : Array GenState} {d : Drawn} {X : Nat} {os : OsState}
   (H : ∀ tk, X ≤ tk → wpAny M A t Q E ⟨h, g, d, tk, os⟩) : wpAny M A t Q E ⟨h, g, d, X, os⟩ := H X (Nat.le_refl _)
theorem booked_of {K : Frag} {h : Heap} (X : K.In h) (e : nsOkIn K cStatics = true) (q : nsIn K cStatics sharingNotToldKey = some none) : NoneBooked h := ⟨_, .of_isNs (isNs_of_in X e), nsMap_none_of_in X e q⟩
theorem NoneBooked.keeps {h h' : Heap} (b : NoneBooked h) (k : ∀ b o, h.get? b = some o → h'.get? b = some o) : NoneBooked h' := let ⟨mc, n, e⟩ := b; ⟨mc, n.at' fun o x => k _ o x, e⟩
inductive ValT {α : Type} (mk : α → Tok → Value) (τ : Nat → α) (P : Nat → Prop) : List Value → List α → Prop
  | nil : ValT mk τ P [] []
  | cons (n : α) (t : Tok) {vs ns} : P t → τ t = n → ValT mk τ P vs ns → ValT mk τ P (mk n t :: vs) (n :: ns)
section
variable {α : Type} {mk : α → Tok → Value} {τ σ : Nat → α} {P R : Nat → Prop} {vs ws : List Value} {ns ms : List α}
theorem ValT.mono (H : ∀ t, P t → R t ∧ σ t = τ t) (h : ValT mk τ P vs ns) : ValT mk σ R vs ns := by
  induction h with
  | nil => exact .nil
  | cons n t p e _ ih => exact .cons n t (H t p).1 ((H t p).2.trans e) ih
theorem ValT.length (h : ValT mk τ P vs ns) : vs.length = ns.length := by
  induction h with
  | nil => rfl
  | cons _ _ _ _ _ ih => exact congrArg Nat.succ ih
theorem ValT.get (h : ValT mk τ P vs ns) : ∀ {i : Nat} {v : Value}, vs[i]? = some v → ∃ x t, ns[i]? = some x ∧ v = mk x t ∧ P t ∧ τ t = x := by
  induction h with
  | nil => intro i v q; cases q
  | cons x t p e _ ih =>
    intro i v q
    cases i with
    | zero => exact ⟨x, t, rfl, (Option.some.inj q).symm, p, e⟩
    | succ i => exact ih q
theorem ValT.append (h : ValT mk τ P vs ns) (h' : ValT mk τ P ws ms) : ValT mk τ P (vs ++ ws) (ns ++ ms) := by
  induction h with
  | nil => exact h'
  | cons x t p e _ ih => exact .cons x t p e ih
theorem ValT.snoc (h : ValT mk τ P vs ns) {n : α} {t : Tok} (p : P t) (e : τ t = n) : ValT mk τ P (vs ++ [mk n t]) (ns ++ [n]) := h.append (.cons n t p e .nil)
theorem ValT.set (h : ValT mk τ P vs ns) {n : α} {t : Tok} (i : Nat) (p : P t) (e : τ t = n) : ValT mk τ P (vs.set i (mk n t)) (ns.set i n) := by
  induction h generalizing i with
  | nil => exact .nil
  | cons x u q f h ih =>
    cases i with
    | zero => exact .cons _ _ p e h
    | succ i => exact .cons x u q f (ih i)
theorem ValT.reverse (h : ValT mk τ P vs ns) : ValT mk τ P vs.reverse ns.reverse := by
  induction h with
  | nil => exact .nil
  | cons x t p e _ ih => rw [List.reverse_cons, List.reverse_cons]; exact ih.snoc p e
end
abbrev IntsT (τ : Nat → Int) (P : Nat → Prop) : List Value → List Int → Prop := ValT Value.int τ P
abbrev StrsT (τ : Nat → Str) (P : Nat → Prop) : List Value → List Str → Prop := ValT Value.str τ P
section
variable {τ σ : Nat → Int} {P R : Nat → Prop} {vs ws : List Value} {ns ms : List Int}
theorem IntsT.nil : IntsT τ P [] [] := ValT.nil
theorem IntsT.cons (n : Int) (t : Tok) (p : P t) (e : τ t = n) (h : IntsT τ P vs ns) : IntsT τ P (.int n t :: vs) (n :: ns) := ValT.cons n t p e h
theorem IntsT.are (h : IntsT τ P vs ns) : IntsAre vs ns := by
  induction h with
  | nil => exact .nil
  | cons n t _ _ _ ih => exact .cons n t ih
theorem IntsT.mono (H : ∀ t, P t → R t ∧ σ t = τ t) (h : IntsT τ P vs ns) : IntsT σ R vs ns := ValT.mono H h
theorem IntsT.length (h : IntsT τ P vs ns) : vs.length = ns.length := ValT.length h
theorem IntsT.get (h : IntsT τ P vs ns) {i : Nat} {v : Value} (q : vs[i]? = some v) : ∃ x t, ns[i]? = some x ∧ v = .int x t ∧ P t ∧ τ t = x := ValT.get h q
theorem IntsT.snoc (h : IntsT τ P vs ns) {n : Int} {t : Tok} (p : P t) (e : τ t = n) : IntsT τ P (vs ++ [.int n t]) (ns ++ [n]) := ValT.snoc h p e
theorem IntsT.set (h : IntsT τ P vs ns) {n : Int} {t : Tok} (i : Nat) (p : P t) (e : τ t = n) : IntsT τ P (vs.set i (.int n t)) (ns.set i n) := ValT.set h i p e
theorem IntsT.append (h : IntsT τ P vs ns) (h' : IntsT τ P ws ms) : IntsT τ P (vs ++ ws) (ns ++ ms) := ValT.append h h'
theorem IntsT.reverse (h : IntsT τ P vs ns) : IntsT τ P vs.reverse ns.reverse := ValT.reverse h
end
section
variable {τ σ : Nat → Str} {P R : Nat → Prop} {vs ws : List Value} {ns ms : List Str}
theorem StrsT.nil : StrsT τ P [] [] := ValT.nil
theorem StrsT.cons (n : Str) (t : Tok) (p : P t) (e : τ t = n) (h : StrsT τ P vs ns) : StrsT τ P (.str n t :: vs) (n :: ns) := ValT.cons n t p e h
theorem StrsT.are (h : StrsT τ P vs ns) : StrsAre vs ns := by
  induction h with
  | nil => exact .nil
  | cons n t _ _ _ ih => exact .cons n t ih
theorem StrsT.mono (H : ∀ t, P t → R t ∧ σ t = τ t) (h : StrsT τ P vs ns) : StrsT σ R vs ns := ValT.mono H h
theorem StrsT.length (h : StrsT τ P vs ns) : vs.length = ns.length := ValT.length h
theorem StrsT.get (h : StrsT τ P vs ns) {i : Nat} {v : Value} (q : vs[i]? = some v) : ∃ x t, ns[i]? = some x ∧ v = .str x t ∧ P t ∧ τ t = x := ValT.get h q
theorem StrsT.snoc (h : StrsT τ P vs ns) {n : Str} {t : Tok} (p : P t) (e : τ t = n) : StrsT τ P (vs ++ [.str n t]) (ns ++ [n]) := ValT.snoc h p e
theorem StrsT.append (h : StrsT τ P vs ns) (h' : StrsT τ P ws ms) : StrsT τ P (vs ++ ws) (ns ++ ms) := ValT.append h h'
end
end Y33
end
section
open PySem PySem.W PyProof.Rows PySem.Calls
set_option Elab.async false
set_option maxRecDepth 100000
namespace Y33
section
variable {prog : Program} {w : World} {A : Around} {E : Value → Shared → Prop} {s : Shared} {x y : Str} {t u : Tok}
theorem add_strT {Q : Value → Shared → Prop} (hx : x.length ≠ 0) (hy : y.length ≠ 0) (hsz : (x ++ y).length ≤ sizeLine) (h : ∀ (t : Nat) tk, s.toks ≤ t → t < tk → Q (.str (x ++ y) t) { s with toks := tk }) :
    wpAny (model prog w) A (binaryOp .Add (.str x t) (.str y u)) Q E s := by
  refine PySem.P.add_str ?_
  rw [if_neg (by simpa using hx), if_neg (by simpa using hy)]
  exact ⟨hsz, h _ _ (Nat.le_refl _) (Nat.lt_succ_self _)⟩
theorem add_strM {Q : Value → Shared → Prop} (hsz : x.length + y.length ≤ sizeLine) (h : ∀ (t : Nat) tk, s.toks ≤ tk → Q (.str (x ++ y) t) { s with toks := tk }) :
    wpAny (model prog w) A (binaryOp .Add (.str x t) (.str y u)) Q E s :=
  wpAny_tok (PyProof.Rows.add_str (fun t tk hle => h t tk hle) hsz)
end
theorem ne_by_cls {h₀ h : Heap} {L a b : Addr} {o o' : Obj} {all : List (Addr × Obj)} (N : News h₀ L h all) (h1 : (a, o) ∈ all) (h2 : (b, o') ∈ all) (hc : o.cls ≠ o'.cls) : a ≠ b := by
  rintro rfl
  have e1 := (N _ h1).1
  have e2 := (N _ h2).1
  rw [e1] at e2
  exact hc (congrArg Obj.cls (Option.some.inj e2))
theorem StrsT.fresh {τ : Nat → Str} {us : List Value} {xs : List Str} {lo hi t : Nat} {x : Str} (h : StrsT τ (fun t => t ≠ 0 ∧ t < lo) us xs) (h0 : 0 < lo) (h1 : lo ≤ t) (h2 : t < hi) :
    StrsT (fun z => if z = t then x else τ z) (fun t => t ≠ 0 ∧ t < hi) (us ++ [.str x t]) (xs ++ [x]) :=
  (h.mono (R := fun t => t ≠ 0 ∧ t < hi) (σ := fun z => if z = t then x else τ z) fun z hz => ⟨⟨hz.1, by have := hz.2; omega⟩, if_neg (by have := hz.2; omega)⟩).snoc ⟨by omega, h2⟩ (if_pos rfl)
theorem IntsT.fresh {τ : Nat → Int} {us : List Value} {xs : List Int} {b lo hi t : Nat} {x : Int} (h : IntsT τ (fun t => b ≤ t ∧ t ≠ 0 ∧ t < lo) us xs) (hb : b ≤ lo) (h0 : 0 < lo) (h1 : lo ≤ t) (h2 : t < hi) :
    IntsT (fun z => if z = t then x else τ z) (fun t => b ≤ t ∧ t ≠ 0 ∧ t < hi) (us ++ [.int x t]) (xs ++ [x]) :=
  (h.mono (R := fun t => b ≤ t ∧ t ≠ 0 ∧ t < hi) (σ := fun z => if z = t then x else τ z) fun z hz => ⟨⟨hz.1, hz.2.1, by have := hz.2.2; omega⟩, if_neg (by have := hz.2.2; omega)⟩).snoc ⟨by omega, by omega, h2⟩ (if_pos rfl)
end Y33
end
section
open PySem PySem.W PyProof.Rows PySem.Calls
set_option Elab.async false
set_option maxRecDepth 100000
namespace Y33
noncomputable def hitsS (es : List (Int × Int)) : List (Int × Int) → Bool
  | [] => true
  | (k, x) :: r => match getS es k with
    | none => false
    | some y => (x == y) && hitsS es r
noncomputable def eqS (ds es : List (Int × Int)) : Bool := ds.length == es.length && hitsS es ds
section
variable {prog : Program} {w : World} {A : Around} {E : Value → Shared → Prop} {s : Shared} {h₀ : Heap} {L : Addr} {m : Str → Option Value} {news : List (Addr × Obj)}
theorem gmV {kvs : List (Int × Value)} {d : Addr} {o : Obj} {pl : Sem Bool} {Q : Value × List Value → Shared → Prop} (N : News h₀ L s.heap news) (hp : (d, o) ∈ news) (hd : o.IsDictOf (intKind prog w) kvs) (h : Q (.builtin "dict.values", [.ref d]) s) : wpAny (model prog w) A (getMethod (.ref d) (Str.ofString "values") pl) Q E s := kdl_method PySem.F.slot_dict_values PySem.F.type_dict_values N hp hd h
theorem gmI {kvs : List (Int × Value)} {d : Addr} {o : Obj} {pl : Sem Bool} {Q : Value × List Value → Shared → Prop} (N : News h₀ L s.heap news) (hp : (d, o) ∈ news) (hd : o.IsDictOf (intKind prog w) kvs) (h : Q (.builtin "dict.items", [.ref d]) s) : wpAny (model prog w) A (getMethod (.ref d) (Str.ofString "items") pl) Q E s := kdl_method PySem.F.slot_dict_items PySem.F.type_dict_items N hp hd h
theorem gmG {kvs : List (Int × Value)} {d : Addr} {o : Obj} {pl : Sem Bool} {Q : Value × List Value → Shared → Prop} (N : News h₀ L s.heap news) (hp : (d, o) ∈ news) (hd : o.IsDictOf (intKind prog w) kvs) (h : Q (.builtin "dict.get", [.ref d]) s) : wpAny (model prog w) A (getMethod (.ref d) (Str.ofString "get") pl) Q E s := kdl_method PySem.F.slot_dict_get PySem.F.type_dict_get N hp hd h
theorem hits_of {kb : List (Int × Value)} {es : List (Int × Int)} (hb : DAre kb es) {ka : List (Int × Value)} {ds : List (Int × Int)} (h : DAre ka ds) : KeqHits A s kb ka (hitsS es ds) := by
  induction h with
  | nil => exact .nil
  | cons k x t _ ih =>
    rcases hb.valueAt k with ⟨h1, h2⟩ | ⟨y, u, h1, h2⟩
    · simp only [hitsS, h2]; exact .miss h1
    · simp only [hitsS, h2]; exact .hit h1 (SeqAt.EqAt.int_int x t y u) ih
theorem eq_dicts {w : World} {a b : Addr} {oa ob : Obj} {ka kb : List (Int × Value)} {ds es : List (Int × Int)} {Q : Value → Shared → Prop} (N : News h₀ L s.heap news) (pa : (a, oa) ∈ news) (pb : (b, ob) ∈ news) (da : IDict w oa ka) (db : IDict w ob kb)
    (va : DAre ka ds) (vb : DAre kb es) (la : (a == sysModules) = false) (lb : (b == sysModules) = false) (hu : A.units < cLine) (h : Q (.bool (eqS ds es)) s) : wpAny (model Challenge.rw_yf0033_01.row.prog w) A (compareOp .Eq (.ref a) (.ref b)) Q E s := by
  refine keq_eq (r := hitsS es ds) la lb (Heap.dictOf_iff.mpr ⟨oa, (N _ pa).1, da⟩) (Heap.dictOf_iff.mpr ⟨ob, (N _ pb).1, db⟩) hu (fun _ => hits_of vb va) ?_
  rw [va.length, vb.length]; exact h
theorem ne_dicts {w : World} {a b : Addr} {oa ob : Obj} {ka kb : List (Int × Value)} {ds es : List (Int × Int)} {Q : Value → Shared → Prop} (N : News h₀ L s.heap news) (pa : (a, oa) ∈ news) (pb : (b, ob) ∈ news) (da : IDict w oa ka) (db : IDict w ob kb)
    (va : DAre ka ds) (vb : DAre kb es) (la : (a == sysModules) = false) (lb : (b == sysModules) = false) (hu : A.units < cLine) (h : Q (.bool (!(eqS ds es))) s) : wpAny (model Challenge.rw_yf0033_01.row.prog w) A (compareOp .NotEq (.ref a) (.ref b)) Q E s := by
  refine keq_ne (r := hitsS es ds) la lb (Heap.dictOf_iff.mpr ⟨oa, (N _ pa).1, da⟩) (Heap.dictOf_iff.mpr ⟨ob, (N _ pb).1, db⟩) hu (fun _ => hits_of vb va) ?_
  rw [va.length, vb.length]; exact h
theorem kf_ints_of {vs : List Value} {ns : List Int} (h : IntsAre vs ns) : kf_ints vs = true := by
  induction h with
  | nil => rfl
  | cons n t _ ih => exact ih
theorem kf_at_of {x : Int} {vs : List Value} {ns : List Int} (h : IntsAre vs ns) : x ∈ ns → kf_at x vs = some (ns.idxOf x) := by
  induction h with
  | nil => intro h; cases h
  | @cons n t vs ns h ih =>
    intro hx
    by_cases e : n = x
    · subst e; simp [kf_at, isInt]
    · have hx' : x ∈ ns := by simpa [Ne.symm e] using hx
      have e1 : isInt x (.int n t) = false := by simp [isInt, e]
      have e2 : (n == x) = false := by simpa using e
      rw [kf_at, e1, ih hx', List.idxOf_cons, e2]; rfl
theorem index_L {D : Addr} {vs : List Value} {ns : List Int} {n : Nat} {k : Int} {t : Tok} {Q : Value → Shared → Prop} (N : News h₀ L s.heap news) (hm : (D, W.listOf vs.toArray n) ∈ news) (hi : IntsAre vs ns) (hx : k ∈ ns) (hz : ns.length ≤ 1000)
    (h : ∀ t tk, Q (.int (ns.idxOf k : Nat) t) { s with toks := tk }) : wpAny (model prog w) A (call (.builtin "list.index") [.ref D, .int k t]) Q E s := by
  refine kf_index N hm (by simpa using kf_ints_of hi) (j := ns.idxOf k) (by simpa using kf_at_of hi hx) rfl ?_ (h _ _)
  rw [sizeLine_eq, List.toList_toArray, hi.length]; omega
end
end Y33
namespace Y33
section
variable {prog : Program} {w : World} {A : Around} {E : Value → Shared → Prop} {s : Shared} {h₀ : Heap} {L : Addr} {news : List (Addr × Obj)}
theorem IntsT.getD {τ : Nat → Int} {P : Nat → Prop} {vs : List Value} {ns : List Int} (h : IntsT τ P vs ns) {k : Nat} (hk : k < ns.length) : ∃ t, vs[k]? = some (.int (ns.getD k 0) t) ∧ P t ∧ τ t = ns.getD k 0 := by
  have hl := h.length
  have h1 : vs[k]? = some vs[k] := List.getElem?_eq_getElem (by omega)
  obtain ⟨x, t, h2, h3, h4, h5⟩ := h.get h1
  refine ⟨t, ?_, h4, ?_⟩
  · rw [h1, h3]; simp [List.getD, h2]
  · simp [List.getD, h2, h5]
theorem item_intsT {τ : Nat → Int} {P : Nat → Prop} {value slice : PySem.Expr} {l : Addr} {vs : List Value} {ns : List Int} {n : Nat} {k : Int} {u : Tok} {Q : Value → Shared → Prop} (N : News h₀ L s.heap news)
    (hm : (l, W.listOf vs.toArray n) ∈ news) (hi : IntsT τ P vs ns) (h0 : 0 ≤ k) (h1 : k < ns.length) (hfit : k < 2 ^ 63) (h : ∀ t, P t → τ t = ns.getD k.toNat 0 → Q (.int (ns.getD k.toNat 0) t) s)
    (hs : subscripted slice false (.ref l) (.int k u) = operate [.ref l, .int k u] (getItem (.ref l) (.int k u)) := by with_unfolding_all rfl) :
    wpAny (model prog w) A (subscriptTail value slice (.ref l) (.int k u)) Q E s := by
  obtain ⟨t, hx, h2, h3⟩ := hi.getD (k := k.toNat) (by omega)
  exact item_litK (PySem.IsL.isList (n := n) (N _ hm).1) h0 hfit hx (h t h2 h3) hs
theorem item_litX {value slice : PySem.Expr} {l : Addr} {its : Array Value} {n : Nat} {k : Int} {u : Tok} {x : Value} {Q : Value → Shared → Prop} (N : News h₀ L s.heap news)
    (hm : (l, W.listOf its n) ∈ news) (h0 : 0 ≤ k) (hfit : k < 2 ^ 63) (hx : its.toList[k.toNat]? = some x) (h : Q x s)
    (hs : subscripted slice false (.ref l) (.int k u) = operate [.ref l, .int k u] (getItem (.ref l) (.int k u)) := by with_unfolding_all rfl) :
    wpAny (model prog w) A (subscriptTail value slice (.ref l) (.int k u)) Q E s :=
  item_litK (PySem.IsL.isList (n := n) (N _ hm).1) h0 hfit hx h hs
end
end Y33
namespace Y33
section
variable {prog : Program} {w : World} {A : Around} {E : Value → Shared → Prop} {s : Shared} {h₀ : Heap} {L D : Addr} {m : Str → Option Value} {news : List (Addr × Obj)}
theorem set_anyL {vs : List Value} {n : Nat} {k : Int} {t : Tok} {x : Value} {Q : Unit → Shared → Prop} (F : Fr h₀ L s.heap m) (N : News h₀ L s.heap ((D, W.listOf vs.toArray n) :: news)) (hne : ∀ p ∈ news, p.1 ≠ D) (h0 : 0 ≤ k) (h1 : k < vs.length) (hfit : k < 2 ^ 63)
    (h : ∀ h', Fr h₀ L h' m → News h₀ L h' ((D, W.listOf (vs.set k.toNat x).toArray n) :: news) → Q () { s with heap := h' }) :
    wpAny (model prog w) A (setItem (.ref D) (.int k t) x) Q E s := by
  have z := N (D, W.listOf vs.toArray n) (List.mem_cons_self ..)
  have hs : vs.toArray.size = vs.length := List.size_toArray
  refine ki_setAt z.1 h0 hfit (by omega) (h _ (F.change (Heap.SameBut.update ..) z.2.1 z.2.2) (ki_turn (pre := []) _ N (fun _ h => nomatch h) hne ?_ ?_))
  · show vs.toArray.setIfInBounds k.toNat x = (vs.set k.toNat x).toArray
    apply Array.toList_inj.mp
    simp
  · simp
end
end Y33
end
section
open PySem PySem.W PyProof.Rows PySem.Calls
set_option Elab.async false
set_option maxRecDepth 100000
set_option maxHeartbeats 2000000
namespace Y33
open LCg LCt
noncomputable def CEnd (h₀ : Heap) (L : Addr) (m : Str → Option Value) (s₁ : Shared) (I : Addr) (oI : Obj) (C : Addr) (oC : Obj) (D : Addr) (oD : Obj) (rest : Value → List (Addr × Obj) → Nat → Prop) (y : Value) (s₂ : Shared) : Prop :=
  ∃ h' tk news', s₂ = { s₁ with heap := h', toks := tk } ∧ Fr h₀ L h' m ∧ News h₀ L h' ((I, oI) :: (C, oC) :: (D, oD) :: news') ∧ Off3 I C D news' ∧ rest y news' tk
theorem CEnd.intro {h₀ : Heap} {L I C D : Addr} {m : Str → Option Value} {s₁ : Shared} {oI oC oD : Obj} {rest : Value → List (Addr × Obj) → Nat → Prop} {y : Value} {h' : Heap} {tk : Nat} {all : List (Addr × Obj)}
    (F : Fr h₀ L h' m) (N : News h₀ L h' all) (news' : List (Addr × Obj)) (sub : ∀ p ∈ (I, oI) :: (C, oC) :: (D, oD) :: news', p ∈ all) (off : Off3 I C D news') (r : rest y news' tk) :
    CEnd h₀ L m s₁ I oI C oC D oD rest y { s₁ with heap := h', toks := tk } := ⟨h', tk, news', rfl, F, fun p hp => N p (sub p hp), off, r⟩
section
variable {prog : Program} {w : World} {A : Around} {E : Value → Shared → Prop} {s : Shared} {h₀ : Heap} {L : Addr} {m : Str → Option Value} {env : Env}
/-- where the comprehension's own things lie: iterator, namespace, list -/
structure CAt (h₀ : Heap) (L I C D : Addr) (news : List (Addr × Obj)) : Prop where
  IL : I ≠ L
  CL : C ≠ L
  DL : D ≠ L
  IC : I ≠ C
  ID : I ≠ D
  CD : C ≠ D
  I0 : h₀.get? I = none
  C0 : h₀.get? C = none
  D0 : h₀.get? D = none
  off : Off3 I C D news
/-- one state of the loop -/
structure CSt (h₀ : Heap) (L I C D : Addr) (news : List (Addr × Obj)) (m : Str → Option Value) (n i : Nat) (ys : List Value) (m' : Str → Option Value) (h : Heap) : Prop where
  it : IsRangeIter h I (0 + (i : Nat)) ((n : Int) - (i : Nat)) 1
  F : Fr h₀ L h m
  ns : h.Ns C m'
  acc : h.get? D = some (lst ys)
  N : News h₀ L h news
theorem CSt.moves {I C D : Addr} {news : List (Addr × Obj)} {n i : Nat} {ys : List Value} {m' : Str → Option Value} {h h' : Heap} (x : CSt h₀ L I C D news m n i ys m' h) (p : CAt h₀ L I C D news) (hk : ∀ b o, b ≠ I → h.get? b = some o → h'.get? b = some o) {j : Nat} (hi : IsRangeIter h' I (0 + (j : Nat)) ((n : Int) - (j : Nat)) 1) : CSt h₀ L I C D news m n j ys m' h' where
  it := hi
  F := ⟨x.F.ns.at' fun o e => hk _ o p.IL.symm e, fun b o e => hk b o (fun q => by rw [q, p.I0] at e; cases e) (x.F.keep b o e), x.F.above⟩
  ns := x.ns.at' fun o e => hk _ o p.IC.symm e
  acc := hk _ _ p.ID.symm x.acc
  N := fun q hq => ⟨hk _ _ (p.off.mem q hq).1 (x.N q hq).1, (x.N q hq).2⟩
theorem blockR {ct elt iter : Expr} {x : Str} {px : Pos} {scope : Scope} {cl : List (Str × Addr)} {pos : Pos} {s₂ : Shared} {I : Addr} {n : Nat} {news : List (Addr × Obj)} (Inv : Nat → List Value → Nat → Prop) {RR : Value → Addr → Result → Shared → Prop}
    (hcell : ∀ y ∈ scope.names, y.2 ≠ .cell) (hkind : scope.kind = .function) (hx : scope.names.lookup x = some .local) (hh : A.handled = none) (hsz : n ≤ sizeLine)
    (hst : IsRangeIter s₂.heap I 0 (n : Int) 1) (F : Fr h₀ L s₂.heap m) (N : News h₀ L s₂.heap news) (hIL : I ≠ L) (hI₀ : h₀.get? I = none) (off : ∀ p ∈ news, p.1 ≠ I) (hI : Inv 0 [] s₂.toks)
    (turn : ∀ i ys (t : Nat) oI C oC D m₂ h (lo tk : Nat) (E' : Value → Shared → Prop), i < n → Inv i ys lo → lo ≤ t → t < tk → NsObj oC m₂ → m₂ x = some (.int (i : Int) t) → Fr h₀ L h m → News h₀ L h ((I, oI) :: (C, oC) :: (D, lst ys) :: news) → Off3 I C D news → ((@Ne Nat I C) ∧ (@Ne Nat I D) ∧ (@Ne Nat C D)) →
      wpAny (model prog w) A (isTrue ct (compEnvC scope cl C env) (eval ct (compEnvC scope cl C env))) (fun ok s' => if ok = true then
        wpAny (model prog w) A (eval elt (compEnvC scope cl C env)) (CEnd h₀ L m { s₂ with heap := h, toks := tk } I oI C oC D (lst ys) (fun y nw tk' => nw = news ∧ Inv (i + 1) (ys ++ [y]) tk')) E' s'
        else CEnd h₀ L m { s₂ with heap := h, toks := tk } I oI C oC D (lst ys) (fun _ nw tk' => nw = news ∧ Inv (i + 1) ys tk') Value.none s') E' { s₂ with heap := h, toks := tk })
    (done : ∀ C D ys m' h tk, (∃ lo, lo ≤ tk ∧ Inv n ys lo) → CAt h₀ L I C D news → Fr h₀ L h m → h.Ns C m' → h.get? D = some (lst ys) → News h₀ L h news → RR (.ref D) C (.ok .next) { s₂ with heap := h, toks := tk }) :
    wpAny (model prog w) A (newList []) (fun acc s₃ => wpAny (model prog w) A (newFunctionEnv scope env.globals cl [] env.qual none .none (some env)) (fun cenv s₄ =>
      codeAny (model prog w) A (.compStart (.ListComp elt [⟨.Name x px, iter, [ct], 0⟩] scope pos) 0 (.ref I) acc { cenv with scope := relabel scope env }) (RR acc cenv.locals) s₄) E s₃) E s₂ := by
  refine wpAny_newObj_type (wpAny_newFunctionEnv hcell (by intro y hy; simp at hy) (fun h₁ hns₁ hsb₁ => ?_) hkind)
  dsimp only at hns₁ hsb₁ ⊢
  generalize hH2 : s₂.heap.push { cls := .type "list", dict := none, data := .seq ([] : List Value).toArray } = H2 at hns₁ hsb₁ ⊢
  have hC : H2.objs.size = s₂.heap.objs.size + 1 := by rw [← hH2, Heap.size_push]
  have low : ∀ {b o}, s₂.heap.get? b = some o → b ≠ H2.objs.size ∧ b ≠ s₂.heap.objs.size := fun e => by have := Heap.lt_size e; exact ⟨by rw [hC]; exact Nat.ne_of_lt (Nat.lt_succ_of_lt this), Nat.ne_of_lt this⟩
  have old : ∀ b o, s₂.heap.get? b = some o → h₁.get? b = some o := fun b o e => hsb₁.extBut b o (low e).1 (Heap.get?_push_of_some _ (hH2 ▸ Heap.get?_push_of_some _ e))
  have fresh₀ : ∀ a, s₂.heap.objs.size ≤ a → h₀.get? a = none := fun a ha => by
    cases e : h₀.get? a with
    | none => rfl
    | some o' => exact absurd (Heap.lt_size (F.keep a o' e)) (Nat.not_lt.mpr ha)
  have hIe : s₂.heap.get? I = some _ := hst
  have hLe : ∃ o, s₂.heap.get? L = some o := by obtain ⟨o, _, _, e, _⟩ := F.ns; exact ⟨o, e⟩
  obtain ⟨oL, hLe⟩ := hLe
  have P : CAt h₀ L I H2.objs.size s₂.heap.objs.size news :=
    { IL := hIL, CL := (low hLe).1.symm, DL := (low hLe).2.symm, IC := (low hIe).1, ID := (low hIe).2, CD := by rw [hC]; exact Nat.ne_of_gt (Nat.lt_succ_self _), I0 := hI₀, C0 := fresh₀ _ (by rw [hC]; exact Nat.le_succ _), D0 := fresh₀ _ (Nat.le_refl _)
      off := Off3.of fun p hp => ⟨off p hp, (low (N p hp).1).1, (low (N p hp).1).2⟩ }
  have S1 : CSt h₀ L I H2.objs.size s₂.heap.objs.size news m n 0 [] (fun x => ([] : List (Str × Value)).reverse.lookup x) h₁ :=
    { it := by simpa using old _ _ hIe, F := F.keeps old, ns := hns₁, acc := hsb₁.extBut _ _ P.CD.symm (Heap.get?_push_of_some _ (hH2 ▸ Heap.get?_push_size _ rfl)), N := N.grown old }
  have loop : ∀ s₃ : Shared, s₃ = { s₂ with heap := h₁, toks := s₂.toks + ([] : List (Str × Value)).length } →
      codeAny (model prog w) A (.compLoop (.ListComp elt [⟨.Name x px, iter, [ct], 0⟩] scope pos) 0 (.ref I) (.ref s₂.heap.objs.size) (compEnvC scope cl H2.objs.size env)) (RR (.ref s₂.heap.objs.size) H2.objs.size) s₃ := by
    rintro s₃ rfl
    refine codeAny_compLoop_tests (fun k s' => ∃ h' tk i ys m', s' = { s₂ with heap := h', toks := tk } ∧ i ≤ n ∧ k = n + 1 - i ∧ ys.length ≤ i ∧ CSt h₀ L I H2.objs.size s₂.heap.objs.size news m n i ys m' h' ∧ Inv i ys tk) ?_ (n + 1)
      ⟨h₁, _, 0, [], _, rfl, Nat.zero_le _, rfl, Nat.le_refl _, S1, by simpa using hI⟩
    rintro k s' ⟨h', tk, i, ys, m', rfl, hi, rfl, hyl, S, hInv⟩
    by_cases hlt : i < n
    · refine wpAny_pyNext_range_item S.it (by omega) fun h₂ hit' hs' => ?_
      have S2 := S.moves P (j := i + 1) (fun b o hb e => hs'.extBut b o hb e) (by
        have e1 : (0 : Int) + ((i + 1 : Nat) : Int) = 0 + (i : Int) + 1 := by omega
        have e2 : (n : Int) - ((i + 1 : Nat) : Int) = (n : Int) - (i : Int) - 1 := by omega
        rw [e1, e2]; exact hit')
      refine wpAny_assign_Name (wpAny_storeName_local (lookup_relabel_local hx) S2.ns (fun h₃ hn₃ hs₃ => ?_) (by simp [compEnvC, relabel, hkind]))
      refine wpAny_tests_one ?_
      have keep3 : ∀ b o, b ≠ H2.objs.size → h₂.get? b = some o → h₃.get? b = some o := fun b o hb e => hs₃.extBut b o hb e
      obtain ⟨oC, heC, hoC⟩ := ns_obj hn₃
      have hI3 := keep3 _ _ P.IC S2.it
      have F₃ : Fr h₀ L h₃ m := S2.F.change hs₃ P.CL P.C0
      have N₃ : News h₀ L h₃ ((I, _) :: (H2.objs.size, oC) :: (s₂.heap.objs.size, lst ys) :: news) := fun p hp => by
        rcases List.mem_cons.mp hp with rfl | hp
        · exact ⟨hI3, P.IL, P.I0⟩
        rcases List.mem_cons.mp hp with rfl | hp
        · exact ⟨heC, P.CL, P.C0⟩
        rcases List.mem_cons.mp hp with rfl | hp
        · exact ⟨keep3 _ _ P.CD.symm S2.acc, P.DL, P.D0⟩
        · exact ⟨keep3 _ _ (P.off.mem p hp).2.1 (S2.N p hp).1, (S2.N p hp).2⟩
      refine wpAny_mono (turn i ys tk _ H2.objs.size oC s₂.heap.objs.size _ h₃ tk (tk + 1 + 1) _ hlt hInv (Nat.le_refl _) (Nat.lt_succ_of_lt (Nat.lt_succ_self _)) hoC (by simp) F₃ N₃ P.off ⟨P.IC, P.ID, P.CD⟩) (fun ok s₄ h₄ => ?_) fun _ _ e => e
      cases ok with
      | true =>
        simp only [if_true] at h₄ ⊢
        refine wpAny_mono h₄ (fun y s₅ h₅ => ?_) fun _ _ e => e
        obtain ⟨h₄, tk₄, nw, rfl, F₄, N₄, _, rfl, hI₄⟩ := h₅
        have zI := (N₄ (I, _) (List.mem_cons_self ..)).1
        have zC := (N₄ (H2.objs.size, oC) (List.mem_cons_of_mem _ (List.mem_cons_self ..))).1
        have zD := (N₄ (s₂.heap.objs.size, lst ys) (List.mem_cons_of_mem _ (List.mem_cons_of_mem _ (List.mem_cons_self ..)))).1
        refine append_at (hsz := by show ys.toArray.size ≤ sizeLine; rw [List.size_toArray]; exact Nat.le_trans (Nat.le_trans hyl hi) hsz) zD fun h₅ hs₅ hD₅ => ?_
        refine ⟨n + 1 - (i + 1), by omega, h₅, tk₄, i + 1, ys ++ [y], _, rfl, hlt, rfl, by rw [List.length_append, List.length_singleton]; exact Nat.succ_le_succ hyl, ⟨hs₅.extBut _ _ P.ID zI, F₄.change hs₅ P.DL P.D0, (hoC.ns zC).sameBut hs₅ P.CD, hD₅.trans (congrArg some (lst_snoc ys y)), fun p hp => ?_⟩, hI₄⟩
        have z := N₄ p (List.mem_cons_of_mem _ (List.mem_cons_of_mem _ (List.mem_cons_of_mem _ hp)))
        exact ⟨hs₅.extBut _ _ (P.off.mem p hp).2.2 z.1, z.2⟩
      | false =>
        simp only [Bool.false_eq_true, if_false] at h₄ ⊢
        obtain ⟨h₄, tk₄, nw, rfl, F₄, N₄, _, rfl, hI₄⟩ := h₄
        have zI := (N₄ (I, _) (List.mem_cons_self ..)).1
        have zC := (N₄ (H2.objs.size, oC) (List.mem_cons_of_mem _ (List.mem_cons_self ..))).1
        have zD := (N₄ (s₂.heap.objs.size, lst ys) (List.mem_cons_of_mem _ (List.mem_cons_of_mem _ (List.mem_cons_self ..)))).1
        exact ⟨n + 1 - (i + 1), by omega, h₄, tk₄, i + 1, ys, _, rfl, hlt, rfl, Nat.le_succ_of_le hyl, ⟨zI, F₄, hoC.ns zC, zD, fun p hp => N₄ p (List.mem_cons_of_mem _ (List.mem_cons_of_mem _ (List.mem_cons_of_mem _ hp)))⟩, hI₄⟩
    · obtain rfl : i = n := Nat.le_antisymm hi (Nat.not_lt.mp hlt)
      refine wpAny_pyNext_range_end hh S.it (by omega) fun h₂ he' => ?_
      exact done _ _ ys m' h₂ tk ⟨tk, Nat.le_refl _, hInv⟩ P ⟨S.F.ns.at' fun o e => he' _ o P.IL.symm e, fun b o e => he' b o (fun q => by rw [q, P.I0] at e; cases e) (S.F.keep b o e), S.F.above⟩
        (S.ns.at' fun o e => he' _ o P.IC.symm e) (he' _ _ P.ID.symm S.acc) (fun q hq => ⟨he' _ _ (P.off.mem q hq).1 (S.N q hq).1, (S.N q hq).2⟩)
  exact codeAny_compStart_list (loop _ rfl) (wpAny_pyIter_rangeiter (by simpa using S1.it) (loop _ rfl))
inductive HCR (prog : Program) (w : World) (A : Around) (h₀ : Heap) (L : Addr) (m : Str → Option Value) (env : Env) (ct elt : Expr) (x : Str) (scope : Scope) (cl : List (Str × Addr)) (Q : Value → Shared → Prop) (n : Nat) (news : List (Addr × Obj)) (Inv : Nat → List Value → Nat → Prop) (xv : Value) (s₁ : Shared) : Prop
  | intro (r : Addr) (b : Int) (t u v : Tok) (e0 : xv = .ref r) (e1 : Fr h₀ L s₁.heap m) (e2 : News h₀ L s₁.heap news) (e3 : IsRange s₁.heap r 0 b 1 t u v) (e4 : Builtin.Range.small 0 b 1 = true) (e5 : Builtin.Range.rangeSize 0 b 1 = ((n : Nat) : Int)) (e6 : Inv 0 [] s₁.toks) (e7 : (∀ i ys (t : Nat) I oI C oC D m₂ h (lo tk : Nat) (E' : Value → Shared → Prop), i < n → Inv i ys lo → lo ≤ t → t < tk → NsObj oC m₂ → m₂ x = some (.int (i : Int) t) → Fr h₀ L h m → News h₀ L h ((I, oI) :: (C, oC) :: (D, lst ys) :: news) → Off3 I C D news → ((@Ne Nat I C) ∧ (@Ne Nat I D) ∧ (@Ne Nat C D)) →
        wpAny (model prog w) A (isTrue ct (compEnvC scope cl C env) (eval ct (compEnvC scope cl C env))) (fun ok s' => if ok = true then
          wpAny (model prog w) A (eval elt (compEnvC scope cl C env)) (CEnd h₀ L m { s₁ with heap := h, toks := tk } I oI C oC D (lst ys) (fun y nw tk' => nw = news ∧ Inv (i + 1) (ys ++ [y]) tk')) E' s'
          else CEnd h₀ L m { s₁ with heap := h, toks := tk } I oI C oC D (lst ys) (fun _ nw tk' => nw = news ∧ Inv (i + 1) ys tk') Value.none s') E' { s₁ with heap := h, toks := tk })) (e8 : (∀ D ys h lo tk, Inv n ys lo → lo ≤ tk → Fr h₀ L h m → News h₀ L h ((D, lst ys) :: news) → (∀ p ∈ news, p.1 ≠ D) → Q (.ref D) { s₁ with heap := h, toks := tk })) : HCR prog w A h₀ L m env ct elt x scope cl Q n news Inv xv s₁
theorem x_compR {ct elt iter : Expr} {x : Str} {px : Pos} {scope : Scope} {cl : List (Str × Addr)} {pos : Pos} {Q : Value → Shared → Prop} {n : Nat} {news : List (Addr × Obj)} (Inv : Nat → List Value → Nat → Prop) (_ : Fr h₀ L s.heap m) (_ : News h₀ L s.heap news)
    (hclos : closureFor scope env = pure cl) (hcell : ∀ y ∈ scope.names, y.2 ≠ .cell) (hkind : scope.kind = .function)
    (hnames : ∀ y ∈ scope.names, y.2 = .local → scope.names.lookup y.1 = some .local) (hx : scope.names.lookup x = some .local) (hh : A.handled = none) (hsz : n ≤ sizeLine)
    (h : wpAny (model prog w) A (eval iter env) (fun xv s₁ => Hold (HCR prog w A h₀ L m env ct elt x scope cl Q n news Inv xv s₁)) E s)
    (hs : ∀ x, foldedSetIterable iter env x = pure x := by intro _; rfl) :
    wpAny (model prog w) A (eval (.ListComp elt [⟨.Name x px, iter, [ct], 0⟩] scope pos) env) Q E s := by
  rw [eval_ListComp]
  refine wpAny_comprehension_free (use := none) rfl hs hclos hkind hnames (wpAny_mono h (fun xv s₁ h₁ => ?_) fun _ _ e => e)
  obtain ⟨r, b, t, u, v, rfl, F1, N1, hr, hsm, hn, hI0, turn, done⟩ := h₁.out
  refine wpAny_pyIter_range hr hsm ?_
  refine blockR (h₀ := h₀) (L := L) (m := m) (n := n) (news := news) Inv hcell hkind hx hh hsz (by show IsRangeIter _ _ _ _ _; rw [hn]; exact Heap.get?_push_size _ rfl) (F1.push _) (fun p hp => ⟨Heap.get?_push_of_some _ (N1 p hp).1, (N1 p hp).2⟩)
    (Nat.ne_of_gt F1.ns.lt) (next_is_new F1) (fun p hp => Nat.ne_of_lt (Heap.lt_size (N1 p hp).1)) hI0 (fun i ys t oI C oC D m₂ h lo tk E' => turn i ys t _ oI C oC D m₂ h lo tk E') ?_
  rintro C D ys m' h' tk ⟨lo, hle, hI⟩ P F' hn' hD' N'
  refine ⟨m', hn', fun h'' hs'' => done D ys h'' lo tk hI hle (F'.change hs'' P.CL P.C0) (fun p hp => ?_) (fun p hp => (P.off.mem p hp).2.2)⟩
  rcases List.mem_cons.mp hp with rfl | hp
  · exact ⟨hs''.extBut _ _ P.CD.symm hD', P.DL, P.D0⟩
  · exact ⟨hs''.extBut _ _ (P.off.mem p hp).2.1 (N' p hp).1, (N' p hp).2⟩
inductive HCRA (prog : Program) (w : World) (A : Around) (h₀ : Heap) (L : Addr) (m : Str → Option Value) (env : Env) (ct elt : Expr) (x y : Str) (scope : Scope) (cl : List (Str × Addr)) (Q : Flow → Shared → Prop) (n : Nat) (news : List (Addr × Obj)) (Inv : Nat → List Value → Nat → Prop) (xv : Value) (s₁ : Shared) : Prop
  | intro (r : Addr) (b : Int) (t u v : Tok) (e0 : xv = .ref r) (e1 : Fr h₀ L s₁.heap m) (e2 : News h₀ L s₁.heap news) (e3 : IsRange s₁.heap r 0 b 1 t u v) (e4 : Builtin.Range.small 0 b 1 = true) (e5 : Builtin.Range.rangeSize 0 b 1 = ((n : Nat) : Int)) (e6 : Inv 0 [] s₁.toks) (e7 : (∀ i ys (t : Nat) I oI C oC D m₂ h (lo tk : Nat) (E' : Value → Shared → Prop), i < n → Inv i ys lo → lo ≤ t → t < tk → NsObj oC m₂ → m₂ x = some (.int (i : Int) t) → Fr h₀ L h m → News h₀ L h ((I, oI) :: (C, oC) :: (D, lst ys) :: news) → Off3 I C D news → ((@Ne Nat I C) ∧ (@Ne Nat I D) ∧ (@Ne Nat C D)) →
        wpAny (model prog w) A (isTrue ct (compEnvC scope cl C env) (eval ct (compEnvC scope cl C env))) (fun ok s' => if ok = true then
          wpAny (model prog w) A (eval elt (compEnvC scope cl C env)) (CEnd h₀ L m { s₁ with heap := h, toks := tk } I oI C oC D (lst ys) (fun y nw tk' => nw = news ∧ Inv (i + 1) (ys ++ [y]) tk')) E' s'
          else CEnd h₀ L m { s₁ with heap := h, toks := tk } I oI C oC D (lst ys) (fun _ nw tk' => nw = news ∧ Inv (i + 1) ys tk') Value.none s') E' { s₁ with heap := h, toks := tk })) (e8 : (∀ D ys h lo tk, Inv n ys lo → lo ≤ tk → Fr h₀ L h (fun z => if z = y then some (.ref D) else m z) → News h₀ L h ((D, lst ys) :: news) → (∀ p ∈ news, p.1 ≠ D) → Q .next { s₁ with heap := h, toks := tk })) : HCRA prog w A h₀ L m env ct elt x y scope cl Q n news Inv xv s₁
theorem x_compRA {ct elt iter : Expr} {x y : Str} {px py : Pos} {scope : Scope} {cl : List (Str × Addr)} {pos spos : Pos} {Q : Flow → Shared → Prop} {n : Nat} {news : List (Addr × Obj)} (Inv : Nat → List Value → Nat → Prop) (_ : Fr h₀ L s.heap m) (_ : News h₀ L s.heap news)
    (hLe : env.locals = L) (hsw : swapsWith (.ListComp elt [⟨.Name x px, iter, [ct], 0⟩] scope pos) (some (.Name y py)) spos.line env = pure true) (hy : env.kindOf y = some .local) (hpm : (env.scope.kind == .class || (env.scope.kind == .module && env.locals != env.globals)) = false)
    (hclos : closureFor scope env = pure cl) (hcell : ∀ y ∈ scope.names, y.2 ≠ .cell) (hkind : scope.kind = .function)
    (hnames : ∀ y ∈ scope.names, y.2 = .local → scope.names.lookup y.1 = some .local) (hx : scope.names.lookup x = some .local) (hh : A.handled = none) (hsz : n ≤ sizeLine)
    (h : wpAny (model prog w) A (eval iter env) (fun xv s₁ => Hold (HCRA prog w A h₀ L m env ct elt x y scope cl Q n news Inv xv s₁)) E s)
    (hs : ∀ x, foldedSetIterable iter env x = pure x := by intro _; rfl) :
    wpAny (model prog w) A (exec (.Assign [.Name y py] (.ListComp elt [⟨.Name x px, iter, [ct], 0⟩] scope pos) spos) env) Q E s := by
  subst hLe
  rw [exec_Assign_Name_used _ _ _ _ hsw]
  refine wpAny_bind (wpAny_standAt (wpAny_bind ?_))
  show wpAny _ A (do let _ ← comprehension (.ListComp elt [⟨.Name x px, iter, [ct], 0⟩] scope pos) scope env _ (newList []) false (eval iter env) (some (assign (.Name y py) env))) _ _ s
  refine wpAny_bind (wpAny_mono (wpAny_comprehension_free (use := some (assign (.Name y py) env)) (Q := fun _ s' => Q .next s') rfl hs hclos hkind hnames
    (wpAny_mono h (fun xv s₁ h₁ => ?_) fun _ _ e => e)) (fun _ s' hq => wpAny_pure (wpAny_pure hq)) fun _ _ e => e)
  obtain ⟨r, b, t, u, v, rfl, F1, N1, hr, hsm, hn, hI0, turn, done⟩ := h₁.out
  refine wpAny_pyIter_range hr hsm ?_
  refine blockR (h₀ := h₀) (L := env.locals) (m := m) (n := n) (news := news) Inv hcell hkind hx hh hsz (by show IsRangeIter _ _ _ _ _; rw [hn]; exact Heap.get?_push_size _ rfl) (F1.push _) (fun p hp => ⟨Heap.get?_push_of_some _ (N1 p hp).1, (N1 p hp).2⟩)
    (Nat.ne_of_gt F1.ns.lt) (next_is_new F1) (fun p hp => Nat.ne_of_lt (Heap.lt_size (N1 p hp).1)) hI0 (fun i ys t oI C oC D m₂ h lo tk E' => turn i ys t _ oI C oC D m₂ h lo tk E') ?_
  rintro C D ys m' h' tk ⟨lo, hle, hI⟩ P F' hn' hD' N'
  show wpAny _ A (assign (.Name y py) env (.ref D)) _ _ _
  refine wpAny_assign_Name (wpAny_storeName_local hy F'.ns (fun h₂ hn₂ hs₂ => ?_) hpm)
  have hL₀ : h₀.get? env.locals = none := Heap.get?_none_of_le F'.above
  have F₂ : Fr h₀ env.locals h₂ (fun z => if z = y then some (.ref D) else m z) := ⟨hn₂, fun b o e => hs₂.extBut b o (fun q => by rw [q, hL₀] at e; cases e) (F'.keep b o e), F'.above⟩
  refine ⟨m', hn'.sameBut hs₂ P.CL, fun h'' hs'' => done D ys h'' lo _ hI (Nat.le_succ_of_le hle) (F₂.change hs'' P.CL P.C0) (fun p hp => ?_) (fun p hp => (P.off.mem p hp).2.2)⟩
  rcases List.mem_cons.mp hp with rfl | hp
  · exact ⟨hs''.extBut _ _ P.CD.symm (hs₂.extBut _ _ P.DL hD'), P.DL, P.D0⟩
  · exact ⟨hs''.extBut _ _ (P.off.mem p hp).2.1 (hs₂.extBut _ _ (N' p hp).2.1 (N' p hp).1), (N' p hp).2⟩
end
end Y33
namespace Y33
section
variable {prog : Program} {w : World} {A : Around} {E : Value → Shared → Prop} {s : Shared} {env : Env} {h₀ : Heap} {x : Str} {px : Pos} {body orelse : List Stmt} {Q : Flow → Shared → Prop}
/-- a range loop whose target is no plain local (a cell) -/
theorem x_rangeG {σ : Type} {r : Addr} {a₀ b₀ : Int} {t₀ u₀ v₀ : Tok} {n : Nat} {m₀ : Str → Option Value} (Led : σ → List (Addr × Obj)) (ps : σ → List (Str × Value)) (Pc : Nat → σ → Nat → Prop) (c₀ : σ)
    (hh : A.handled = none) (hr : IsRange s.heap r a₀ b₀ 1 t₀ u₀ v₀) (hsmall : Builtin.Range.small a₀ b₀ 1 = true) (hn : Builtin.Range.rangeSize a₀ b₀ 1 = (n : Int))
    (F : Fr h₀ env.locals s.heap m₀) (N : News h₀ env.locals s.heap (Led c₀)) (hk : ∀ p ∈ ps c₀, m₀ p.1 = some p.2) (hP : Pc 0 c₀ s.toks)
    (turn : ∀ (c : σ) (i : Nat) (t : Nat) m₁ h (lo tk : Nat) I oI, i < n → Pc i c lo → lo ≤ t → t < tk → oI.cls = .type "range_iterator" → (∀ p ∈ Led c, p.1 ≠ I) →
      Fr h₀ env.locals h (mapB m₁ (ps c)) → News h₀ env.locals h ((I, oI) :: Led c) →
      wpAny (model prog w) A (assign (.Name x px) env (.int (a₀ + (i : Int)) t)) (fun _ s₂ => wpAny (model prog w) A (execs body env) (TPostT h₀ env.locals Led ps [(I, oI)] (Pc (i + 1)) { s with heap := h, toks := tk } Q) E s₂) E { s with heap := h, toks := tk })
    (done : ∀ (c : σ) m₁ h lo tk, Pc n c lo → lo ≤ tk → Fr h₀ env.locals h (mapB m₁ (ps c)) → News h₀ env.locals h (Led c) → wpAny (model prog w) A (execs orelse env) Q E { s with heap := h, toks := tk }) :
    wpAny (model prog w) A (pyIter (.ref r)) (fun it s₂ => XL prog w A env (.Name x px) body orelse Q E it s₂) E s := by
  refine wpAny_pyIter_range hr hsmall ?_
  refine x_coreT (tk0 := s.toks) (ws := [(s.heap.objs.size, "range_iterator")]) Led ps Pc c₀ (KTT.range hh _ a₀ n) ?_ ?_ ?_ ?_ ?_ ?_ (by show IsRangeIter _ _ _ _ _; rw [hn]; simpa using Heap.get?_push_size _ rfl) (F.push _) (fun p hp => ⟨Heap.get?_push_of_some _ (N p hp).1, (N p hp).2⟩) hk hP ?_ done
  · intro i h st; exact ⟨[(s.heap.objs.size, _)], ⟨⟨rfl, rfl⟩, trivial⟩, fun p hp => by rw [List.mem_singleton.mp hp]; exact st⟩
  · intro b hb; have e : b = s.heap.objs.size := by simpa using hb
    subst e; exact ⟨List.mem_singleton.mpr rfl, next_is_new F⟩
  · intro b hb; simpa using hb
  · intro b hb; exact .inl (by simpa using hb)
  · intro hm; exact absurd F.ns.lt ((List.mem_singleton.mp hm) ▸ Nat.lt_irrefl _)
  · intro p hp hb
    have e : p.1 = s.heap.objs.size := by simpa using hb
    exact absurd (Heap.lt_size (N p hp).1) (e ▸ Nat.lt_irrefl _)
  · rintro c i v m₁ h lo tk its hi ⟨_, t, rfl, h1, h2⟩ hle hPc hits ho F' N'
    obtain ⟨oI, rfl, hc⟩ := objs1 hits
    exact turn c i t m₁ h lo tk _ oI hi hPc h1 h2 hc (fun p hp => ho p hp _ (List.mem_singleton.mpr rfl)) F' N'
theorem x_rangeT {σ : Type} {r : Addr} {a₀ b₀ : Int} {t₀ u₀ v₀ : Tok} {n : Nat} {m₀ : Str → Option Value} (Led : σ → List (Addr × Obj)) (ps : σ → List (Str × Value)) (Pc : Nat → σ → Nat → Prop) (c₀ : σ)
    (hh : A.handled = none) (hr : IsRange s.heap r a₀ b₀ 1 t₀ u₀ v₀) (hsmall : Builtin.Range.small a₀ b₀ 1 = true) (hn : Builtin.Range.rangeSize a₀ b₀ 1 = (n : Int))
    (hx : env.kindOf x = some .local) (hpm : (env.scope.kind == .class || (env.scope.kind == .module && env.locals != env.globals)) = false)
    (F : Fr h₀ env.locals s.heap m₀) (N : News h₀ env.locals s.heap (Led c₀)) (hk : ∀ p ∈ ps c₀, m₀ p.1 = some p.2) (hP : Pc 0 c₀ s.toks)
    (turn : ∀ (c : σ) (i : Nat) (t : Nat) m₁ h (lo tk : Nat) I oI, i < n → Pc i c lo → lo ≤ t → t < tk → oI.cls = .type "range_iterator" → (∀ p ∈ Led c, p.1 ≠ I) →
      Fr h₀ env.locals h (fun y => if y = x then some (.int (a₀ + (i : Int)) t) else mapB m₁ (ps c) y) → News h₀ env.locals h ((I, oI) :: Led c) →
      wpAny (model prog w) A (execs body env) (TPostT h₀ env.locals Led ps [(I, oI)] (Pc (i + 1)) { s with heap := h, toks := tk } Q) E { s with heap := h, toks := tk })
    (done : ∀ (c : σ) m₁ h lo tk, Pc n c lo → lo ≤ tk → Fr h₀ env.locals h (mapB m₁ (ps c)) → News h₀ env.locals h (Led c) → wpAny (model prog w) A (execs orelse env) Q E { s with heap := h, toks := tk }) :
    wpAny (model prog w) A (pyIter (.ref r)) (fun it s₂ => XL prog w A env (.Name x px) body orelse Q E it s₂) E s :=
  x_rangeG Led ps Pc c₀ hh hr hsmall hn F N hk hP (fun c i t m₁ h lo tk I oI h1 h2 h3 h4 h5 h6 F' N' => x_nameT (its := [(I, oI)]) hx hpm F' N' fun h' tk' hle F2 N2 => turn c i t m₁ h' lo tk' I oI h1 h2 h3 (Nat.lt_of_lt_of_le h4 hle) h5 h6 F2 N2) done
theorem x_range {σ : Type} {r : Addr} {a₀ b₀ : Int} {t₀ u₀ v₀ : Tok} {n : Nat} {m₀ : Str → Option Value} (Led : σ → List (Addr × Obj)) (ps : σ → List (Str × Value)) (Pc : Nat → σ → Prop) (c₀ : σ)
    (hh : A.handled = none) (hr : IsRange s.heap r a₀ b₀ 1 t₀ u₀ v₀) (hsmall : Builtin.Range.small a₀ b₀ 1 = true) (hn : Builtin.Range.rangeSize a₀ b₀ 1 = (n : Int))
    (hx : env.kindOf x = some .local) (hpm : (env.scope.kind == .class || (env.scope.kind == .module && env.locals != env.globals)) = false)
    (F : Fr h₀ env.locals s.heap m₀) (N : News h₀ env.locals s.heap (Led c₀)) (hk : ∀ p ∈ ps c₀, m₀ p.1 = some p.2) (hP : Pc 0 c₀)
    (turn : ∀ (c : σ) (i : Nat) t m₁ h tk I oI, i < n → Pc i c → oI.cls = .type "range_iterator" → (∀ p ∈ Led c, p.1 ≠ I) →
      Fr h₀ env.locals h (fun y => if y = x then some (.int (a₀ + (i : Int)) t) else mapB m₁ (ps c) y) → News h₀ env.locals h ((I, oI) :: Led c) →
      wpAny (model prog w) A (execs body env) (TPost h₀ env.locals Led ps [(I, oI)] (Pc (i + 1)) { s with heap := h, toks := tk } Q) E { s with heap := h, toks := tk })
    (done : ∀ (c : σ) m₁ h tk, Pc n c → Fr h₀ env.locals h (mapB m₁ (ps c)) → News h₀ env.locals h (Led c) → wpAny (model prog w) A (execs orelse env) Q E { s with heap := h, toks := tk }) :
    wpAny (model prog w) A (pyIter (.ref r)) (fun it s₂ => XL prog w A env (.Name x px) body orelse Q E it s₂) E s :=
  x_rangeT Led ps (fun i c _ => Pc i c) c₀ hh hr hsmall hn hx hpm F N hk hP (fun c i t m₁ h _ tk I oI h1 h2 _ _ h3 h4 h5 h6 => turn c i t m₁ h tk I oI h1 h2 h3 h4 h5 h6) (fun c m₁ h _ tk h1 _ h2 h3 => done c m₁ h tk h1 h2 h3)
end
end Y33
namespace Y33
section
variable {prog : Program} {w : World} {A : Around} {E : Value → Shared → Prop} {s : Shared} {env : Env} {h₀ : Heap} {x : Str} {px : Pos} {body orelse : List Stmt} {Q : Flow → Shared → Prop}
/-- x_str with its one iterator named -/
theorem x_str1 {σ : Type} {u : Str} {tu : Tok} {m₀ : Str → Option Value} (Led : σ → List (Addr × Obj)) (ps : σ → List (Str × Value)) (Pc : Nat → σ → Prop) (c₀ : σ)
    (hh : A.handled = none)
    (hx : env.kindOf x = some .local) (hpm : (env.scope.kind == .class || (env.scope.kind == .module && env.locals != env.globals)) = false)
    (F : Fr h₀ env.locals s.heap m₀) (N : News h₀ env.locals s.heap (Led c₀)) (hk : ∀ p ∈ ps c₀, m₀ p.1 = some p.2) (hP : Pc 0 c₀)
    (turn : ∀ (c : σ) (i : Nat) k t m₁ h tk I oI, u.cps[i]? = some k → Pc i c → (∃ cn, oI.cls = .type cn ∧ (cn = "str_ascii_iterator" ∨ cn = "str_iterator")) → (∀ p ∈ Led c, p.1 ≠ I) →
      Fr h₀ env.locals h (fun y => if y = x then some (.str ⟨#[k]⟩ t) else mapB m₁ (ps c) y) → News h₀ env.locals h ((I, oI) :: Led c) →
      wpAny (model prog w) A (execs body env) (TPost h₀ env.locals Led ps [(I, oI)] (Pc (i + 1)) { s with heap := h, toks := tk } Q) E { s with heap := h, toks := tk })
    (done : ∀ (c : σ) m₁ h tk, Pc u.cps.size c → Fr h₀ env.locals h (mapB m₁ (ps c)) → News h₀ env.locals h (Led c) → wpAny (model prog w) A (execs orelse env) Q E { s with heap := h, toks := tk }) :
    wpAny (model prog w) A (pyIter (.str u tu)) (fun it s₂ => XL prog w A env (.Name x px) body orelse Q E it s₂) E s := by
  have main : ∀ (cn : String) (o : Obj) (hcn : cn = "str_ascii_iterator" ∨ cn = "str_iterator") (W : Walks prog w A s.heap.objs.size [s.heap.objs.size] [s.heap.objs.size] u.cps.size (SignAt u) (fun i h => h.IsStrIter s.heap.objs.size cn u tu i)),
      (s.heap.push o).IsStrIter s.heap.objs.size cn u tu 0 → XL prog w A env (.Name x px) body orelse Q E (.ref s.heap.objs.size) { s with heap := s.heap.push o } := by
    intro cn o hcn W hst
    refine x_core (tk0 := s.toks) (ws := [(s.heap.objs.size, cn)]) Led ps Pc c₀ (KTurns.ofWalks (target := .Name x px) W fun i v s Q E st q => wpAny_pure q) ?_ ?_ ?_ ?_ ?_ ?_ hst (F.push _) (fun p hp => ⟨Heap.get?_push_of_some _ (N p hp).1, (N p hp).2⟩) hk hP ?_ done
    · rintro i h ⟨o, ho, hc, _⟩; exact ⟨[(s.heap.objs.size, o)], ⟨⟨rfl, hc⟩, trivial⟩, fun p hp => by rw [List.mem_singleton.mp hp]; exact ho⟩
    · intro b hb; have e : b = s.heap.objs.size := by simpa using hb
      subst e; exact ⟨List.mem_cons_self .., next_is_new F⟩
    · intro b hb; simpa using hb
    · intro b hb; exact .inl (by simpa using hb)
    · intro hm; exact absurd F.ns.lt ((List.mem_singleton.mp hm) ▸ Nat.lt_irrefl _)
    · intro p hp hb
      have e : p.1 = s.heap.objs.size := by simpa using hb
      exact absurd (Heap.lt_size (N p hp).1) (e ▸ Nat.lt_irrefl _)
    · rintro c i v m₁ h tk its hi ⟨k, t, hki, rfl⟩ hPc hits ho F' N'
      obtain ⟨oI, rfl, hc⟩ := objs1 hits
      exact x_name hx hpm F' N' fun h' tk' F'' N'' => turn c i k t m₁ h' tk' _ oI hki hPc ⟨cn, hc, hcn⟩ (fun p hp => ho p hp _ (List.mem_singleton.mpr rfl)) F'' N''
  cases ha : u.cps.all (· < 128)
  · exact wpAny_pyIter_wide ha (main _ _ (.inr rfl) (Walks.strWide hh _ u tu) ⟨_, Heap.get?_push_size _ rfl, rfl, rfl⟩)
  · exact wpAny_pyIter_ascii ha (main _ _ (.inl rfl) (Walks.strAscii hh _ u tu) ⟨_, Heap.get?_push_size _ rfl, rfl, rfl⟩)
theorem x_str {σ : Type} {u : Str} {tu : Tok} {m₀ : Str → Option Value} (Led : σ → List (Addr × Obj)) (ps : σ → List (Str × Value)) (Pc : Nat → σ → Prop) (c₀ : σ)
    (hh : A.handled = none)
    (hx : env.kindOf x = some .local) (hpm : (env.scope.kind == .class || (env.scope.kind == .module && env.locals != env.globals)) = false)
    (F : Fr h₀ env.locals s.heap m₀) (N : News h₀ env.locals s.heap (Led c₀)) (hk : ∀ p ∈ ps c₀, m₀ p.1 = some p.2) (hP : Pc 0 c₀)
    (turn : ∀ (c : σ) (i : Nat) k t m₁ h tk its, u.cps[i]? = some k → Pc i c → (∀ q ∈ its, ∃ cn, q.2.cls = .type cn ∧ (cn = "str_ascii_iterator" ∨ cn = "str_iterator")) → (∀ p ∈ Led c, ∀ q ∈ its, p.1 ≠ q.1) →
      Fr h₀ env.locals h (fun y => if y = x then some (.str ⟨#[k]⟩ t) else mapB m₁ (ps c) y) → News h₀ env.locals h (its ++ Led c) →
      wpAny (model prog w) A (execs body env) (TPost h₀ env.locals Led ps its (Pc (i + 1)) { s with heap := h, toks := tk } Q) E { s with heap := h, toks := tk })
    (done : ∀ (c : σ) m₁ h tk, Pc u.cps.size c → Fr h₀ env.locals h (mapB m₁ (ps c)) → News h₀ env.locals h (Led c) → wpAny (model prog w) A (execs orelse env) Q E { s with heap := h, toks := tk }) :
    wpAny (model prog w) A (pyIter (.str u tu)) (fun it s₂ => XL prog w A env (.Name x px) body orelse Q E it s₂) E s :=
  x_str1 Led ps Pc c₀ hh hx hpm F N hk hP (fun c i k t m₁ h tk I oI h1 h2 h3 h4 h5 h6 => turn c i k t m₁ h tk [(I, oI)] h1 h2 (fun q hq => List.mem_singleton.mp hq ▸ h3) (fun p hp q hq => List.mem_singleton.mp hq ▸ h4 p hp) h5 h6) done
end
end Y33
end
section
open PySem PySem.W PyProof.Rows PySem.Calls
set_option Elab.async false
set_option maxRecDepth 100000
set_option maxHeartbeats 2000000
namespace Y33
open LCg LCt
/-- the end of a turn of a comprehension's loop over a list -/
noncomputable def KEnd (h₀ : Heap) (L : Addr) (m : Str → Option Value) {σ : Type} (Led : σ → List (Addr × Obj)) (I : Addr) (oI : Obj) (P' : σ → Nat → Prop) (s₁ s₂ : Shared) : Prop :=
  ∃ c' h' tk all, s₂ = { s₁ with heap := h', toks := tk } ∧ Fr h₀ L h' m ∧ News h₀ L h' all ∧ (I, oI) ∈ all ∧ (∀ p ∈ Led c', p ∈ all) ∧ (∀ p ∈ Led c', p.1 ≠ I) ∧ P' c' tk
/-- a turn of a comprehension, `Bw` behind the target's store -/
noncomputable def KTurn (prog : Program) (w : World) (A : Around) (e : Expr) (d : Nat) (it acc : Value) (x : Str) (px : Pos) (cenv : Env) (Bw : (Shared → Prop) → (Value → Shared → Prop) → Shared → Prop) : Prop :=
  ∀ (s : Shared) (Q : Fin → Shared → Prop) (E : Value → Shared → Prop), wpAny (model prog w) A (pyNext it) (fun r s₁ => match r with
    | none => Q (.done .next) s₁
    | some v => wpAny (model prog w) A (assign (.Name x px) cenv v) (fun _ s₂ => Bw (fun s₃ => Q (.again (.compLoop e d it acc cenv)) s₃) E s₂) E s₁) E s → wpAny (model prog w) A (compTurn e d it acc cenv) Q E s
section
variable {prog : Program} {w : World} {A : Around} {E : Value → Shared → Prop} {s : Shared} {h₀ : Heap} {L : Addr} {m : Str → Option Value} {env : Env}
theorem kcoreL {σ : Type} {e : Expr} {d : Nat} {x : Str} {px : Pos} {Bw : (Shared → Prop) → (Value → Shared → Prop) → Shared → Prop} {I l : Addr} {vs : List Value} {k : Nat} {cenv : Env} {acc : Value} {R : Result → Shared → Prop} {hp : Heap} {tk0 : Nat}
    (Led : σ → List (Addr × Obj)) (Pc : Nat → σ → Nat → Prop) (c₀ : σ)
    (he : Code.quiet (.compLoop e d (.ref I) acc cenv) = true) (hA : A.under (.compLoop e d (.ref I) acc cenv) = A)
    (hden : (model prog w).den (.compLoop e d (.ref I) acc cenv) = (compTurn e d (.ref I) acc cenv).onRaise fun x => do noteFrame x cenv; theTreesLotGoes x)
    (heq : KTurn prog w A e d (.ref I) acc x px cenv Bw) (hmono : ∀ (P P' : Shared → Prop) E s, (∀ s, P s → P' s) → Bw P E s → Bw P' E s) (hh : A.handled = none) (hl : ∀ c, (l, W.listOf vs.toArray k) ∈ Led c) (hIL : I ≠ L) (hI0 : h₀.get? I = none) (hoff : ∀ p ∈ Led c₀, p.1 ≠ I) (hst : hp.IsListIter I l 0)
    (F : Fr h₀ L hp m) (N : News h₀ L hp (Led c₀)) (hP : Pc 0 c₀ tk0)
    (turn : ∀ (c : σ) (i : Nat) v h (tk : Nat) oI (E' : Value → Shared → Prop), vs[i]? = some v → Pc i c tk → oI.cls = .type "list_iterator" → (∀ p ∈ Led c, p.1 ≠ I) → Fr h₀ L h m → News h₀ L h ((I, oI) :: Led c) →
      wpAny (model prog w) A (assign (.Name x px) cenv v) (fun _ s₂ => Bw (KEnd h₀ L m Led I oI (Pc (i + 1)) { s with heap := h, toks := tk }) E' s₂) E' { s with heap := h, toks := tk })
    (done : ∀ (c : σ) h (tk : Nat), Pc vs.length c tk → Fr h₀ L h m → News h₀ L h (Led c) → (∀ p ∈ Led c, p.1 ≠ I) → R (.ok .next) { s with heap := h, toks := tk }) :
    codeAny (model prog w) A (.compLoop e d (.ref I) acc cenv) R { s with heap := hp, toks := tk0 } := by
  refine codeAny_loop he (fun n s' => ∃ h' tk c i, s' = { s with heap := h', toks := tk } ∧ i ≤ vs.length ∧ n = vs.length + 1 - i ∧ h'.IsListIter I l i ∧ Fr h₀ L h' m ∧ News h₀ L h' (Led c) ∧ (∀ p ∈ Led c, p.1 ≠ I) ∧ Pc i c tk) ?_ (vs.length + 1)
    ⟨hp, tk0, c₀, 0, rfl, Nat.zero_le _, rfl, hst, F, N, hoff, hP⟩
  rintro n s' ⟨h', tk, c, i, rfl, hi, rfl, hit, F', N', hoff', hPc⟩
  rw [hA, hden]
  refine wpAny_noted ?_
  refine heq _ _ _ ?_
  have hls : h'.IsList l vs.toArray := ⟨_, (N' _ (hl c)).1, rfl, _, rfl⟩
  by_cases hlt : i < vs.length
  · have hv : vs[i]? = some vs[i] := List.getElem?_eq_getElem hlt
    refine wpAny_pyNext_list_item (x := vs[i]) hit hls (by simp) fun h₁ hit₁ hs₁ => ?_
    obtain ⟨oI, hoI, hcI, hdI⟩ := hit₁
    have F₁ : Fr h₀ L h₁ m := F'.change hs₁ hIL hI0
    have N₁ : News h₀ L h₁ ((I, oI) :: Led c) := fun p hp => by
      rcases List.mem_cons.mp hp with rfl | hp
      · exact ⟨hoI, hIL, hI0⟩
      · exact ⟨hs₁.extBut _ _ (hoff' p hp) (N' p hp).1, (N' p hp).2⟩
    refine wpAny_mono (turn c i _ h₁ tk oI _ hv hPc hcI hoff' F₁ N₁) (fun _ s₂ h₂ => hmono _ _ _ _ (fun s₃ h₃ => ?_) h₂) fun _ _ y => y
    obtain ⟨c', h₃', tk₃, all, rfl, F₃, N₃, hIm, hsub, ho, hP₃⟩ := h₃
    exact ⟨rfl, vs.length + 1 - (i + 1), by omega, h₃', tk₃, c', i + 1, rfl, hlt, rfl, ⟨oI, (N₃ _ hIm).1, hcI, hdI⟩, F₃, news_sub N₃ hsub, ho, hP₃⟩
  · obtain rfl : i = vs.length := by omega
    refine wpAny_pyNext_list_end hh hit hls (by simp) fun h₁ he₁ => ?_
    exact (done c h₁ tk hPc ⟨F'.ns.at' fun o e => he₁ _ o hIL.symm e, fun b o e => he₁ b o (fun q => by rw [q, hI0] at e; cases e) (F'.keep b o e), F'.above⟩ (fun p hp => ⟨he₁ _ _ (hoff' p hp) (N' p hp).1, (N' p hp).2⟩) hoff')
/-- the target of a comprehension, a local name of its block -/
theorem kstore {C : Addr} {oC : Obj} {mC : Str → Option Value} {x : Str} {px : Pos} {v : Value} {scope : Scope} {cl : List (Str × Addr)} {pre post : List (Addr × Obj)} {Q : Unit → Shared → Prop} (F : Fr h₀ L s.heap m) (N : News h₀ L s.heap (pre ++ (C, oC) :: post)) (hoC : NsObj oC mC)
    (h1 : ∀ p ∈ pre, p.1 ≠ C) (h2 : ∀ p ∈ post, p.1 ≠ C) (hx : scope.names.lookup x = some .local) (hkind : scope.kind = .function)
    (h : ∀ h' oC', NsObj oC' (fun y => if y = x then some v else mC y) → Fr h₀ L h' m → News h₀ L h' (pre ++ (C, oC') :: post) → Q () { s with heap := h', toks := s.toks + 1 }) :
    wpAny (model prog w) A (assign (.Name x px) (compEnvC scope cl C env) v) Q E s := by
  have z := N (C, oC) (List.mem_append_right _ (List.mem_cons_self ..))
  refine wpAny_assign_Name (wpAny_storeName_local (lookup_relabel_local hx) (hoC.ns z.1) (fun h' hn hs => ?_) (by simp [compEnvC, relabel, hkind]))
  obtain ⟨oC', heC, hoC'⟩ := ns_obj hn
  exact h h' oC' hoC' (F.change hs z.2.1 z.2.2) (N.setAt h1 h2 hs heC)

/-- where a comprehension's namespace and list come to lie -/
theorem kstart {elt : Expr} {gens : List Comprehension} {scope : Scope} {cl : List (Str × Addr)} {pos : Pos} {I l : Addr} {news : List (Addr × Obj)} {g : Comprehension} {gs : List Comprehension} {RR : Value → Addr → Result → Shared → Prop}
    (hg : gens = g :: gs) (hga : g.is_async = 0) (hcell : ∀ y ∈ scope.names, y.2 ≠ .cell) (hkind : scope.kind = .function) (hst : s.heap.IsListIter I l 0) (F : Fr h₀ L s.heap m) (N : News h₀ L s.heap news)
    (h : ∀ C D oC h, NsObj oC (fun _ => none) → Fr h₀ L h m → News h₀ L h ((C, oC) :: (D, lst []) :: news) → C ≠ D → C ≠ I → D ≠ I → (∀ p ∈ news, p.1 < C ∧ p.1 < D) → h.IsListIter I l 0 →
      codeAny (model prog w) A (.compLoop (.ListComp elt gens scope pos) 0 (.ref I) (.ref D) (compEnvC scope cl C env)) (RR (.ref D) C) { s with heap := h, toks := s.toks }) :
    wpAny (model prog w) A (newList []) (fun acc s₃ => wpAny (model prog w) A (newFunctionEnv scope env.globals cl [] env.qual none .none (some env)) (fun cenv s₄ =>
      codeAny (model prog w) A (.compStart (.ListComp elt gens scope pos) 0 (.ref I) acc { cenv with scope := relabel scope env }) (RR acc cenv.locals) s₄) E s₃) E s := by
  refine wpAny_newObj_type (wpAny_newFunctionEnv hcell (by intro y hy; simp at hy) (fun h₁ hns₁ hsb₁ => ?_) hkind)
  try dsimp only at hns₁ hsb₁ ⊢
  generalize hH2 : s.heap.push { cls := .type "list", dict := none, data := .seq ([] : List Value).toArray } = H2 at hns₁ hsb₁ ⊢
  have hC : H2.objs.size = s.heap.objs.size + 1 := by rw [← hH2, Heap.size_push]
  have low : ∀ {b o}, s.heap.get? b = some o → b < H2.objs.size ∧ b < s.heap.objs.size := fun e => by have := Heap.lt_size e; exact ⟨by rw [hC]; exact Nat.lt_succ_of_lt this, this⟩
  have old : ∀ b o, s.heap.get? b = some o → h₁.get? b = some o := fun b o e => hsb₁.extBut b o (Nat.ne_of_lt (low e).1) (Heap.get?_push_of_some _ (hH2 ▸ Heap.get?_push_of_some _ e))
  have fresh₀ : ∀ a, s.heap.objs.size ≤ a → h₀.get? a = none := fun a ha => by
    cases e : h₀.get? a with
    | none => rfl
    | some o' => exact absurd (Heap.lt_size (F.keep a o' e)) (Nat.not_lt.mpr ha)
  obtain ⟨oI, hIe, hIr⟩ := hst
  obtain ⟨oL, hLe⟩ : ∃ o, s.heap.get? L = some o := by obtain ⟨o, _, _, e, _⟩ := F.ns; exact ⟨o, e⟩
  have hCD : H2.objs.size ≠ s.heap.objs.size := by rw [hC]; exact Nat.succ_ne_self _
  obtain ⟨oC, heC, hoC⟩ := ns_obj hns₁
  have hoC' : NsObj oC (fun _ => none) := by simpa using hoC
  have hD : h₁.get? s.heap.objs.size = some (lst []) := hsb₁.extBut _ _ hCD.symm (Heap.get?_push_of_some _ (hH2 ▸ Heap.get?_push_size _ rfl))
  have N₁ : News h₀ L h₁ ((H2.objs.size, oC) :: (s.heap.objs.size, lst []) :: news) := fun p hp => by
    rcases List.mem_cons.mp hp with rfl | hp
    · exact ⟨heC, Nat.ne_of_gt (low hLe).1, fresh₀ _ (by rw [hC]; exact Nat.le_succ _)⟩
    rcases List.mem_cons.mp hp with rfl | hp
    · exact ⟨hD, Nat.ne_of_gt (low hLe).2, fresh₀ _ (Nat.le_refl _)⟩
    · exact ⟨old _ _ (N p hp).1, (N p hp).2⟩
  have loop := h H2.objs.size s.heap.objs.size oC h₁ hoC' (F.keeps old) N₁ hCD (Nat.ne_of_gt (low hIe).1) (Nat.ne_of_gt (low hIe).2) (fun p hp => low (N p hp).1) ⟨oI, old _ _ hIe, hIr⟩
  subst hg
  obtain ⟨tgt, iter, ifs, as⟩ := g
  have : as = 0 := hga
  subst this
  exact codeAny_compStart_list loop (wpAny_pyIter_listiter ⟨oI, old _ _ hIe, hIr⟩ loop)
/-- what is behind a comprehension that is a value -/
theorem kfinE {C D : Addr} {oC : Obj} {oD : Obj} {rest : List (Addr × Obj)} {h : Heap} {tk : Nat} {Q : Value → Shared → Prop} {mC : Str → Option Value} (F : Fr h₀ L h m) (N : News h₀ L h ((C, oC) :: (D, oD) :: rest)) (hoC : NsObj oC mC) (hCD : C ≠ D) (hr : ∀ p ∈ rest, p.1 ≠ C)
    (hQ : ∀ h', Fr h₀ L h' m → News h₀ L h' ((D, oD) :: rest) → Q (.ref D) { s with heap := h', toks := tk }) : compPost (model prog w) A E none Q (.ref D) C (.ok .next) { s with heap := h, toks := tk } := by
  have z := N (C, oC) (List.mem_cons_self ..)
  refine ⟨_, hoC.ns z.1, fun h' hs => hQ h' (F.change hs z.2.1 z.2.2) fun p hp => ?_⟩
  have y := N p (List.mem_cons_of_mem _ hp)
  refine ⟨hs.extBut _ _ ?_ y.1, y.2⟩
  rcases List.mem_cons.mp hp with rfl | hp
  · exact hCD.symm
  · exact hr p hp
/-- what is behind a comprehension that is stored under a local name -/
theorem kfinA {C D : Addr} {oC : Obj} {oD : Obj} {rest : List (Addr × Obj)} {h : Heap} {tk : Nat} {Q : Flow → Shared → Prop} {mC : Str → Option Value} {y : Str} {py : Pos} (hLe : env.locals = L) (hy : env.kindOf y = some .local) (hpm : (env.scope.kind == .class || (env.scope.kind == .module && env.locals != env.globals)) = false)
    (F : Fr h₀ L h m) (N : News h₀ L h ((C, oC) :: (D, oD) :: rest)) (hoC : NsObj oC mC) (hCD : C ≠ D) (hr : ∀ p ∈ rest, p.1 ≠ C)
    (hQ : ∀ h', Fr h₀ L h' (fun z => if z = y then some (.ref D) else m z) → News h₀ L h' ((D, oD) :: rest) → Q .next { s with heap := h', toks := tk + 1 }) :
    compPost (model prog w) A E (some (assign (.Name y py) env)) (fun _ s' => Q .next s') (.ref D) C (.ok .next) { s with heap := h, toks := tk } := by
  subst hLe
  have z := N (C, oC) (List.mem_cons_self ..)
  show wpAny _ A (assign (.Name y py) env (.ref D)) _ _ _
  refine wpAny_assign_Name (wpAny_storeName_local hy F.ns (fun h₂ hn₂ hs₂ => ?_) hpm)
  have F₂ := F.set hn₂ hs₂
  have N₂ := N.set hs₂
  have z₂ := N₂ (C, oC) (List.mem_cons_self ..)
  refine ⟨_, hoC.ns z₂.1, fun h' hs => hQ h' (F₂.change hs z.2.1 z.2.2) fun p hp => ?_⟩
  have y := N₂ p (List.mem_cons_of_mem _ hp)
  refine ⟨hs.extBut _ _ ?_ y.1, y.2⟩
  rcases List.mem_cons.mp hp with rfl | hp
  · exact hCD.symm
  · exact hr p hp

noncomputable def kBw (prog : Program) (w : World) (A : Around) (acc : Value) (elt : Expr) (ifs : List Expr) (cenv : Env) (P : Shared → Prop) (E : Value → Shared → Prop) (s : Shared) : Prop :=
  wpAny (model prog w) A (forIn ifs true fun c r => if r = true then do let ok ← isTrue c cenv (eval c cenv); pure (ForInStep.yield ok) else pure (ForInStep.yield r)) (fun ok s₃ =>
    if ok = true then wpAny (model prog w) A (eval elt cenv) (fun y s₄ => wpAny (model prog w) A (call (.builtin "list.append") [acc, y]) (fun _ s₅ => P s₅) E s₄) E s₃ else P s₃) E s
theorem kturn1 {elt iter : Expr} {x : Str} {px : Pos} {ifs : List Expr} {scope : Scope} {pos : Pos} {it acc : Value} {cenv : Env} : KTurn prog w A (.ListComp elt [⟨.Name x px, iter, ifs, 0⟩] scope pos) 0 it acc x px cenv (kBw prog w A acc elt ifs cenv) := by
  intro s Q E h
  rw [compTurn_list]
  refine wpAny_bind (wpAny_standAt (wpAny_bind (wpAny_mono h (fun r s₁ h₁ => ?_) fun _ _ h' => h')))
  cases r with
  | none => exact wpAny_pure h₁
  | some v =>
    refine wpAny_bind (wpAny_of_eq (a := ()) rfl ?_)
    refine wpAny_bind (wpAny_mono h₁ (fun _ s₂ h₂ => wpAny_bind (wpAny_mono h₂ (fun ok s₃ h₃ => ?_) fun _ _ h' => h')) fun _ _ h' => h')
    cases ok with
    | false => exact wpAny_pure h₃
    | true => exact wpAny_bind (wpAny_bind (wpAny_mono h₃ (fun x s₄ h₄ => wpAny_bind (wpAny_mono h₄ (fun _ s₅ h₅ => wpAny_pure (wpAny_pure h₅)) fun _ _ h' => h')) fun _ _ h' => h'))
theorem kBw_mono {acc : Value} {elt : Expr} {ifs : List Expr} {cenv : Env} (P P' : Shared → Prop) (E : Value → Shared → Prop) (s : Shared) (h : ∀ s, P s → P' s) (x : kBw prog w A acc elt ifs cenv P E s) : kBw prog w A acc elt ifs cenv P' E s :=
  wpAny_mono x (fun ok s₃ h₃ => by
    cases ok with
    | false => exact h _ h₃
    | true => exact wpAny_mono h₃ (fun y s₄ h₄ => wpAny_mono h₄ (fun _ s₅ h₅ => h _ h₅) fun _ _ e => e) fun _ _ e => e) fun _ _ e => e
/-- the tests of a clause: none or one -/
noncomputable def KTests (prog : Program) (w : World) (A : Around) (cenv : Env) (ifs : List Expr) (Q : Bool → Shared → Prop) (E : Value → Shared → Prop) (s : Shared) : Prop :=
  match ifs with
  | [] => Q true s
  | [ct] => wpAny (model prog w) A (isTrue ct cenv (eval ct cenv)) Q E s
  | _ => False
theorem ktests {cenv : Env} {ifs : List Expr} {Q : Bool → Shared → Prop} (h : KTests prog w A cenv ifs Q E s) :
    wpAny (model prog w) A (forIn ifs true fun c r => if r = true then do let ok ← isTrue c cenv (eval c cenv); pure (ForInStep.yield ok) else pure (ForInStep.yield r)) Q E s := by
  match ifs, h with
  | [], h => exact wpAny_tests_nil h
  | [ct], h => exact wpAny_tests_one h
/-- the end of a turn, as the user shows it -/
noncomputable def KOut (h₀ : Heap) (L : Addr) (m : Str → Option Value) {σ : Type} (Led : σ → List (Addr × Obj)) (I : Addr) (oI : Obj) (C : Addr) (oC : Obj) (D : Addr) (oD : Obj) (P' : σ → Nat → Prop) (s₁ s₂ : Shared) : Prop :=
  ∃ u' h' tk all, s₂ = { s₁ with heap := h', toks := tk } ∧ Fr h₀ L h' m ∧ News h₀ L h' all ∧ (∀ p ∈ (I, oI) :: (C, oC) :: (D, oD) :: Led u', p ∈ all) ∧ Off3 I C D (Led u') ∧ P' u' tk
theorem KOut.intro {σ : Type} {Led : σ → List (Addr × Obj)} {I C D : Addr} {oI oC oD : Obj} {P' : σ → Nat → Prop} {s₁ : Shared} {h' : Heap} {tk : Nat} {all : List (Addr × Obj)} (u' : σ)
    (F : Fr h₀ L h' m) (N : News h₀ L h' all) (sub : ∀ p ∈ (I, oI) :: (C, oC) :: (D, oD) :: Led u', p ∈ all) (off : Off3 I C D (Led u')) (r : P' u' tk) :
    KOut h₀ L m Led I oI C oC D oD P' s₁ { s₁ with heap := h', toks := tk } := ⟨u', h', tk, all, rfl, F, N, sub, off, r⟩
structure KS (σ : Type) where
  u : σ
  oC : Obj
  ys : List Value
theorem kblock {σ : Type} {elt iter : Expr} {x : Str} {px : Pos} {ifs : List Expr} {scope : Scope} {cl : List (Str × Addr)} {pos : Pos} {I l : Addr} {vs : List Value} {k : Nat} {RR : Value → Addr → Result → Shared → Prop}
    (Led : σ → List (Addr × Obj)) (Inv : Nat → σ → List Value → Nat → Prop) (u₀ : σ)
    (hcell : ∀ y ∈ scope.names, y.2 ≠ .cell) (hkind : scope.kind = .function) (hx : scope.names.lookup x = some .local) (hh : A.handled = none) (hsz : vs.length ≤ sizeLine)
    (hl : ∀ u, (l, W.listOf vs.toArray k) ∈ Led u) (hst : s.heap.IsListIter I l 0) (F : Fr h₀ L s.heap m) (N : News h₀ L s.heap (Led u₀)) (hIL : I ≠ L) (hI0 : h₀.get? I = none) (hoff : ∀ p ∈ Led u₀, p.1 ≠ I) (hP : Inv 0 u₀ [] s.toks)
    (turn : ∀ (u : σ) (i : Nat) v ys I oI C oC D mC h (lo tk : Nat) (E' : Value → Shared → Prop), vs[i]? = some v → Inv i u ys lo → lo < tk → oI.cls = .type "list_iterator" → NsObj oC mC → mC x = some v → Fr h₀ L h m → News h₀ L h ((I, oI) :: (C, oC) :: (D, lst ys) :: Led u) → Off3 I C D (Led u) → (@Ne Nat I C ∧ @Ne Nat I D ∧ @Ne Nat C D) →
      KTests prog w A (compEnvC scope cl C env) ifs (fun ok s' => if ok = true then
          wpAny (model prog w) A (eval elt (compEnvC scope cl C env)) (fun y => KOut h₀ L m Led I oI C oC D (lst ys) (fun u' tk' => Inv (i + 1) u' (ys ++ [y]) tk') { s with heap := h, toks := tk }) E' s'
        else KOut h₀ L m Led I oI C oC D (lst ys) (fun u' tk' => Inv (i + 1) u' ys tk') { s with heap := h, toks := tk } s') E' { s with heap := h, toks := tk })
    (done : ∀ C D oC mC u ys h tk, NsObj oC mC → Inv vs.length u ys tk → Fr h₀ L h m → News h₀ L h ((C, oC) :: (D, lst ys) :: Led u) → C ≠ D → (∀ p ∈ Led u, p.1 ≠ C ∧ p.1 ≠ D) → (∀ p ∈ Led u₀, p.1 < D) → RR (.ref D) C (.ok .next) { s with heap := h, toks := tk }) :
    wpAny (model prog w) A (newList []) (fun acc s₃ => wpAny (model prog w) A (newFunctionEnv scope env.globals cl [] env.qual none .none (some env)) (fun cenv s₄ =>
      codeAny (model prog w) A (.compStart (.ListComp elt [⟨.Name x px, iter, ifs, 0⟩] scope pos) 0 (.ref I) acc { cenv with scope := relabel scope env }) (RR acc cenv.locals) s₄) E s₃) E s := by
  refine kstart rfl rfl hcell hkind hst F N fun C D oC h hoC F1 N1 hCD hCI hDI hlt hst1 => ?_
  refine kcoreL (σ := KS σ) (l := l) (vs := vs) (k := k) (fun c => (C, c.oC) :: (D, lst c.ys) :: Led c.u) (fun i c tk => (∃ mC, NsObj c.oC mC) ∧ Inv i c.u c.ys tk ∧ c.ys.length ≤ i ∧ ∀ p ∈ Led c.u, p.1 ≠ C ∧ p.1 ≠ D) ⟨u₀, oC, []⟩
    rfl rfl rfl kturn1 kBw_mono hh (fun c => List.mem_cons_of_mem _ (List.mem_cons_of_mem _ (hl c.u))) hIL hI0 ?hoff hst1 F1 N1 ⟨⟨_, hoC⟩, hP, Nat.le_refl _, fun p hp => ⟨Nat.ne_of_lt (hlt p hp).1, Nat.ne_of_lt (hlt p hp).2⟩⟩ ?turn ?done
  case hoff =>
    intro p hp
    rcases List.mem_cons.mp hp with rfl | hp
    · exact hCI
    rcases List.mem_cons.mp hp with rfl | hp
    · exact hDI
    · exact hoff p hp
  case turn =>
    intro cc i v h tk oI E' hv hPP hcI ho F' N'
    refine Classical.byContradiction fun hn => ?_
    obtain ⟨⟨mC, hmC⟩, hInv, hyl, hnC⟩ := hPP
    refine hn ?_
    clear hn
    try dsimp only at hInv hyl hnC ho N' hmC
    have hil := (List.getElem?_eq_some_iff.mp hv).1
    refine kstore (pre := [(I, oI)]) (post := (D, lst cc.ys) :: Led cc.u) F' N' hmC (fun p hp => by rw [List.mem_singleton.mp hp]; exact hCI.symm) (fun p hp => ?_) hx hkind fun h2 oC2 hoC2 F2 N2 => ?_
    · rcases List.mem_cons.mp hp with rfl | hp
      · exact hCD.symm
      · exact (hnC p hp).1
    refine ktests ?_
    have hoff3 : Off3 I C D (Led cc.u) := Off3.of fun p hp => ⟨ho p (List.mem_cons_of_mem _ (List.mem_cons_of_mem _ hp)), hnC p hp⟩
    have T := turn cc.u i v cc.ys I oI C oC2 D _ h2 tk (tk + 1) E' hv hInv (Nat.lt_succ_self _) hcI hoC2 (by simp) F2 N2 hoff3 ⟨hCI.symm, hDI.symm, hCD⟩
    have fin : ∀ y s', KOut h₀ L m Led I oI C oC2 D (lst cc.ys) (fun u' tk' => Inv (i + 1) u' (cc.ys ++ [y]) tk') { s with heap := h2, toks := tk + 1 } s' →
        wpAny (model prog w) A (call (.builtin "list.append") [.ref D, y]) (fun _ s₅ => KEnd h₀ L m (fun c : KS σ => (C, c.oC) :: (D, lst c.ys) :: Led c.u) I oI (fun c tk => (∃ mC, NsObj c.oC mC) ∧ Inv (i + 1) c.u c.ys tk ∧ c.ys.length ≤ i + 1 ∧ ∀ p ∈ Led c.u, p.1 ≠ C ∧ p.1 ≠ D) { s with heap := h, toks := tk } s₅) E' s' := by
      rintro y s' ⟨u', h3, tk3, all, rfl, F3, N3, sub, off, hI3⟩
      have zD := N3 _ (sub (D, lst cc.ys) (List.mem_cons_of_mem _ (List.mem_cons_of_mem _ (List.mem_cons_self ..))))
      have zI := N3 _ (sub (I, oI) (List.mem_cons_self ..))
      have zC := N3 _ (sub (C, oC2) (List.mem_cons_of_mem _ (List.mem_cons_self ..)))
      refine append_at (hsz := by show cc.ys.toArray.size ≤ sizeLine; rw [List.size_toArray]; omega) zD.1 fun h5 hs5 hD5 => ?_
      refine ⟨⟨u', oC2, cc.ys ++ [y]⟩, h5, tk3, (I, oI) :: (C, oC2) :: (D, lst (cc.ys ++ [y])) :: Led u', rfl, F3.change hs5 zD.2.1 zD.2.2, fun p hp => ?_, List.mem_cons_self .., fun p hp => List.mem_cons_of_mem _ hp, fun p hp => ?_, ⟨_, hoC2⟩, hI3, ?_, fun p hp => ⟨(off.mem p hp).2.1, (off.mem p hp).2.2⟩⟩
      · rcases List.mem_cons.mp hp with rfl | hp
        · exact ⟨hs5.extBut _ _ hDI.symm zI.1, zI.2⟩
        rcases List.mem_cons.mp hp with rfl | hp
        · exact ⟨hs5.extBut _ _ hCD zC.1, zC.2⟩
        rcases List.mem_cons.mp hp with rfl | hp
        · exact ⟨hD5.trans (congrArg some (lst_snoc cc.ys y)), zD.2⟩
        · have z := N3 p (sub p (List.mem_cons_of_mem _ (List.mem_cons_of_mem _ (List.mem_cons_of_mem _ hp))))
          exact ⟨hs5.extBut _ _ (off.mem p hp).2.2 z.1, z.2⟩
      · rcases List.mem_cons.mp hp with rfl | hp
        · exact hCI
        rcases List.mem_cons.mp hp with rfl | hp
        · exact hDI
        · exact (off.mem p hp).1
      · show (cc.ys ++ [y]).length ≤ i + 1
        rw [List.length_append, List.length_singleton]; omega
    have fin0 : ∀ s', KOut h₀ L m Led I oI C oC2 D (lst cc.ys) (fun u' tk' => Inv (i + 1) u' cc.ys tk') { s with heap := h2, toks := tk + 1 } s' →
        KEnd h₀ L m (fun c : KS σ => (C, c.oC) :: (D, lst c.ys) :: Led c.u) I oI (fun c tk => (∃ mC, NsObj c.oC mC) ∧ Inv (i + 1) c.u c.ys tk ∧ c.ys.length ≤ i + 1 ∧ ∀ p ∈ Led c.u, p.1 ≠ C ∧ p.1 ≠ D) { s with heap := h, toks := tk } s' := by
      rintro s' ⟨u', h3, tk3, all, rfl, F3, N3, sub, off, hI3⟩
      refine ⟨⟨u', oC2, cc.ys⟩, h3, tk3, all, rfl, F3, N3, sub _ (List.mem_cons_self ..), fun p hp => sub p (List.mem_cons_of_mem _ hp), fun p hp => ?_, ⟨_, hoC2⟩, hI3, ?_, fun p hp => ⟨(off.mem p hp).2.1, (off.mem p hp).2.2⟩⟩
      · rcases List.mem_cons.mp hp with rfl | hp
        · exact hCI
        rcases List.mem_cons.mp hp with rfl | hp
        · exact hDI
        · exact (off.mem p hp).1
      · show cc.ys.length ≤ i + 1
        omega
    match ifs, T with
    | [], T => exact wpAny_mono T (fun y s' hy => fin y s' hy) fun _ _ e => e
    | [ct], T =>
      refine wpAny_mono T (fun ok s' h' => ?_) fun _ _ e => e
      cases ok with
      | true => exact wpAny_mono h' (fun y s'' hy => fin y s'' hy) fun _ _ e => e
      | false => exact fin0 s' h'
  case done =>
    intro cc h tk hPP F' N' ho
    refine Classical.byContradiction fun hn => ?_
    obtain ⟨⟨mC, hmC⟩, hInv, hyl, hnC⟩ := hPP
    refine hn ?_
    clear hn
    exact done C D cc.oC mC cc.u cc.ys h tk hmC hInv F' N' hCD hnC fun p hp => (hlt p hp).2

inductive HCLE (prog : Program) (w : World) (A : Around) (h₀ : Heap) (L : Addr) (m : Str → Option Value) (env : Env) (elt : Expr) (x : Str) (ifs : List Expr) (scope : Scope) (cl : List (Str × Addr)) (Q : Value → Shared → Prop) (xv : Value) (s₁ : Shared) : Prop
  | intro (σ : Type) (l : Addr) (vs : List Value) (k : Nat) (Led : σ → List (Addr × Obj)) (Inv : Nat → σ → List Value → Nat → Prop) (u₀ : σ) (e0 : xv = .ref l) (e1 : vs.length ≤ sizeLine) (e2 : (∀ u, (l, W.listOf vs.toArray k) ∈ Led u)) (e3 : Fr h₀ L s₁.heap m) (e4 : News h₀ L s₁.heap (Led u₀)) (e5 : Inv 0 u₀ [] s₁.toks) (e6 : (∀ (u : σ) (i : Nat) v ys I oI C oC D mC h (lo tk : Nat) (E' : Value → Shared → Prop), vs[i]? = some v → Inv i u ys lo → lo < tk → oI.cls = .type "list_iterator" → NsObj oC mC → mC x = some v → Fr h₀ L h m → News h₀ L h ((I, oI) :: (C, oC) :: (D, lst ys) :: Led u) → Off3 I C D (Led u) → (@Ne Nat I C ∧ @Ne Nat I D ∧ @Ne Nat C D) →
      KTests prog w A (compEnvC scope cl C env) ifs (fun ok s' => if ok = true then
          wpAny (model prog w) A (eval elt (compEnvC scope cl C env)) (fun y => KOut h₀ L m Led I oI C oC D (lst ys) (fun u' tk' => Inv (i + 1) u' (ys ++ [y]) tk') { s₁ with heap := h, toks := tk }) E' s'
        else KOut h₀ L m Led I oI C oC D (lst ys) (fun u' tk' => Inv (i + 1) u' ys tk') { s₁ with heap := h, toks := tk } s') E' { s₁ with heap := h, toks := tk })) (e7 : (∀ D u ys h tk, Inv vs.length u ys tk → Fr h₀ L h m → News h₀ L h ((D, lst ys) :: Led u) → (∀ p ∈ Led u, p.1 ≠ D) → (∀ p ∈ Led u₀, p.1 < D) → Q (.ref D) { s₁ with heap := h, toks := tk })) : HCLE prog w A h₀ L m env elt x ifs scope cl Q xv s₁
theorem x_compLE {elt iter : Expr} {x : Str} {px : Pos} {ifs : List Expr} {scope : Scope} {cl : List (Str × Addr)} {pos : Pos} {Q : Value → Shared → Prop} (_ : Fr h₀ L s.heap m)
    (hclos : closureFor scope env = pure cl) (hcell : ∀ y ∈ scope.names, y.2 ≠ .cell) (hkind : scope.kind = .function)
    (hnames : ∀ y ∈ scope.names, y.2 = .local → scope.names.lookup y.1 = some .local) (hx : scope.names.lookup x = some .local) (hh : A.handled = none)
    (h : wpAny (model prog w) A (eval iter env) (fun xv s₁ => Hold (HCLE prog w A h₀ L m env elt x ifs scope cl Q xv s₁)) E s)
    (hs : ∀ x, foldedSetIterable iter env x = pure x := by intro _; rfl) :
    wpAny (model prog w) A (eval (.ListComp elt [⟨.Name x px, iter, ifs, 0⟩] scope pos) env) Q E s := by
  rw [eval_ListComp]
  refine wpAny_comprehension_free (use := none) rfl hs hclos hkind hnames (wpAny_mono h (fun xv s₁ h₁ => ?_) fun _ _ e => e)
  obtain ⟨σ, l, vs, k, Led, Inv, u₀, rfl, hsz, hl, F1, N1, hI, turn, done⟩ := h₁.out
  have hls : s₁.heap.IsList l vs.toArray := ⟨_, (N1 _ (hl u₀)).1, rfl, _, rfl⟩
  refine wpAny_pyIter_list hls ?_
  refine kblock (k := k) Led Inv u₀ hcell hkind hx hh hsz hl ⟨_, Heap.get?_push_size _ rfl, rfl, rfl⟩ (F1.push _) (fun p hp => ⟨Heap.get?_push_of_some _ (N1 p hp).1, (N1 p hp).2⟩) (Nat.ne_of_gt F1.ns.lt) (next_is_new F1) (fun p hp => Nat.ne_of_lt (Heap.lt_size (N1 p hp).1)) hI turn ?_
  intro C D oC mC u ys h tk hoC hInv F2 N2 hCD hn hlt
  exact kfinE F2 N2 hoC hCD (fun p hp => (hn p hp).1) fun h' F3 N3 => done D u ys h' tk hInv F3 N3 (fun p hp => (hn p hp).2) hlt
inductive HCLA (prog : Program) (w : World) (A : Around) (h₀ : Heap) (L : Addr) (m : Str → Option Value) (env : Env) (elt : Expr) (x y : Str) (ifs : List Expr) (scope : Scope) (cl : List (Str × Addr)) (Q : Flow → Shared → Prop) (xv : Value) (s₁ : Shared) : Prop
  | intro (σ : Type) (l : Addr) (vs : List Value) (k : Nat) (Led : σ → List (Addr × Obj)) (Inv : Nat → σ → List Value → Nat → Prop) (u₀ : σ) (e0 : xv = .ref l) (e1 : vs.length ≤ sizeLine) (e2 : (∀ u, (l, W.listOf vs.toArray k) ∈ Led u)) (e3 : Fr h₀ L s₁.heap m) (e4 : News h₀ L s₁.heap (Led u₀)) (e5 : Inv 0 u₀ [] s₁.toks) (e6 : (∀ (u : σ) (i : Nat) v ys I oI C oC D mC h (lo tk : Nat) (E' : Value → Shared → Prop), vs[i]? = some v → Inv i u ys lo → lo < tk → oI.cls = .type "list_iterator" → NsObj oC mC → mC x = some v → Fr h₀ L h m → News h₀ L h ((I, oI) :: (C, oC) :: (D, lst ys) :: Led u) → Off3 I C D (Led u) → (@Ne Nat I C ∧ @Ne Nat I D ∧ @Ne Nat C D) →
      KTests prog w A (compEnvC scope cl C env) ifs (fun ok s' => if ok = true then
          wpAny (model prog w) A (eval elt (compEnvC scope cl C env)) (fun y => KOut h₀ L m Led I oI C oC D (lst ys) (fun u' tk' => Inv (i + 1) u' (ys ++ [y]) tk') { s₁ with heap := h, toks := tk }) E' s'
        else KOut h₀ L m Led I oI C oC D (lst ys) (fun u' tk' => Inv (i + 1) u' ys tk') { s₁ with heap := h, toks := tk } s') E' { s₁ with heap := h, toks := tk })) (e7 : (∀ D u ys h (lo tk : Nat), Inv vs.length u ys lo → lo < tk → Fr h₀ L h (fun z => if z = y then some (.ref D) else m z) → News h₀ L h ((D, lst ys) :: Led u) → (∀ p ∈ Led u, p.1 ≠ D) → (∀ p ∈ Led u₀, p.1 < D) → Q .next { s₁ with heap := h, toks := tk })) : HCLA prog w A h₀ L m env elt x y ifs scope cl Q xv s₁
theorem x_compLA {elt iter : Expr} {x y : Str} {px py : Pos} {ifs : List Expr} {scope : Scope} {cl : List (Str × Addr)} {pos spos : Pos} {Q : Flow → Shared → Prop} (_ : Fr h₀ L s.heap m)
    (hLe : env.locals = L) (hsw : swapsWith (.ListComp elt [⟨.Name x px, iter, ifs, 0⟩] scope pos) (some (.Name y py)) spos.line env = pure true) (hy : env.kindOf y = some .local) (hpm : (env.scope.kind == .class || (env.scope.kind == .module && env.locals != env.globals)) = false)
    (hclos : closureFor scope env = pure cl) (hcell : ∀ y ∈ scope.names, y.2 ≠ .cell) (hkind : scope.kind = .function)
    (hnames : ∀ y ∈ scope.names, y.2 = .local → scope.names.lookup y.1 = some .local) (hx : scope.names.lookup x = some .local) (hh : A.handled = none)
    (h : wpAny (model prog w) A (eval iter env) (fun xv s₁ => Hold (HCLA prog w A h₀ L m env elt x y ifs scope cl Q xv s₁)) E s)
    (hs : ∀ x, foldedSetIterable iter env x = pure x := by intro _; rfl) :
    wpAny (model prog w) A (exec (.Assign [.Name y py] (.ListComp elt [⟨.Name x px, iter, ifs, 0⟩] scope pos) spos) env) Q E s := by
  rw [exec_Assign_Name_used _ _ _ _ hsw]
  refine wpAny_bind (wpAny_standAt (wpAny_bind ?_))
  show wpAny _ A (do let _ ← comprehension (.ListComp elt [⟨.Name x px, iter, ifs, 0⟩] scope pos) scope env _ (newList []) false (eval iter env) (some (assign (.Name y py) env))) _ _ s
  refine wpAny_bind (wpAny_mono (wpAny_comprehension_free (use := some (assign (.Name y py) env)) (Q := fun _ s' => Q .next s') rfl hs hclos hkind hnames
    (wpAny_mono h (fun xv s₁ h₁ => ?_) fun _ _ e => e)) (fun _ s' hq => wpAny_pure (wpAny_pure hq)) fun _ _ e => e)
  obtain ⟨σ, l, vs, k, Led, Inv, u₀, rfl, hsz, hl, F1, N1, hI, turn, done⟩ := h₁.out
  have hls : s₁.heap.IsList l vs.toArray := ⟨_, (N1 _ (hl u₀)).1, rfl, _, rfl⟩
  refine wpAny_pyIter_list hls ?_
  refine kblock (k := k) Led Inv u₀ hcell hkind hx hh hsz hl ⟨_, Heap.get?_push_size _ rfl, rfl, rfl⟩ (F1.push _) (fun p hp => ⟨Heap.get?_push_of_some _ (N1 p hp).1, (N1 p hp).2⟩) (Nat.ne_of_gt F1.ns.lt) (next_is_new F1) (fun p hp => Nat.ne_of_lt (Heap.lt_size (N1 p hp).1)) hI turn ?_
  intro C D oC mC u ys h tk hoC hInv F2 N2 hCD hn hlt
  exact kfinA hLe hy hpm F2 N2 hoC hCD (fun p hp => (hn p hp).1) fun h' F3 N3 => done D u ys h' tk (tk + 1) hInv (Nat.lt_succ_self _) F3 N3 (fun p hp => (hn p hp).2) hlt
end
end Y33
end
section
open PySem PySem.W PyProof.Rows PySem.Calls
set_option Elab.async false
set_option maxRecDepth 100000
set_option maxHeartbeats 2000000
namespace Y33
open LCg LCt
section
variable {prog : Program} {w : World} {A : Around} {E : Value → Shared → Prop} {s : Shared} {h₀ : Heap} {L : Addr} {m : Str → Option Value} {env : Env}
/-- behind the outer target of a comprehension of two clauses -/
noncomputable def kBw2 (prog : Program) (w : World) (A : Around) (e : Expr) (acc : Value) (it1 : Expr) (cenv : Env) (P : Shared → Prop) (E : Value → Shared → Prop) (s : Shared) : Prop :=
  wpAny (model prog w) A (eval it1 cenv) (fun xv s₃ => wpAny (model prog w) A (pyIter xv) (fun it' s₄ => codeAny (model prog w) A (.compStart e 1 it' acc cenv) (fun r s₅ => match r with | .ok _ => P s₅ | .error x => cameBackBy (model prog w) A cenv E x s₅) s₄) E s₃) E s
theorem kBw2_mono {e : Expr} {acc : Value} {it1 : Expr} {cenv : Env} (P P' : Shared → Prop) (E : Value → Shared → Prop) (s : Shared) (h : ∀ s, P s → P' s) (x : kBw2 prog w A e acc it1 cenv P E s) : kBw2 prog w A e acc it1 cenv P' E s :=
  wpAny_mono x (fun xv s₃ h₃ => wpAny_mono h₃ (fun it' s₄ h₄ => codeAny_mono h₄ fun r s₅ h₅ => by
    cases r with
    | ok f => exact h _ h₅
    | error e => exact h₅) fun _ _ e => e) fun _ _ e => e
theorem kturn2 {elt it0 it1 : Expr} {x y : Str} {px py : Pos} {scope : Scope} {pos : Pos} {it acc : Value} {cenv : Env} (hs : ∀ v, foldedSetIterable it1 cenv v = pure v) :
    KTurn prog w A (.ListComp elt [⟨.Name x px, it0, [], 0⟩, ⟨.Name y py, it1, [], 0⟩] scope pos) 0 it acc x px cenv (kBw2 prog w A (.ListComp elt [⟨.Name x px, it0, [], 0⟩, ⟨.Name y py, it1, [], 0⟩] scope pos) acc it1 cenv) := by
  intro s Q E h
  show wpAny _ A (standAt it0.pos >>= _) _ _ _
  refine wpAny_bind (wpAny_standAt (wpAny_bind (wpAny_mono h (fun r s₁ h₁ => ?_) fun _ _ h' => h')))
  cases r with
  | none => exact wpAny_pure h₁
  | some v =>
    refine wpAny_bind (wpAny_of_eq (a := ()) rfl ?_)
    refine wpAny_bind (wpAny_mono h₁ (fun _ s₂ h₂ => ?_) fun _ _ h' => h')
    refine wpAny_bind (wpAny_tests_nil ?_)
    refine wpAny_bind (wpAny_mono h₂ (fun xv s₃ h₃ => ?_) fun _ _ h' => h')
    refine wpAny_bind (wpAny_standAt (wpAny_bind ?_))
    show wpAny _ A (foldedSetIterable it1 cenv xv) _ _ _
    refine wpAny_of_eq (hs xv) ?_
    refine wpAny_bind (wpAny_holding (wpAny_mono h₃ (fun it' s₄ h₄ => ?_) fun _ _ h' => h'))
    exact wpAny_bind (wpAny_runOwn (codeAny_mono h₄ fun r s₅ h₅ => by
      cases r with
      | ok f => exact wpAny_pure h₅
      | error e => exact h₅))
theorem kturn2i {elt it0 it1 : Expr} {x y : Str} {px py : Pos} {scope : Scope} {pos : Pos} {it acc : Value} {cenv : Env} :
    KTurn prog w A (.ListComp elt [⟨.Name x px, it0, [], 0⟩, ⟨.Name y py, it1, [], 0⟩] scope pos) 1 it acc y py cenv (kBw prog w A acc elt [] cenv) := by
  intro s Q E h
  show wpAny _ A (standAt it1.pos >>= _) _ _ _
  refine wpAny_bind (wpAny_standAt (wpAny_bind (wpAny_mono h (fun r s₁ h₁ => ?_) fun _ _ h' => h')))
  cases r with
  | none => exact wpAny_pure h₁
  | some v =>
    refine wpAny_bind (wpAny_of_eq (a := ()) rfl ?_)
    refine wpAny_bind (wpAny_mono h₁ (fun _ s₂ h₂ => wpAny_bind (wpAny_mono h₂ (fun ok s₃ h₃ => ?_) fun _ _ h' => h')) fun _ _ h' => h')
    cases ok with
    | false => exact wpAny_pure h₃
    | true => exact wpAny_bind (wpAny_bind (wpAny_mono h₃ (fun x s₄ h₄ => wpAny_bind (wpAny_mono h₄ (fun _ s₅ h₅ => wpAny_pure (wpAny_pure h₅)) fun _ _ h' => h')) fun _ _ h' => h'))
theorem kstart2i {elt it0 it1 : Expr} {x y : Str} {px py : Pos} {scope : Scope} {pos : Pos} {it acc : Value} {cenv : Env} {R : Result → Shared → Prop}
    (h0 : codeAny (model prog w) A (.compLoop (.ListComp elt [⟨.Name x px, it0, [], 0⟩, ⟨.Name y py, it1, [], 0⟩] scope pos) 1 it acc cenv) R s)
    (h : wpAny (model prog w) A (pyIter it) (fun it' s' => codeAny (model prog w) A (.compLoop (.ListComp elt [⟨.Name x px, it0, [], 0⟩, ⟨.Name y py, it1, [], 0⟩] scope pos) 1 it' acc cenv) R s') (notedBy (model prog w) A cenv fun x s' => R (.error x) s') s) :
    codeAny (model prog w) A (.compStart (.ListComp elt [⟨.Name x px, it0, [], 0⟩, ⟨.Name y py, it1, [], 0⟩] scope pos) 1 it acc cenv) R s := by
  refine codeAny_of_tree ?_
  show wpAny _ A ((compStart (.ListComp elt [⟨.Name x px, it0, [], 0⟩, ⟨.Name y py, it1, [], 0⟩] scope pos) 1 it acc cenv).onRaise (fun x => do noteFrame x cenv; standAt theWindowsPlace)) _ _ s
  refine wpAny_notedAt ?_
  unfold compStart
  show wpAny _ A (ask >>= _) _ _ s
  refine wpAny_bind (wpAny_askSetting (wpAny_ite ?_))
  split
  · first
      | exact wpAny_bind (wpAny_pure (wpAny_pure ⟨rfl, h0⟩))
      | exact wpAny_pure ⟨rfl, h0⟩
  · refine wpAny_bind (wpAny_rule ?_)
    show wpAny _ A (standAt it1.pos >>= _) _ _ s
    exact wpAny_bind (wpAny_standAt (wpAny_bind (wpAny_mono h (fun it' s' h' => wpAny_pure ⟨rfl, h'⟩) fun _ _ x => x)))

/-- the end of an inner turn, as the user shows it -/
noncomputable def KOut2 (h₀ : Heap) (L : Addr) (m : Str → Option Value) {σ : Type} (Led : σ → List (Addr × Obj)) (fix : List (Addr × Obj)) (P' : σ → Nat → Prop) (s₁ s₂ : Shared) : Prop :=
  ∃ u' h' tk all, s₂ = { s₁ with heap := h', toks := tk } ∧ Fr h₀ L h' m ∧ News h₀ L h' all ∧ (∀ p ∈ fix ++ Led u', p ∈ all) ∧ (∀ p ∈ Led u', ∀ q ∈ fix, p.1 ≠ q.1) ∧ P' u' tk
theorem KOut2.intro {σ : Type} {Led : σ → List (Addr × Obj)} {fix : List (Addr × Obj)} {P' : σ → Nat → Prop} {s₁ : Shared} {h' : Heap} {tk : Nat} {all : List (Addr × Obj)} (u' : σ)
    (F : Fr h₀ L h' m) (N : News h₀ L h' all) (sub : ∀ p ∈ fix ++ Led u', p ∈ all) (off : ∀ p ∈ Led u', ∀ q ∈ fix, p.1 ≠ q.1) (r : P' u' tk) :
    KOut2 h₀ L m Led fix P' s₁ { s₁ with heap := h', toks := tk } := ⟨u', h', tk, all, rfl, F, N, sub, off, r⟩
/-- behind the inner clause's iterable -/
noncomputable def KIn2 (prog : Program) (w : World) (A : Around) (h₀ : Heap) (L : Addr) (m : Str → Option Value) {σ : Type} (Led : σ → List (Addr × Obj)) (I : Addr) (oI : Obj) (C : Addr) (oC : Obj) (D : Addr) (ys : List Value) (elt : Expr) (x y : Str) (v : Value) (cenv : Env)
    (I0 : σ → List Value → Nat → Prop) (xv : Value) (s₃ : Shared) : Prop :=
  ∃ (l1 : Addr) (vs1 : List Value) (k1 : Nat) (Inv1 : Nat → σ → List Value → Nat → Prop) (u : σ) (all : List (Addr × Obj)), xv = .ref l1 ∧ Fr h₀ L s₃.heap m ∧ News h₀ L s₃.heap all ∧ (∀ p ∈ (I, oI) :: (C, oC) :: (D, lst ys) :: (l1, W.listOf vs1.toArray k1) :: Led u, p ∈ all) ∧ Off3 I C D (Led u) ∧
    (l1 ≠ I ∧ l1 ≠ C ∧ l1 ≠ D) ∧ (∀ j u ys tk, Inv1 j u ys tk → ys.length ≤ sizeLine) ∧ Inv1 0 u ys s₃.toks ∧
    (∀ (u : σ) (j : Nat) z ys I1 oI1 oC mC h (lo tk : Nat) (E' : Value → Shared → Prop), vs1[j]? = some z → Inv1 j u ys lo → lo < tk → oI1.cls = .type "list_iterator" → NsObj oC mC → mC x = some v → mC y = some z → Fr h₀ L h m →
      News h₀ L h (((I1, oI1) :: (I, oI) :: (C, oC) :: (D, lst ys) :: [(l1, W.listOf vs1.toArray k1)]) ++ Led u) → (∀ p ∈ Led u, ∀ q ∈ (I1, oI1) :: (I, oI) :: (C, oC) :: (D, lst ys) :: [], p.1 ≠ q.1) →
      (I1 ≠ I ∧ I1 ≠ C ∧ I1 ≠ D ∧ I ≠ C ∧ I ≠ D ∧ C ≠ D ∧ l1 ≠ I1 ∧ l1 ≠ I ∧ l1 ≠ C ∧ l1 ≠ D) →
      wpAny (model prog w) A (eval elt cenv) (fun r => KOut2 h₀ L m (fun u => (l1, W.listOf vs1.toArray k1) :: Led u) [(I1, oI1), (I, oI), (C, oC), (D, lst ys)] (fun u' tk' => Inv1 (j + 1) u' (ys ++ [r]) tk') { s₃ with heap := h, toks := tk }) E' { s₃ with heap := h, toks := tk }) ∧
    (∀ u ys tk, Inv1 vs1.length u ys tk → I0 u ys tk)
theorem kinner {σ : Type} {Led : σ → List (Addr × Obj)} {elt it0 it1 : Expr} {x y : Str} {px py : Pos} {scope : Scope} {cl : List (Str × Addr)} {pos : Pos} {I C D : Addr} {oI oC : Obj} {ys : List Value} {v xv : Value} {mC : Str → Option Value} {I0 : σ → List Value → Nat → Prop} {s₁ : Shared} {P : Shared → Prop} {E' : Value → Shared → Prop}
    (hkind : scope.kind = .function) (hy : scope.names.lookup y = some .local) (hxy : ¬ x = y) (hh : A.handled = none) (hIC : I ≠ C) (hID : I ≠ D) (hCD : C ≠ D) (hoC : NsObj oC mC) (hmx : mC x = some v) (hs : ∃ h tk, s = { s₁ with heap := h, toks := tk })
    (K : KIn2 prog w A h₀ L m Led I oI C oC D ys elt x y v (compEnvC scope cl C env) I0 xv s)
    (hP : ∀ u oC mC ys h tk, NsObj oC mC → I0 u ys tk → Fr h₀ L h m → News h₀ L h ((I, oI) :: (C, oC) :: (D, lst ys) :: Led u) → Off3 I C D (Led u) → P { s₁ with heap := h, toks := tk }) :
    wpAny (model prog w) A (pyIter xv) (fun it' s₄ => codeAny (model prog w) A (.compStart (.ListComp elt [⟨.Name x px, it0, [], 0⟩, ⟨.Name y py, it1, [], 0⟩] scope pos) 1 it' (.ref D) (compEnvC scope cl C env)) (fun r s₅ => match r with | .ok _ => P s₅ | .error e => E' e s₅) s₄) E s := by
  obtain ⟨l1, vs1, k1, Inv1, u, all, rfl, F1, N1, sub, off, ⟨hlI, hlC, hlD⟩, hsz, hInv, turn, fin⟩ := K
  obtain ⟨h, tk, rfl⟩ := hs
  have hls : h.IsList l1 vs1.toArray := ⟨_, (N1 _ (sub (l1, _) (List.mem_cons_of_mem _ (List.mem_cons_of_mem _ (List.mem_cons_of_mem _ (List.mem_cons_self ..)))))).1, rfl, _, rfl⟩
  refine wpAny_pyIter_list hls ?_
  have N2 := news_sub N1 sub
  dsimp only at F1 N2
  have hst : (h.push { cls := .type "list_iterator", data := .fields #[.ref l1, .int 0 0] }).IsListIter h.objs.size l1 0 := ⟨_, Heap.get?_push_size _ rfl, rfl, rfl⟩
  have loop : codeAny (model prog w) A (.compLoop (.ListComp elt [⟨.Name x px, it0, [], 0⟩, ⟨.Name y py, it1, [], 0⟩] scope pos) 1 (.ref h.objs.size) (.ref D) (compEnvC scope cl C env)) (fun r s₅ => match r with | .ok _ => P s₅ | .error e => E' e s₅)
      { s₁ with heap := h.push { cls := .type "list_iterator", data := .fields #[.ref l1, .int 0 0] }, toks := tk } := by
    refine kcoreL (σ := KS σ) (l := l1) (vs := vs1) (k := k1) (fun c => (I, oI) :: (C, c.oC) :: (D, lst c.ys) :: (l1, W.listOf vs1.toArray k1) :: Led c.u) (fun i c tk => (∃ mC, NsObj c.oC mC ∧ mC x = some v) ∧ Inv1 i c.u c.ys tk ∧ Off3 I C D (Led c.u)) ⟨u, oC, ys⟩
      rfl rfl rfl kturn2i kBw_mono hh (fun c => List.mem_cons_of_mem _ (List.mem_cons_of_mem _ (List.mem_cons_of_mem _ (List.mem_cons_self ..)))) (Nat.ne_of_gt F1.ns.lt) (next_is_new F1) (fun p hp => Nat.ne_of_lt (Heap.lt_size (N2 p hp).1)) hst (F1.push _) (fun p hp => ⟨Heap.get?_push_of_some _ (N2 p hp).1, (N2 p hp).2⟩)
      ⟨⟨_, hoC, hmx⟩, hInv, off⟩ ?turn ?done
    case turn =>
      intro cc j z h2 tk2 oI1 E2 hz hPP hcI ho F3 N3
      refine Classical.byContradiction fun hn => ?_
      obtain ⟨⟨mC, hmC, hmx⟩, hInv, hoff⟩ := hPP
      refine hn ?_
      clear hn
      try dsimp only at hInv hoff ho N3 hmC
      have hI1I : I ≠ h.objs.size := ho (I, oI) (List.mem_cons_self ..)
      have hI1C : C ≠ h.objs.size := ho (C, cc.oC) (List.mem_cons_of_mem _ (List.mem_cons_self ..))
      have hI1D : D ≠ h.objs.size := ho (D, lst cc.ys) (List.mem_cons_of_mem _ (List.mem_cons_of_mem _ (List.mem_cons_self ..)))
      have hI1l : l1 ≠ h.objs.size := ho (l1, _) (List.mem_cons_of_mem _ (List.mem_cons_of_mem _ (List.mem_cons_of_mem _ (List.mem_cons_self ..))))
      have hI1u : ∀ p ∈ Led cc.u, p.1 ≠ h.objs.size := fun p hp => ho p (List.mem_cons_of_mem _ (List.mem_cons_of_mem _ (List.mem_cons_of_mem _ (List.mem_cons_of_mem _ hp))))
      refine kstore (pre := [(h.objs.size, oI1), (I, oI)]) (post := (D, lst cc.ys) :: (l1, W.listOf vs1.toArray k1) :: Led cc.u) F3 N3 hmC (fun p hp => ?_) (fun p hp => ?_) hy hkind fun h4 oC4 hoC4 F4 N4 => ?_
      · rcases List.mem_cons.mp hp with rfl | hp
        · exact hI1C.symm
        · rw [List.mem_singleton.mp hp]; exact hIC
      · rcases List.mem_cons.mp hp with rfl | hp
        · exact hCD.symm
        rcases List.mem_cons.mp hp with rfl | hp
        · exact hlC
        · exact (hoff.mem p hp).2.1
      refine wpAny_tests_nil ?_
      simp only [if_true]
      have T := turn cc.u j z cc.ys h.objs.size oI1 oC4 _ h4 tk2 (tk2 + 1) E2 hz hInv (Nat.lt_succ_self _) hcI hoC4 (by simp only [if_neg hxy]; exact hmx) (by simp) F4 N4 (fun p hp q hq => by
        simp only [List.mem_cons, List.not_mem_nil, or_false] at hq
        rcases hq with rfl | rfl | rfl | rfl
        · exact hI1u p hp
        · exact (hoff.mem p hp).1
        · exact (hoff.mem p hp).2.1
        · exact (hoff.mem p hp).2.2) ⟨hI1I.symm, hI1C.symm, hI1D.symm, hIC, hID, hCD, hI1l, hlI, hlC, hlD⟩
      refine wpAny_mono T (fun r s' hr => ?_) fun _ _ e => e
      obtain ⟨u', h5, tk5, all5, rfl, F5, N5, sub5, off5, hI5⟩ := hr
      have N6 := news_sub N5 sub5
      have zD := N6 (D, lst cc.ys) (by simp)
      have hys := hsz _ _ _ _ hInv
      refine append_at (hsz := by show cc.ys.toArray.size ≤ sizeLine; rw [List.size_toArray]; exact hys) zD.1 fun h7 hs7 hD7 => ?_
      have off6 : ∀ p ∈ Led u', p.1 ≠ h.objs.size ∧ p.1 ≠ I ∧ p.1 ≠ C ∧ p.1 ≠ D := fun p hp => ⟨off5 p (List.mem_cons_of_mem _ hp) (h.objs.size, oI1) (by simp), off5 p (List.mem_cons_of_mem _ hp) (I, oI) (by simp), off5 p (List.mem_cons_of_mem _ hp) (C, oC4) (by simp), off5 p (List.mem_cons_of_mem _ hp) (D, lst cc.ys) (by simp)⟩
      refine ⟨⟨u', oC4, cc.ys ++ [r]⟩, h7, tk5, (h.objs.size, oI1) :: (I, oI) :: (C, oC4) :: (D, lst (cc.ys ++ [r])) :: (l1, W.listOf vs1.toArray k1) :: Led u', rfl, F5.change hs7 zD.2.1 zD.2.2, fun p hp => ?_, List.mem_cons_self .., fun p hp => List.mem_cons_of_mem _ hp, fun p hp => ?_,
        ⟨_, hoC4, by simp only [if_neg hxy]; exact hmx⟩, hI5, Off3.of fun p hp => (off6 p hp).2⟩
      · have old : ∀ p, p ∈ [(h.objs.size, oI1), (I, oI), (C, oC4), (D, lst cc.ys)] ++ (l1, W.listOf vs1.toArray k1) :: Led u' → p.1 ≠ D → h7.get? p.1 = some p.2 ∧ p.1 ≠ L ∧ h₀.get? p.1 = none := fun p hp hne => ⟨hs7.extBut _ _ hne (N6 p hp).1, (N6 p hp).2⟩
        rcases List.mem_cons.mp hp with rfl | hp
        · exact old _ (by simp) hI1D.symm
        rcases List.mem_cons.mp hp with rfl | hp
        · exact old _ (by simp) hID
        rcases List.mem_cons.mp hp with rfl | hp
        · exact old _ (by simp) hCD
        rcases List.mem_cons.mp hp with rfl | hp
        · exact ⟨hD7.trans (congrArg some (lst_snoc cc.ys r)), zD.2⟩
        rcases List.mem_cons.mp hp with rfl | hp
        · exact old _ (by simp) hlD
        · exact old _ (List.mem_append_right _ (List.mem_cons_of_mem _ hp)) (off6 p hp).2.2.2
      · rcases List.mem_cons.mp hp with rfl | hp
        · exact hI1I
        rcases List.mem_cons.mp hp with rfl | hp
        · exact hI1C
        rcases List.mem_cons.mp hp with rfl | hp
        · exact hI1D
        rcases List.mem_cons.mp hp with rfl | hp
        · exact hI1l
        · exact (off6 p hp).1
    case done =>
      intro cc h2 tk2 hPP F3 N3 ho
      refine Classical.byContradiction fun hn => ?_
      obtain ⟨⟨mC, hmC, hmx⟩, hInv, hoff⟩ := hPP
      refine hn ?_
      clear hn
      exact hP cc.u cc.oC mC cc.ys h2 tk2 hmC (fin _ _ _ hInv) F3 (news_sub N3 fun p hp => by
        simp only [List.mem_cons] at hp ⊢
        rcases hp with h | h | h | h
        · exact .inl h
        · exact .inr (.inl h)
        · exact .inr (.inr (.inl h))
        · exact .inr (.inr (.inr (.inr h)))) hoff
  exact kstart2i loop (wpAny_pyIter_listiter hst loop)

inductive HC2A (prog : Program) (w : World) (A : Around) (h₀ : Heap) (L : Addr) (m : Str → Option Value) (env : Env) (elt it1 : Expr) (x y z : Str) (scope : Scope) (cl : List (Str × Addr)) (Q : Flow → Shared → Prop) (xv : Value) (s₁ : Shared) : Prop
  | intro (σ : Type) (l : Addr) (vs : List Value) (k : Nat) (Led : σ → List (Addr × Obj)) (Inv : Nat → σ → List Value → Nat → Prop) (u₀ : σ) (e0 : xv = .ref l) (e1 : (∀ u, (l, W.listOf vs.toArray k) ∈ Led u)) (e2 : Fr h₀ L s₁.heap m) (e3 : News h₀ L s₁.heap (Led u₀)) (e4 : Inv 0 u₀ [] s₁.toks) (e5 : (∀ (u : σ) (i : Nat) v ys I oI C oC D mC h (lo tk : Nat) (E' : Value → Shared → Prop), vs[i]? = some v → Inv i u ys lo → lo < tk → oI.cls = .type "list_iterator" → NsObj oC mC → mC x = some v → Fr h₀ L h m → News h₀ L h ((I, oI) :: (C, oC) :: (D, lst ys) :: Led u) → Off3 I C D (Led u) → (@Ne Nat I C ∧ @Ne Nat I D ∧ @Ne Nat C D) →
        wpAny (model prog w) A (eval it1 (compEnvC scope cl C env)) (fun xv s₃ => (∃ h tk, s₃ = { s₁ with heap := h, toks := tk }) ∧ KIn2 prog w A h₀ L m Led I oI C oC D ys elt x y v (compEnvC scope cl C env) (Inv (i + 1)) xv s₃) E' { s₁ with heap := h, toks := tk })) (e6 : (∀ D u ys h (lo tk : Nat), Inv vs.length u ys lo → lo < tk → Fr h₀ L h (fun q => if q = z then some (.ref D) else m q) → News h₀ L h ((D, lst ys) :: Led u) → (∀ p ∈ Led u, p.1 ≠ D) → (∀ p ∈ Led u₀, p.1 < D) → Q .next { s₁ with heap := h, toks := tk })) : HC2A prog w A h₀ L m env elt it1 x y z scope cl Q xv s₁
theorem x_comp2A {elt it0 it1 : Expr} {x y z : Str} {px py pz : Pos} {scope : Scope} {cl : List (Str × Addr)} {pos spos : Pos} {Q : Flow → Shared → Prop} (_ : Fr h₀ L s.heap m)
    (hLe : env.locals = L) (hsw : swapsWith (.ListComp elt [⟨.Name x px, it0, [], 0⟩, ⟨.Name y py, it1, [], 0⟩] scope pos) (some (.Name z pz)) spos.line env = pure true) (hz : env.kindOf z = some .local) (hpm : (env.scope.kind == .class || (env.scope.kind == .module && env.locals != env.globals)) = false)
    (hclos : closureFor scope env = pure cl) (hcell : ∀ y ∈ scope.names, y.2 ≠ .cell) (hkind : scope.kind = .function)
    (hnames : ∀ y ∈ scope.names, y.2 = .local → scope.names.lookup y.1 = some .local) (hx : scope.names.lookup x = some .local) (hy : scope.names.lookup y = some .local) (hxy : ¬ x = y) (hh : A.handled = none)
    (h : wpAny (model prog w) A (eval it0 env) (fun xv s₁ => Hold (HC2A prog w A h₀ L m env elt it1 x y z scope cl Q xv s₁)) E s)
    (hs0 : ∀ x, foldedSetIterable it0 env x = pure x := by intro _; rfl) (hs1 : ∀ e x, foldedSetIterable it1 e x = pure x := by intro _ _; rfl) :
    wpAny (model prog w) A (exec (.Assign [.Name z pz] (.ListComp elt [⟨.Name x px, it0, [], 0⟩, ⟨.Name y py, it1, [], 0⟩] scope pos) spos) env) Q E s := by
  rw [exec_Assign_Name_used _ _ _ _ hsw]
  refine wpAny_bind (wpAny_standAt (wpAny_bind ?_))
  show wpAny _ A (do let _ ← comprehension (.ListComp elt [⟨.Name x px, it0, [], 0⟩, ⟨.Name y py, it1, [], 0⟩] scope pos) scope env _ (newList []) false (eval it0 env) (some (assign (.Name z pz) env))) _ _ s
  refine wpAny_bind (wpAny_mono (wpAny_comprehension_free (use := some (assign (.Name z pz) env)) (Q := fun _ s' => Q .next s') rfl hs0 hclos hkind hnames
    (wpAny_mono h (fun xv s₁ h₁ => ?_) fun _ _ e => e)) (fun _ s' hq => wpAny_pure (wpAny_pure hq)) fun _ _ e => e)
  obtain ⟨σ, l, vs, k, Led, Inv, u₀, rfl, hl, F1, N1, hI, turn, done⟩ := h₁.out
  have hls : s₁.heap.IsList l vs.toArray := ⟨_, (N1 _ (hl u₀)).1, rfl, _, rfl⟩
  refine wpAny_pyIter_list hls ?_
  refine kstart rfl rfl hcell hkind ⟨_, Heap.get?_push_size _ rfl, rfl, rfl⟩ (F1.push _) (fun p hp => ⟨Heap.get?_push_of_some _ (N1 p hp).1, (N1 p hp).2⟩) fun C D oC h hoC F2 N2 hCD hCI hDI hlt hst1 => ?_
  refine kcoreL (σ := KS σ) (l := l) (vs := vs) (k := k) (fun c => (C, c.oC) :: (D, lst c.ys) :: Led c.u) (fun i c tk => (∃ mC, NsObj c.oC mC) ∧ Inv i c.u c.ys tk ∧ ∀ p ∈ Led c.u, p.1 ≠ C ∧ p.1 ≠ D) ⟨u₀, oC, []⟩
    rfl rfl rfl (kturn2 (hs1 _)) kBw2_mono hh (fun c => List.mem_cons_of_mem _ (List.mem_cons_of_mem _ (hl c.u))) (Nat.ne_of_gt F1.ns.lt) (next_is_new F1) ?hoff hst1 F2 N2 ⟨⟨_, hoC⟩, hI, fun p hp => ⟨Nat.ne_of_lt (hlt p hp).1, Nat.ne_of_lt (hlt p hp).2⟩⟩ ?turn ?done
  case hoff =>
    intro p hp
    rcases List.mem_cons.mp hp with rfl | hp
    · exact hCI
    rcases List.mem_cons.mp hp with rfl | hp
    · exact hDI
    · exact Nat.ne_of_lt (Heap.lt_size (N1 p hp).1)
  case turn =>
    intro cc i v h tk oI E' hv hPP hcI ho F' N'
    refine Classical.byContradiction fun hn => ?_
    obtain ⟨⟨mC, hmC⟩, hInv, hnC⟩ := hPP
    refine hn ?_
    clear hn
    try dsimp only at hInv hnC ho N' hmC
    refine kstore (pre := [(_, oI)]) (post := (D, lst cc.ys) :: Led cc.u) F' N' hmC (fun p hp => by rw [List.mem_singleton.mp hp]; exact hCI.symm) (fun p hp => ?_) hx hkind fun h2 oC2 hoC2 F2 N2 => ?_
    · rcases List.mem_cons.mp hp with rfl | hp
      · exact hCD.symm
      · exact (hnC p hp).1
    have hoff3 : Off3 s₁.heap.objs.size C D (Led cc.u) := Off3.of fun p hp => ⟨ho p (List.mem_cons_of_mem _ (List.mem_cons_of_mem _ hp)), hnC p hp⟩
    have T := turn cc.u i v cc.ys _ oI C oC2 D _ h2 tk (tk + 1) E' hv hInv (Nat.lt_succ_self _) hcI hoC2 (by simp) F2 N2 hoff3 ⟨hCI.symm, hDI.symm, hCD⟩
    refine wpAny_mono T (fun xv s₃ h₃ => ?_) fun _ _ e => e
    obtain ⟨⟨h3, tk3, rfl⟩, K⟩ := h₃
    refine kinner (I := s₁.heap.objs.size) (s₁ := s₁) hkind hy hxy hh hCI.symm hDI.symm hCD hoC2 (by simp) ⟨h3, tk3, rfl⟩ K fun u' oC' mC' ys' h' tk' hoC' hI' F3 N3 off3 => ?_
    exact ⟨⟨u', oC', ys'⟩, h', tk', _, rfl, F3, N3, List.mem_cons_self .., fun p hp => List.mem_cons_of_mem _ hp, fun p hp => by
      rcases List.mem_cons.mp hp with rfl | hp
      · exact hCI
      rcases List.mem_cons.mp hp with rfl | hp
      · exact hDI
      · exact (off3.mem p hp).1, ⟨_, hoC'⟩, hI', fun p hp => ⟨(off3.mem p hp).2.1, (off3.mem p hp).2.2⟩⟩
  case done =>
    intro cc h tk hPP F' N' ho
    refine Classical.byContradiction fun hn => ?_
    obtain ⟨⟨mC, hmC⟩, hInv, hnC⟩ := hPP
    refine hn ?_
    clear hn
    exact kfinA hLe hz hpm F' N' hmC hCD (fun p hp => (hnC p hp).1) fun h' F3 N3 => done D cc.u cc.ys h' tk (tk + 1) hInv (Nat.lt_succ_self _) F3 N3 (fun p hp => (hnC p hp).2) fun p hp => (hlt p hp).2

theorem kenvC {scope : Scope} {globals : Addr} {cl : List (Str × Addr)} {qual : Str} {Q : Env → Shared → Prop}
    (h : Q (newEnv scope s.heap.objs.size globals (cellsFrom (s.heap.objs.size + 1) scope.names cl) qual none .none (some env) builtinsNs) { s with heap := pushCells (s.heap.push { cls := .type "dict", data := .dict #[] }) scope.names }) :
    wpAny (model prog w) A (newFunctionEnv scope globals cl [] qual none .none (some env)) Q E s := by
  simp only [newFunctionEnv, Option.isSome_some, if_true]
  refine wpAny_bind (wpAny_alloc ?_)
  refine wpAny_bind (wpAny_layCells _ (fun name kind cells => by cases kind == NameKind.cell <;> simp) _ _ _ _ ?_)
  rw [show ({ s with heap := s.heap.push { cls := .type "dict", data := .dict #[] } } : Shared).heap.objs.size = s.heap.objs.size + 1 from Heap.size_push ..]
  refine wpAny_bind ?_
  rw [List.forIn_nil]
  exact wpAny_pure (wpAny_pure h)
/-- the same as kstart for a block whose one own name is a cell -/
theorem kstartC {elt : Expr} {gens : List Comprehension} {scope : Scope} {x : Str} {cl : List (Str × Addr)} {pos : Pos} {I l : Addr} {news : List (Addr × Obj)} {g : Comprehension} {gs : List Comprehension} {RR : Value → Addr → Result → Shared → Prop}
    (hg : gens = g :: gs) (hga : g.is_async = 0) (hcells : ∀ n, cellsFrom n scope.names cl = (x, n) :: cl) (hpush : ∀ h, pushCells h scope.names = h.push { cls := .type "cell", data := .cell none }) (hst : s.heap.IsListIter I l 0) (F : Fr h₀ L s.heap m) (N : News h₀ L s.heap news)
    (h : ∀ C c D oC oc h, NsObj oC (fun _ => none) → oc.data = .cell none → Fr h₀ L h m → News h₀ L h ((C, oC) :: (c, oc) :: (D, lst []) :: news) → (@Ne Nat C c ∧ @Ne Nat C D ∧ @Ne Nat c D ∧ @Ne Nat I C ∧ @Ne Nat I c ∧ @Ne Nat I D) → (∀ p ∈ news, p.1 < C ∧ p.1 < c ∧ p.1 < D) → h.IsListIter I l 0 →
      codeAny (model prog w) A (.compLoop (.ListComp elt gens scope pos) 0 (.ref I) (.ref D) (compEnvC scope ((x, c) :: cl) C env)) (RR (.ref D) C) { s with heap := h, toks := s.toks }) :
    wpAny (model prog w) A (newList []) (fun acc s₃ => wpAny (model prog w) A (newFunctionEnv scope env.globals cl [] env.qual none .none (some env)) (fun cenv s₄ =>
      codeAny (model prog w) A (.compStart (.ListComp elt gens scope pos) 0 (.ref I) acc { cenv with scope := relabel scope env }) (RR acc cenv.locals) s₄) E s₃) E s := by
  refine wpAny_newObj_type (kenvC ?_)
  rw [hcells, hpush]
  dsimp only
  generalize hH2 : s.heap.push { cls := .type "list", dict := none, data := .seq ([] : List Value).toArray } = H2
  have hC : H2.objs.size = s.heap.objs.size + 1 := by rw [← hH2, Heap.size_push]
  generalize hH3 : H2.push { cls := .type "dict", data := .dict #[] } = H3
  have hc : H3.objs.size = H2.objs.size + 1 := by rw [← hH3, Heap.size_push]
  have low : ∀ {b o}, s.heap.get? b = some o → b < s.heap.objs.size := fun e => Heap.lt_size e
  have old : ∀ b o, s.heap.get? b = some o → (H3.push { cls := .type "cell", data := .cell none }).get? b = some o := fun b o e => Heap.get?_push_of_some _ (hH3 ▸ Heap.get?_push_of_some _ (hH2 ▸ Heap.get?_push_of_some _ e))
  have fresh₀ : ∀ a, s.heap.objs.size ≤ a → h₀.get? a = none := fun a ha => by
    cases e : h₀.get? a with
    | none => rfl
    | some o' => exact absurd (Heap.lt_size (F.keep a o' e)) (Nat.not_lt.mpr ha)
  obtain ⟨oI, hIe, hIr⟩ := hst
  obtain ⟨oL, hLe⟩ : ∃ o, s.heap.get? L = some o := by obtain ⟨o, _, _, e, _⟩ := F.ns; exact ⟨o, e⟩
  have hD : (H3.push { cls := .type "cell", data := .cell none }).get? s.heap.objs.size = some (lst []) := Heap.get?_push_of_some _ (hH3 ▸ Heap.get?_push_of_some _ (hH2 ▸ Heap.get?_push_size _ rfl))
  have hCe : (H3.push { cls := .type "cell", data := .cell none }).get? H2.objs.size = some { cls := .type "dict", data := .dict #[] } := Heap.get?_push_of_some _ (hH3 ▸ Heap.get?_push_size _ rfl)
  have hce : (H3.push { cls := .type "cell", data := .cell none }).get? H3.objs.size = some { cls := .type "cell", data := .cell none } := Heap.get?_push_size _ rfl
  have lL := low hLe
  have lI := low hIe
  have hDC : s.heap.objs.size < H2.objs.size := by rw [hC]; exact Nat.lt_succ_self _
  have hCc : H2.objs.size < H3.objs.size := by rw [hc]; exact Nat.lt_succ_self _
  have hLC : L < H2.objs.size := Nat.lt_trans lL hDC
  have hLc : L < H3.objs.size := Nat.lt_trans hLC hCc
  have N₁ : News h₀ L (H3.push { cls := .type "cell", data := .cell none }) ((H2.objs.size, { cls := .type "dict", data := .dict #[] }) :: (H3.objs.size, { cls := .type "cell", data := .cell none }) :: (s.heap.objs.size, lst []) :: news) := fun p hp => by
    rcases List.mem_cons.mp hp with rfl | hp
    · exact ⟨hCe, Nat.ne_of_gt hLC, fresh₀ _ (by show _ ≤ H2.objs.size; omega)⟩
    rcases List.mem_cons.mp hp with rfl | hp
    · exact ⟨hce, Nat.ne_of_gt hLc, fresh₀ _ (by show _ ≤ H3.objs.size; omega)⟩
    rcases List.mem_cons.mp hp with rfl | hp
    · exact ⟨hD, Nat.ne_of_gt lL, fresh₀ _ (Nat.le_refl _)⟩
    · exact ⟨old _ _ (N p hp).1, (N p hp).2⟩
  have loop := h H2.objs.size H3.objs.size s.heap.objs.size _ _ _ (show NsObj { cls := .type "dict", data := .dict #[] } (fun _ => none) from ⟨#[], 0, rfl, fun e he => absurd he (by simp), fun _ => rfl⟩) rfl (F.keeps old) N₁ ⟨Nat.ne_of_lt hCc, Nat.ne_of_gt hDC, Nat.ne_of_gt (Nat.lt_trans hDC hCc), Nat.ne_of_lt (Nat.lt_trans lI hDC), Nat.ne_of_lt (Nat.lt_trans lI (Nat.lt_trans hDC hCc)), Nat.ne_of_lt lI⟩ (fun p hp => ⟨Nat.lt_trans (low (N p hp).1) hDC, Nat.lt_trans (low (N p hp).1) (Nat.lt_trans hDC hCc), low (N p hp).1⟩) ⟨oI, old _ _ hIe, hIr⟩
  subst hg
  obtain ⟨tgt, iter, ifs, as⟩ := g
  have : as = 0 := hga
  subst this
  rw [show H2.objs.size + 1 = H3.objs.size from hc.symm]
  exact codeAny_compStart_list loop (wpAny_pyIter_listiter ⟨oI, old _ _ hIe, hIr⟩ loop)
theorem kstoreC {C c : Addr} {oc : Obj} {x : Str} {px : Pos} {v : Value} {z : Option Value} {scope : Scope} {cl : List (Str × Addr)} {pre post : List (Addr × Obj)} {Q : Unit → Shared → Prop} (F : Fr h₀ L s.heap m) (N : News h₀ L s.heap (pre ++ (c, oc) :: post)) (hd : oc.data = .cell z)
    (h1 : ∀ p ∈ pre, p.1 ≠ c) (h2 : ∀ p ∈ post, p.1 ≠ c) (hc : cl.lookup x = some c) (hkind : scope.kind = .function) (hx : (compEnvC scope cl C env).kindOf x = some .cell)
    (h : ∀ h' oc', oc'.data = .cell (some v) → Fr h₀ L h' m → News h₀ L h' (pre ++ (c, oc') :: post) → Q () { s with heap := h' }) :
    wpAny (model prog w) A (assign (.Name x px) (compEnvC scope cl C env) v) Q E s := by
  have y := N (c, oc) (List.mem_append_right _ (List.mem_cons_self ..))
  refine wpAny_assign_Name (wpAny_storeName_cell hkind hx hc ⟨oc, y.1, hd⟩ fun h' hv hs => ?_)
  obtain ⟨oc', he, hd'⟩ := hv
  exact h h' oc' hd' (F.change hs y.2.1 y.2.2) (N.setAt h1 h2 hs he)
structure KSC (σ : Type) where
  u : σ
  oc : Obj
  ys : List Value
inductive HCLEC (prog : Program) (w : World) (A : Around) (h₀ : Heap) (L : Addr) (m : Str → Option Value) (env : Env) (ct elt : Expr) (x : Str) (scope : Scope) (cl : List (Str × Addr)) (Q : Value → Shared → Prop) (xv : Value) (s₁ : Shared) : Prop
  | intro (σ : Type) (l : Addr) (vs : List Value) (k : Nat) (Led : σ → List (Addr × Obj)) (Inv : Nat → σ → List Value → Nat → Prop) (u₀ : σ) (e0 : xv = .ref l) (e1 : vs.length ≤ sizeLine) (e2 : (∀ u, (l, W.listOf vs.toArray k) ∈ Led u)) (e3 : Fr h₀ L s₁.heap m) (e4 : News h₀ L s₁.heap (Led u₀)) (e5 : Inv 0 u₀ [] s₁.toks) (e6 : (∀ (u : σ) (i : Nat) v ys I oI C oC c oc D h (tk : Nat) (E' : Value → Shared → Prop), vs[i]? = some v → Inv i u ys tk → oI.cls = .type "list_iterator" → oc.data = .cell (some v) → Fr h₀ L h m → News h₀ L h ((I, oI) :: (C, oC) :: (c, oc) :: (D, lst ys) :: Led u) → (∀ p ∈ Led u, p.1 ≠ I ∧ p.1 ≠ C ∧ p.1 ≠ c ∧ p.1 ≠ D) →
        (@Ne Nat C c ∧ @Ne Nat C D ∧ @Ne Nat c D ∧ @Ne Nat I C ∧ @Ne Nat I c ∧ @Ne Nat I D) →
        wpAny (model prog w) A (isTrue ct (compEnvC scope ((x, c) :: cl) C env) (eval ct (compEnvC scope ((x, c) :: cl) C env))) (fun ok s' => if ok = true then
          wpAny (model prog w) A (eval elt (compEnvC scope ((x, c) :: cl) C env)) (fun y => KOut2 h₀ L m Led [(I, oI), (C, oC), (c, oc), (D, lst ys)] (fun u' tk' => Inv (i + 1) u' (ys ++ [y]) tk') { s₁ with heap := h, toks := tk }) E' s'
          else KOut2 h₀ L m Led [(I, oI), (C, oC), (c, oc), (D, lst ys)] (fun u' tk' => Inv (i + 1) u' ys tk') { s₁ with heap := h, toks := tk } s') E' { s₁ with heap := h, toks := tk })) (e7 : (∀ D u ys h tk, Inv vs.length u ys tk → Fr h₀ L h m → News h₀ L h ((D, lst ys) :: Led u) → (∀ p ∈ Led u, p.1 ≠ D) → (∀ p ∈ Led u₀, p.1 < D) → Q (.ref D) { s₁ with heap := h, toks := tk })) : HCLEC prog w A h₀ L m env ct elt x scope cl Q xv s₁
/-- a comprehension whose target is a cell of its own block -/
theorem x_compLEC {elt iter : Expr} {x : Str} {px : Pos} {ct : Expr} {scope : Scope} {cl : List (Str × Addr)} {pos : Pos} {Q : Value → Shared → Prop} (_ : Fr h₀ L s.heap m)
    (hclos : closureFor scope env = pure cl) (hcells : ∀ n, cellsFrom n scope.names cl = (x, n) :: cl) (hpush : ∀ h, pushCells h scope.names = h.push { cls := .type "cell", data := .cell none }) (hkind : scope.kind = .function)
    (hnames : ∀ y ∈ scope.names, y.2 = .local → scope.names.lookup y.1 = some .local) (hx : ∀ cl C, (compEnvC scope cl C env).kindOf x = some .cell) (hh : A.handled = none)
    (h : wpAny (model prog w) A (eval iter env) (fun xv s₁ => Hold (HCLEC prog w A h₀ L m env ct elt x scope cl Q xv s₁)) E s)
    (hs : ∀ x, foldedSetIterable iter env x = pure x := by intro _; rfl) :
    wpAny (model prog w) A (eval (.ListComp elt [⟨.Name x px, iter, [ct], 0⟩] scope pos) env) Q E s := by
  rw [eval_ListComp]
  refine wpAny_comprehension_free (use := none) rfl hs hclos hkind hnames (wpAny_mono h (fun xv s₁ h₁ => ?_) fun _ _ e => e)
  obtain ⟨σ, l, vs, k, Led, Inv, u₀, rfl, hsz, hl, F1, N1, hI, turn, done⟩ := h₁.out
  have hls : s₁.heap.IsList l vs.toArray := ⟨_, (N1 _ (hl u₀)).1, rfl, _, rfl⟩
  refine wpAny_pyIter_list hls ?_
  refine kstartC rfl rfl hcells hpush ⟨_, Heap.get?_push_size _ rfl, rfl, rfl⟩ (F1.push _) (fun p hp => ⟨Heap.get?_push_of_some _ (N1 p hp).1, (N1 p hp).2⟩) fun C c D oC oc h hoC hoc F2 N2 ⟨nCc, nCD, ncD, nIC, nIc, nID⟩ hlt hst1 => ?_
  refine kcoreL (σ := KSC σ) (l := l) (vs := vs) (k := k) (fun q => (C, oC) :: (c, q.oc) :: (D, lst q.ys) :: Led q.u) (fun i q tk => (∃ z, q.oc.data = .cell z) ∧ Inv i q.u q.ys tk ∧ q.ys.length ≤ i ∧ ∀ p ∈ Led q.u, p.1 ≠ C ∧ p.1 ≠ c ∧ p.1 ≠ D) ⟨u₀, oc, []⟩
    rfl rfl rfl kturn1 kBw_mono hh (fun q => List.mem_cons_of_mem _ (List.mem_cons_of_mem _ (List.mem_cons_of_mem _ (hl q.u)))) (Nat.ne_of_gt F1.ns.lt) (next_is_new F1) ?hoff hst1 F2 N2 ⟨⟨_, hoc⟩, hI, Nat.le_refl _, fun p hp => ⟨Nat.ne_of_lt (hlt p hp).1, Nat.ne_of_lt (hlt p hp).2.1, Nat.ne_of_lt (hlt p hp).2.2⟩⟩ ?turn ?done
  case hoff =>
    intro p hp
    rcases List.mem_cons.mp hp with rfl | hp
    · exact nIC.symm
    rcases List.mem_cons.mp hp with rfl | hp
    · exact nIc.symm
    rcases List.mem_cons.mp hp with rfl | hp
    · exact nID.symm
    · exact Nat.ne_of_lt (Heap.lt_size (N1 p hp).1)
  case turn =>
    rintro ⟨u, oc, ys⟩ i v h tk oI E' hv ⟨⟨z, hz⟩, hInv, hyl, hnC⟩ hcI ho F' N'
    dsimp only at hInv hyl hnC ho N' hz
    have hil := (List.getElem?_eq_some_iff.mp hv).1
    refine kstoreC (pre := [(_, oI), (C, oC)]) (post := (D, lst ys) :: Led u) F' N' hz (fun p hp => ?_) (fun p hp => ?_) (by simp) hkind (hx _ _) fun h2 oc2 hoc2 F2 N2 => ?_
    · rcases List.mem_cons.mp hp with rfl | hp
      · exact nIc
      · rw [List.mem_singleton.mp hp]; exact nCc
    · rcases List.mem_cons.mp hp with rfl | hp
      · exact ncD.symm
      · exact (hnC p hp).2.1
    refine wpAny_tests_one ?_
    have hoff4 : ∀ p ∈ Led u, p.1 ≠ s₁.heap.objs.size ∧ p.1 ≠ C ∧ p.1 ≠ c ∧ p.1 ≠ D := fun p hp => ⟨ho p (List.mem_cons_of_mem _ (List.mem_cons_of_mem _ (List.mem_cons_of_mem _ hp))), hnC p hp⟩
    have T := turn u i v ys _ oI C oC c oc2 D h2 tk E' hv hInv hcI hoc2 F2 N2 hoff4 ⟨nCc, nCD, ncD, nIC, nIc, nID⟩
    have fin0 : ∀ s', KOut2 h₀ L m Led [(s₁.heap.objs.size, oI), (C, oC), (c, oc2), (D, lst ys)] (fun u' tk' => Inv (i + 1) u' ys tk') { s₁ with heap := h2, toks := tk } s' →
        KEnd h₀ L m (fun q : KSC σ => (C, oC) :: (c, q.oc) :: (D, lst q.ys) :: Led q.u) s₁.heap.objs.size oI (fun q tk => (∃ z, q.oc.data = .cell z) ∧ Inv (i + 1) q.u q.ys tk ∧ q.ys.length ≤ i + 1 ∧ ∀ p ∈ Led q.u, p.1 ≠ C ∧ p.1 ≠ c ∧ p.1 ≠ D) { s₁ with heap := h, toks := tk } s' := by
      rintro s' ⟨u', h3, tk3, all, rfl, F3, N3, sub, off, hI3⟩
      refine ⟨⟨u', oc2, ys⟩, h3, tk3, all, rfl, F3, N3, sub _ (by simp), fun p hp => sub p (by simp only [List.mem_cons, List.cons_append, List.nil_append] at hp ⊢; exact .inr hp), fun p hp => ?_, ⟨_, hoc2⟩, hI3, by show ys.length ≤ i + 1; omega, fun p hp => ⟨off p hp (C, oC) (by simp), off p hp (c, oc2) (by simp), off p hp (D, lst ys) (by simp)⟩⟩
      rcases List.mem_cons.mp hp with rfl | hp
      · exact nIC.symm
      rcases List.mem_cons.mp hp with rfl | hp
      · exact nIc.symm
      rcases List.mem_cons.mp hp with rfl | hp
      · exact nID.symm
      · exact off p hp (s₁.heap.objs.size, oI) (by simp)
    refine wpAny_mono T (fun ok s' h' => ?_) fun _ _ e => e
    cases ok with
    | false => exact fin0 s' h'
    | true =>
      refine wpAny_mono h' (fun y s'' hy => ?_) fun _ _ e => e
      obtain ⟨u', h3, tk3, all, rfl, F3, N3, sub, off, hI3⟩ := hy
      have N4 := news_sub N3 sub
      have zD := N4 (D, lst ys) (by simp)
      refine append_at (hsz := by show ys.toArray.size ≤ sizeLine; rw [List.size_toArray]; omega) zD.1 fun h5 hs5 hD5 => ?_
      refine ⟨⟨u', oc2, ys ++ [y]⟩, h5, tk3, (s₁.heap.objs.size, oI) :: (C, oC) :: (c, oc2) :: (D, lst (ys ++ [y])) :: Led u', rfl, F3.change hs5 zD.2.1 zD.2.2, fun p hp => ?_, List.mem_cons_self .., fun p hp => List.mem_cons_of_mem _ hp, fun p hp => ?_, ⟨_, hoc2⟩, hI3, by show (ys ++ [y]).length ≤ i + 1; rw [List.length_append, List.length_singleton]; omega, fun p hp => ⟨off p hp (C, oC) (by simp), off p hp (c, oc2) (by simp), off p hp (D, lst ys) (by simp)⟩⟩
      · have old : ∀ p, p ∈ [(s₁.heap.objs.size, oI), (C, oC), (c, oc2), (D, lst ys)] ++ Led u' → p.1 ≠ D → h5.get? p.1 = some p.2 ∧ p.1 ≠ L ∧ h₀.get? p.1 = none := fun p hp hne => ⟨hs5.extBut _ _ hne (N4 p hp).1, (N4 p hp).2⟩
        rcases List.mem_cons.mp hp with rfl | hp
        · exact old _ (by simp) nID
        rcases List.mem_cons.mp hp with rfl | hp
        · exact old _ (by simp) nCD
        rcases List.mem_cons.mp hp with rfl | hp
        · exact old _ (by simp) ncD
        rcases List.mem_cons.mp hp with rfl | hp
        · exact ⟨hD5.trans (congrArg some (lst_snoc ys y)), zD.2⟩
        · exact old _ (List.mem_append_right _ hp) (off p hp (D, lst ys) (by simp))
      · rcases List.mem_cons.mp hp with rfl | hp
        · exact nIC.symm
        rcases List.mem_cons.mp hp with rfl | hp
        · exact nIc.symm
        rcases List.mem_cons.mp hp with rfl | hp
        · exact nID.symm
        · exact off p hp (s₁.heap.objs.size, oI) (by simp)
  case done =>
    rintro ⟨u, oc, ys⟩ h tk ⟨⟨z, hz⟩, hInv, hyl, hnC⟩ F' N' ho
    refine kfinE F' (news_sub N' ?_) (show NsObj oC (fun _ => none) from hoC) nCD (fun p hp => (hnC p hp).1) fun h' F3 N3 => done D u ys h' tk hInv F3 N3 (fun p hp => (hnC p hp).2.2) fun p hp => (hlt p hp).2.2
    intro p hp
    simp only [List.mem_cons] at hp ⊢
    rcases hp with h | h | h
    · exact .inl h
    · exact .inr (.inr (.inl h))
    · exact .inr (.inr (.inr h))

theorem ktests0 {cenv : Env} {P R : Shared → Prop} (h : P s) : KTests prog w A cenv [] (fun ok s' => if ok = true then P s' else R s') E s := by
  show (if true = true then P s else R s)
  rw [if_pos rfl]; exact h
theorem ktests1 {cenv : Env} {ct : Expr} {Q : Bool → Shared → Prop} (h : wpAny (model prog w) A (isTrue ct cenv (eval ct cenv)) Q E s) : KTests prog w A cenv [ct] Q E s := h
end
theorem intsAre_at {vs : List Value} {ns : List Int} (h : IntsAre vs ns) : ∀ {i : Nat} {v : Value}, vs[i]? = some v → ∃ c t, ns[i]? = some c ∧ v = .int c t := by
  induction h with
  | nil => intro i v q; cases q
  | cons x t _ ih =>
    intro i v q
    cases i with
    | zero => exact ⟨x, t, rfl, (Option.some.inj q).symm⟩
    | succ i => exact ih q
theorem strsAre_at {vs : List Value} {ns : List Str} (h : StrsAre vs ns) : ∀ {i : Nat} {v : Value}, vs[i]? = some v → ∃ c t, ns[i]? = some c ∧ v = .str c t := by
  induction h with
  | nil => intro i v q; cases q
  | cons x t _ ih =>
    intro i v q
    cases i with
    | zero => exact ⟨x, t, rfl, (Option.some.inj q).symm⟩
    | succ i => exact ih q
theorem news_tail {h₀ h : Heap} {L : Addr} {a : Addr × Obj} {l : List (Addr × Obj)} (N : News h₀ L h (a :: l)) : News h₀ L h l := fun p hp => N p (List.mem_cons_of_mem _ hp)
theorem intsAre_snoc {vs : List Value} {ns : List Int} (h : IntsAre vs ns) (n : Int) (t : Tok) : IntsAre (vs ++ [.int n t]) (ns ++ [n]) := by
  induction h with
  | nil => exact .cons n t .nil
  | cons m u _ ih => exact .cons m u ih
end Y33
end
section
open PySem PySem.W PyProof.Rows PySem.Calls
set_option Elab.async false
set_option maxRecDepth 100000
set_option maxHeartbeats 2000000
namespace Y33
open LCg LCt
section
variable {prog : Program} {w : World} {A : Around} {E : Value → Shared → Prop} {s : Shared} {h₀ : Heap} {L : Addr} {m : Str → Option Value} {env : Env}
noncomputable def kBwD (prog : Program) (w : World) (A : Around) (D : Addr) (kx vx : Expr) (ifs : List Expr) (cenv : Env) (P : Shared → Prop) (E : Value → Shared → Prop) (s : Shared) : Prop :=
  wpAny (model prog w) A (forIn ifs true fun c r => if r = true then do let ok ← isTrue c cenv (eval c cenv); pure (ForInStep.yield ok) else pure (ForInStep.yield r)) (fun ok s₃ =>
    if ok = true then wpAny (model prog w) A (eval kx cenv) (fun kv s₄ => wpAny (model prog w) A (eval vx cenv) (fun vv s₅ => wpAny (model prog w) A (dictSet D kv vv) (fun _ s₆ => P s₆) E s₅) E s₄) E s₃ else P s₃) E s
theorem kBwD_mono {D : Addr} {kx vx : Expr} {ifs : List Expr} {cenv : Env} (P P' : Shared → Prop) (E : Value → Shared → Prop) (s : Shared) (h : ∀ s, P s → P' s) (x : kBwD prog w A D kx vx ifs cenv P E s) : kBwD prog w A D kx vx ifs cenv P' E s :=
  wpAny_mono x (fun ok s₃ h₃ => by
    cases ok with
    | false => exact h _ h₃
    | true => exact wpAny_mono h₃ (fun kv s₄ h₄ => wpAny_mono h₄ (fun vv s₅ h₅ => wpAny_mono h₅ (fun _ s₆ h₆ => h _ h₆) fun _ _ e => e) fun _ _ e => e) fun _ _ e => e) fun _ _ e => e
theorem kturnD {kx vx iter : Expr} {x : Str} {px : Pos} {ifs : List Expr} {scope : Scope} {pos : Pos} {it : Value} {D : Addr} {cenv : Env} : KTurn prog w A (.DictComp kx vx [⟨.Name x px, iter, ifs, 0⟩] scope pos) 0 it (.ref D) x px cenv (kBwD prog w A D kx vx ifs cenv) := by
  intro s Q E h
  rw [compTurn_dict]
  refine wpAny_bind (wpAny_standAt (wpAny_bind (wpAny_mono h (fun r s₁ h₁ => ?_) fun _ _ h' => h')))
  cases r with
  | none => exact wpAny_pure h₁
  | some v =>
    refine wpAny_bind (wpAny_of_eq (a := ()) rfl ?_)
    refine wpAny_bind (wpAny_mono h₁ (fun _ s₂ h₂ => wpAny_bind (wpAny_mono h₂ (fun ok s₃ h₃ => ?_) fun _ _ h' => h')) fun _ _ h' => h')
    cases ok with
    | false => exact wpAny_pure h₃
    | true =>
      exact wpAny_bind (wpAny_bind (wpAny_mono h₃ (fun kv s₄ h₄ => wpAny_bind (wpAny_holding (wpAny_mono h₄ (fun vv s₅ h₅ => wpAny_bind (wpAny_standAt (wpAny_holding (wpAny_mono h₅ (fun _ s₆ h₆ => wpAny_pure h₆) fun _ _ h' => h')))) fun _ _ h' => h'))) fun _ _ h' => h'))
structure KSD where
  oC : Obj
  oD : Obj
  kvs : List (Int × Value)
/-- what a test or a value of the block may do -/
noncomputable def KPure (s₁ : Shared) (h : Heap) (s' : Shared) : Prop := ∃ tk', s' = { s₁ with heap := h, toks := tk' }
end
section
variable {w : World} {A : Around} {E : Value → Shared → Prop} {s : Shared} {h₀ : Heap} {L : Addr} {m : Str → Option Value} {env : Env}
end
section
variable {w : World} {A : Around} {E : Value → Shared → Prop} {s : Shared} {h₀ : Heap} {L : Addr} {m : Str → Option Value} {env : Env}
inductive HDC (w : World) (A : Around) (h₀ : Heap) (L : Addr) (m : Str → Option Value) (env : Env) (ct vx : Expr) (scope : Scope) (cl : List (Str × Addr)) (Q : Value → Shared → Prop) (xv : Value) (s₁ : Shared) : Prop
  | intro (l : Addr) (vs : List Value) (ns : List Int) (k : Nat) (news : List (Addr × Obj)) (y : Int) (ty : Tok) (b : Bool) (e0 : xv = .ref l) (e1 : IntsAre vs ns) (e2 : ns.length ≤ 1000) (e3 : (l, W.listOf vs.toArray k) ∈ news) (e4 : Fr h₀ L s₁.heap m) (e5 : News h₀ L s₁.heap news) (e6 : (∀ C h tk (E' : Value → Shared → Prop), Fr h₀ L h m → News h₀ L h news → wpAny (model Challenge.rw_yf0033_01.row.prog w) A (isTrue ct (compEnvC scope cl C env) (eval ct (compEnvC scope cl C env))) (fun ok s' => ok = b ∧ KPure s₁ h s') E' { s₁ with heap := h, toks := tk })) (e7 : (∀ C h tk (E' : Value → Shared → Prop), Fr h₀ L h m → News h₀ L h news → wpAny (model Challenge.rw_yf0033_01.row.prog w) A (eval vx (compEnvC scope cl C env)) (fun v s' => v = .int y ty ∧ KPure s₁ h s') E' { s₁ with heap := h, toks := tk })) (e8 : (∀ D o kvs h tk, IDict w o kvs → DAre kvs (if b then ns.foldl (fun a k => putS a k y) [] else []) → (D == sysModules) = false → Fr h₀ L h m → News h₀ L h ((D, o) :: news) → (∀ p ∈ news, p.1 < D) → Q (.ref D) { s₁ with heap := h, toks := tk })) : HDC w A h₀ L m env ct vx scope cl Q xv s₁
/-- a dict comprehension over ints: the item is the key, the value and the test do not ask it -/
theorem x_dictC {vx ct iter : Expr} {x : Str} {px qx : Pos} {scope : Scope} {cl : List (Str × Addr)} {pos : Pos} {Q : Value → Shared → Prop} (_ : Fr h₀ L s.heap m) (hbig : h₀.NoLimit)
    (hclos : closureFor scope env = pure cl) (hcell : ∀ y ∈ scope.names, y.2 ≠ .cell) (hkind : scope.kind = .function) (hdbg : (x == ("__debug__" : Str)) = false)
    (hnames : ∀ y ∈ scope.names, y.2 = .local → scope.names.lookup y.1 = some .local) (hx : scope.names.lookup x = some .local) (hh : A.handled = none)
    (h : wpAny (model Challenge.rw_yf0033_01.row.prog w) A (eval iter env) (fun xv s₁ => Hold (HDC w A h₀ L m env ct vx scope cl Q xv s₁)) E s)
    (hs : ∀ x, foldedSetIterable iter env x = pure x := by intro _; rfl) :
    wpAny (model Challenge.rw_yf0033_01.row.prog w) A (eval (.DictComp (.Name x qx) vx [⟨.Name x px, iter, [ct], 0⟩] scope pos) env) Q E s := by
  rw [arm_eval_DictComp]
  refine wpAny_comprehension_free (use := none) rfl hs hclos hkind hnames (wpAny_mono h (fun xv s₁ h₁ => ?_) fun _ _ e => e)
  obtain ⟨l, vs, ns, k, news, y, ty, b, rfl, hi, hsz, hl, F1, N1, htest, hval, done⟩ := h₁.out
  have hvl := hi.length
  have hls : s₁.heap.IsList l vs.toArray := ⟨_, (N1 _ hl).1, rfl, _, rfl⟩
  refine wpAny_pyIter_list hls ?_
  generalize hH1 : s₁.heap.push { cls := .type "list_iterator", data := .fields #[.ref l, .int 0 0] } = H1
  have hI : H1.objs.size = s₁.heap.objs.size + 1 := by rw [← hH1, Heap.size_push]
  refine wpAny_newObj_type (wpAny_newFunctionEnv hcell (by intro y hy; simp at hy) (fun h₁ hns₁ hsb₁ => ?_) hkind)
  try dsimp only at hns₁ hsb₁ ⊢
  have hnew : (H1.push { cls := .type "dict", dict := none, data := .dict #[] }).DictOf (intKind Challenge.rw_yf0033_01.row.prog w) H1.objs.size [] := Heap.DictOf.new H1
  generalize hH2 : H1.push { cls := .type "dict", dict := none, data := .dict #[] } = H2 at hns₁ hsb₁ hnew ⊢
  have hC : H2.objs.size = H1.objs.size + 1 := by rw [← hH2, Heap.size_push]
  have lowC : H1.objs.size < H2.objs.size := by rw [hC]; exact Nat.lt_succ_self _
  have lowI : s₁.heap.objs.size < H1.objs.size := by rw [hI]; exact Nat.lt_succ_self _
  have low : ∀ {b o}, s₁.heap.get? b = some o → b < s₁.heap.objs.size := fun e => Heap.lt_size e
  have up1 : ∀ b o, s₁.heap.get? b = some o → H1.get? b = some o := fun b o e => hH1 ▸ Heap.get?_push_of_some _ e
  have up2 : ∀ b o, H1.get? b = some o → H2.get? b = some o := fun b o e => hH2 ▸ Heap.get?_push_of_some _ e
  have up3 : ∀ b o, H2.get? b = some o → h₁.get? b = some o := fun b o e => hsb₁.extBut b o (Nat.ne_of_lt (Heap.lt_size e)) (Heap.get?_push_of_some _ e)
  have old : ∀ b o, s₁.heap.get? b = some o → h₁.get? b = some o := fun b o e => up3 b o (up2 b o (up1 b o e))
  have fresh₀ : ∀ a, s₁.heap.objs.size ≤ a → h₀.get? a = none := fun a ha => by
    cases e : h₀.get? a with
    | none => rfl
    | some o' => exact absurd (low (F1.keep a o' e)) (Nat.not_lt.mpr ha)
  obtain ⟨oL, hLe⟩ : ∃ o, s₁.heap.get? L = some o := by obtain ⟨o, _, _, e, _⟩ := F1.ns; exact ⟨o, e⟩
  have lL := low hLe
  obtain ⟨oC, heC, hoC⟩ := ns_obj hns₁
  obtain ⟨oD, heD, hoD⟩ := Heap.dictOf_iff.mp hnew
  have hsys : (H1.objs.size == sysModules) = false := beq_eq_false_iff_ne.mpr (Nat.ne_of_gt (Nat.lt_trans (modules_low hbig) (Nat.lt_trans (Nat.lt_of_le_of_lt F1.above lL) lowI)))
  have hst1 : h₁.IsListIter s₁.heap.objs.size l 0 := ⟨_, up3 _ _ (up2 _ _ (hH1 ▸ Heap.get?_push_size _ rfl)), rfl, rfl⟩
  have N₁ : News h₀ L h₁ ((H2.objs.size, oC) :: (H1.objs.size, oD) :: news) := fun p hp => by
    rcases List.mem_cons.mp hp with rfl | hp
    · exact ⟨heC, Nat.ne_of_gt (Nat.lt_trans lL (Nat.lt_trans lowI lowC)), fresh₀ _ (Nat.le_of_lt (Nat.lt_trans lowI lowC))⟩
    rcases List.mem_cons.mp hp with rfl | hp
    · exact ⟨up3 _ _ heD, Nat.ne_of_gt (Nat.lt_trans lL lowI), fresh₀ _ (Nat.le_of_lt lowI)⟩
    · exact ⟨old _ _ (N1 p hp).1, (N1 p hp).2⟩
  have nC : ∀ p ∈ news, p.1 ≠ H2.objs.size := fun p hp => Nat.ne_of_lt (Nat.lt_trans (low (N1 p hp).1) (Nat.lt_trans lowI lowC))
  have nD : ∀ p ∈ news, p.1 < H1.objs.size := fun p hp => Nat.lt_trans (low (N1 p hp).1) lowI
  have loop : codeAny (model Challenge.rw_yf0033_01.row.prog w) A (.compLoop (.DictComp (.Name x qx) vx [⟨.Name x px, iter, [ct], 0⟩] scope pos) 0 (.ref s₁.heap.objs.size) (.ref H1.objs.size) (compEnvC scope cl H2.objs.size env))
      (compPost (model Challenge.rw_yf0033_01.row.prog w) A E none Q (.ref H1.objs.size) H2.objs.size) { s₁ with heap := h₁, toks := s₁.toks } := by
    refine kcoreL (σ := KSD) (l := l) (vs := vs) (k := k) (fun c => (H2.objs.size, c.oC) :: (H1.objs.size, c.oD) :: news) (fun i c tk => (∃ mC, NsObj c.oC mC) ∧ IDict w c.oD c.kvs ∧ DAre c.kvs (if b then (ns.take i).foldl (fun a k => putS a k y) [] else []) ∧ c.kvs.length ≤ i) ⟨oC, oD, []⟩
      rfl rfl rfl kturnD kBwD_mono hh (fun c => List.mem_cons_of_mem _ (List.mem_cons_of_mem _ hl)) (Nat.ne_of_gt lL) (fresh₀ _ (Nat.le_refl _)) ?hoff hst1 (F1.keeps old) N₁ ⟨⟨_, hoC⟩, hoD, by cases b <;> exact .nil, Nat.le_refl _⟩ ?turn ?done
    case hoff =>
      intro p hp
      rcases List.mem_cons.mp hp with rfl | hp
      · exact Nat.ne_of_gt (Nat.lt_trans lowI lowC)
      rcases List.mem_cons.mp hp with rfl | hp
      · exact Nat.ne_of_gt lowI
      · exact Nat.ne_of_lt (low (N1 p hp).1)
    case turn =>
      intro cc i v h tk oI E' hv hPP hcI ho F' N'
      refine Classical.byContradiction fun hn => ?_
      obtain ⟨⟨mC, hmC⟩, hD, hA, hlen⟩ := hPP
      refine hn ?_
      clear hn
      try dsimp only at hD hA ho N' hmC hlen
      have hil := (List.getElem?_eq_some_iff.mp hv).1
      obtain ⟨c, t, hc, rfl⟩ := intsAre_at hi hv
      refine kstore (pre := [(_, oI)]) (post := (H1.objs.size, cc.oD) :: news) F' N' hmC (fun p hp => by rw [List.mem_singleton.mp hp]; exact Nat.ne_of_lt (Nat.lt_trans lowI lowC)) (fun p hp => ?_) hx hkind fun h2 oC2 hoC2 F2 N2 => ?_
      · rcases List.mem_cons.mp hp with rfl | hp
        · exact Nat.ne_of_lt lowC
        · exact nC p hp
      have N2n : News h₀ L h2 news := fun p hp => N2 p (List.mem_append_right _ (List.mem_cons_of_mem _ (List.mem_cons_of_mem _ hp)))
      refine wpAny_tests_one (wpAny_mono (htest H2.objs.size h2 (tk + 1) E' F2 N2n) (fun ok s' hk => ?_) fun _ _ e => e)
      obtain ⟨rfl, tk2, rfl⟩ := hk
      have zI := N2 (_, oI) (List.mem_append_left _ (List.mem_singleton.mpr rfl))
      have zC := N2 (H2.objs.size, oC2) (List.mem_append_right _ (List.mem_cons_self ..))
      have zD := N2 (H1.objs.size, cc.oD) (List.mem_append_right _ (List.mem_cons_of_mem _ (List.mem_cons_self ..)))
      have hoffc : ∀ (o1 o2 : Obj), ∀ p ∈ (H2.objs.size, o1) :: (H1.objs.size, o2) :: news, p.1 ≠ s₁.heap.objs.size := fun o1 o2 p hp => by
        rcases List.mem_cons.mp hp with rfl | hp
        · exact Nat.ne_of_gt (Nat.lt_trans lowI lowC)
        rcases List.mem_cons.mp hp with rfl | hp
        · exact Nat.ne_of_gt lowI
        · exact Nat.ne_of_lt (low (N1 p hp).1)
      cases ok with
      | false =>
        simp only [Bool.false_eq_true, if_false] at hA ⊢
        exact ⟨⟨oC2, cc.oD, cc.kvs⟩, h2, tk2, _, rfl, F2, N2, List.mem_append_left _ (List.mem_singleton.mpr rfl), fun p hp => List.mem_append_right _ hp, hoffc _ _, ⟨_, hoC2⟩, hD, hA, Nat.le_succ_of_le hlen⟩
      | true =>
        simp only [if_true] at hA ⊢
        refine wpAny_Name (wpAny_loadName_local hkind (lookup_relabel_local hx) (hoC2.ns zC.1) (show _ = some (Value.int c t) by simp) ?_) hdbg
        refine wpAny_mono (hval H2.objs.size h2 tk2 E' F2 N2n) (fun v s' hk => ?_) fun _ _ e => e
        obtain ⟨rfl, tk3, rfl⟩ := hk
        refine wpAny_dictSet_pairs (knd := intKind Challenge.rw_yf0033_01.row.prog w) (k := c) (hsz := by rw [PySem.sizeLine_eq]; omega) (intKind_is _ _ _ _) (Heap.dictOf_iff.mpr ⟨cc.oD, zD.1, hD⟩) fun h6 hl6 hs6 => ?_
        obtain ⟨oD', heD', hoD'⟩ := Heap.dictOf_iff.mp hl6
        refine ⟨⟨oC2, oD', PySem.stored cc.kvs c (.int y ty)⟩, h6, _, (s₁.heap.objs.size, oI) :: (H2.objs.size, oC2) :: (H1.objs.size, oD') :: news, rfl, F2.change hs6 zD.2.1 zD.2.2, fun p hp => ?_, List.mem_cons_self .., fun p hp => List.mem_cons_of_mem _ hp, hoffc _ _, ⟨_, hoC2⟩, hoD', ?_, ?_⟩
        · rcases List.mem_cons.mp hp with rfl | hp
          · exact ⟨hs6.extBut _ _ (Nat.ne_of_lt lowI) zI.1, zI.2⟩
          rcases List.mem_cons.mp hp with rfl | hp
          · exact ⟨hs6.extBut _ _ (Nat.ne_of_gt lowC) zC.1, zC.2⟩
          rcases List.mem_cons.mp hp with rfl | hp
          · exact ⟨heD', zD.2⟩
          · exact ⟨hs6.extBut _ _ (Nat.ne_of_lt (nD p hp)) (N2n p hp).1, (N2n p hp).2⟩
        · show DAre (PySem.stored cc.kvs c (.int y ty)) _
          rw [List.take_add_one, hc, List.foldl_append]
          exact hA.stored c y ty
        · exact Nat.le_trans (stored_length_le _ _ _) (Nat.succ_le_succ hlen)
    case done =>
      intro cc h tk hPP F' N' ho
      refine Classical.byContradiction fun hn => ?_
      obtain ⟨⟨mC, hmC⟩, hD, hA, hlen⟩ := hPP
      refine hn ?_
      clear hn
      try dsimp only at hD hA N' hmC
      rw [hvl, List.take_length] at hA
      exact kfinE F' N' hmC (Nat.ne_of_gt lowC) nC fun h' F3 N3 => done _ _ _ _ _ hD hA hsys F3 N3 nD
  exact codeAny_compStart_dict loop (wpAny_pyIter_listiter hst1 loop)
end
end Y33
end
open PySem PySem.W PyProof.Rows PySem.Calls
set_option Elab.async false
set_option maxRecDepth 100000
namespace Y33
set_option hygiene false in
local macro_rules | `(tactic| walk_at "yq") => `(tactic| with_reducible first | assumption | exact q_zi | exact q_zn | exact q_ti | exact q_ng | exact q_pi (by assumption) | exact q_or3 (by assumption) | exact q_or4 (by assumption) | exact q_lw (by assumption) | exact q_sl (by assumption) | exact q_le (by assumption) (by decide) | exact q_lt (by assumption) (by decide) | fail)
set_option hygiene false in
local macro_rules | `(tactic| omega) => `(tactic| walk_at "yq")
local macro_rules | `(tactic| obtain $p:rcasesPatMed := $t:term) => `(tactic| first | (refine Classical.byContradiction fun hn => ?_; (rcases $t:term with $p) <;> (refine hn ?_; clear hn)) | rcases $t:term with $p)
local macro_rules | `(tactic| obtain $p:rcasesPatMed : $ty := $t:term) => `(tactic| obtain $p:rcasesPatMed := ($t : $ty))
set_option hygiene false in
local macro_rules | `(tactic| walk_at "y0") => `(tactic| (k_here; refine Hold.out ?_))
local macro_rules | `(tactic| walk_at "y1") => `(tactic| (k_here; (with_unfolding_all refine' x_For ?_ ?hs ?hE; (case hs => intro _; with_unfolding_all rfl); (case hE => first | passes_own | with_unfolding_all passes_own); k_whole)))
set_option hygiene false in
local macro_rules | `(tactic| walk_at "y2") => `(tactic| ((try dsimp only); (try simp only [List.length_cons, List.length_nil, List.length_set]); omega))
set_option hygiene false in
local macro_rules | `(tactic| walk_at "y3") => `(tactic| (rw [PySem.sizeLine_eq]; walk_at "y5"))
set_option hygiene false in
local macro_rules | `(tactic| walk_at "y5") => `(tactic| ((try simp only [Str.length_append]); omega))
local macro_rules | `(tactic| walk_at "y4") => `(tactic| (refine gen_toks ?_; intro tk htk; (try dsimp only at htk)))
set_option hygiene false in
local macro_rules | `(tactic| walk_at "y6") => `(tactic| first | with_reducible assumption | l_intsW)
set_option hygiene false in
local macro_rules | `(tactic| walk_at "y7") => `(tactic| first | with_reducible assumption | (k_dflt walk_at "y3"))
set_option hygiene false in
local macro_rules | `(tactic| walk_at "y8") => `(tactic| first | with_reducible assumption | (k_dflt walk_at "y5"))
set_option hygiene false in
local macro_rules | `(tactic| walk_at "y9") => `(tactic| first | exact BindsTo.of_eq rfl | exact binds_K (by k_in) rfl (by k_is) rfl rfl rfl)
local macro_rules | `(tactic| cell_enter) => `(tactic| first
  | (refine' code_def ?k1 ?k2 ?k3 ?k4 ?k5 ?kA ?kF ?kK ?k6 ?k7 ?k8 ?k9 ?kB ?_ ?c2 ?c3 ?c4 ?c5; (case kA | kF => exact rfl); (case kK => assumption); (case k1 | k2 | k3 | k4 | k5 => k_asm); (case k6 | k7 => k_is); (case k8 => ktr_room); (case k9 => walk_at "y9"); (case c5 => decide); (case kB => exact locs rfl); (case c2 | c3 | c4 => exact rfl); k_whole; intro g' L' h' FG' F' N' B' X' T'; (try dsimp only); (try k_lift B'); (try k_fold))
  | (refine' code_defC ?k1 ?k2 ?k3 ?k4 ?k5 ?kA ?kF ?kK ?k6 ?k7 ?k8 ?k9 ?kB ?kD ?_ ?c2 ?c3 ?c4; (case kA | kF => exact rfl); (case kK => assumption); (case k1 | k2 | k3 | k4 | k5 => k_asm); (case k6 | k7 => k_is); (case k8 => ktr_room); (case k9 => walk_at "y9"); (case kB => exact rfl); (case kD => decide +kernel); (case c2 | c3 | c4 => exact rfl); k_whole; intro g' L' h' tk' cells' FG' F' N' Y' B' X' T' l1; k_cells Y'; (try simp only [List.cons_append, List.nil_append] at N'); (try dsimp only); (try k_lift B'); (try k_fold)))
set_option hygiene false in
local macro_rules | `(tactic| k_mem) => `(tactic| with_reducible first | assumption | exact mm0 | exact mm1 | exact mm2 | exact mm3 | exact mm4 | exact mm5 | exact mm6 | exact mm7 | exact mm8 | exact mm9 | exact mm10 | exact mm11 | exact mm12 | exact mm13 | exact md1 (by assumption) | exact md2 (by assumption) | exact md3 (by assumption) | exact md4 (by assumption) | exact md5 (by assumption) | exact md6 (by assumption) | exact md7 (by assumption) | exact md8 (by assumption) | exact md9 (by assumption) | exact md10 (by assumption) | exact md11 (by assumption) | exact md12 (by assumption) | exact md13 (by assumption) | (refine md14 ?_; k_mem))
set_option hygiene false in
local macro_rules | `(tactic| k_ne) => `(tactic| (refine neN ?_; (try dsimp only); first | with_reducible first | assumption | exact ne_sy (by assumption) | exact ne_ltL (by assumption) (by k_mem) | exact ne_ltR (by assumption) (by k_mem) | omega))
set_option hygiene false in
local macro_rules | `(tactic| k_lt $h:ident) => `(tactic| skip)
set_option hygiene false in
local macro_rules | `(tactic| k_all) => `(tactic| with_reducible first | assumption | exact nes_of (by assumption) | exact nes1 (by assumption) | exact nes_of (lts1 (by assumption)) | exact nes_of (lts1 (lts1 (by assumption))) | exact nes_of (lts1 (lts1 (lts1 (by assumption)))) | exact nes_of (lts1 (lts1 (lts1 (lts1 (by assumption))))) | exact fa_nil | exact fa_cons (by k_ne) (by k_all))
local macro_rules | `(tactic| walk_at "subscriptTail") => `(tactic| (k_here; (with_reducible show wpAny _ _ (subscriptTail _ _ (Value.ref _) (Value.int _ _)) _ _ _); (with_unfolding_all refine' ksa_sub ?k1 ?k2 ?k3 ?k4 ?k5 ?k6 ?_ ?k8; (case k1 => k_asm); (case k2 => k_mem); (case k3 => walk_at "y6"); (case k4 | k5 | k6 => walk_at "y2"); (case k8 => with_unfolding_all rfl); k_whole); intro t'))
set_option hygiene false in
local macro_rules | `(tactic| walk_at "TPost") => `(tactic| dsimp only [TPost])
set_option hygiene false in
local macro_rules | `(tactic| walk_at "pyIter ref") => `(tactic| (k_here; (with_reducible show wpAny _ _ (pyIter (Value.ref _)) (fun it s₂ => XL _ _ _ _ _ _ _ _ _ it s₂) _ _); refine Hold.out ?_))
set_option hygiene false in
local macro_rules | `(tactic| walk_at "pyIter str") => `(tactic| (k_here; (with_reducible show wpAny _ _ (pyIter (Value.str _ _)) (fun it s₂ => XL _ _ _ _ _ _ _ _ _ it s₂) _ _); refine Hold.out ?_))
set_option hygiene false in
local macro_rules | `(tactic| walk_at "call type:enumerate") => `(tactic| (k_here; (with_reducible show wpAny _ _ (call (Value.type _) [Value.ref _]) (fun xv s₁ => wpAny _ _ (pyIter xv) (fun it s₂ => XL _ _ _ _ _ _ _ _ _ it s₂) _ s₁) _ _); refine Hold.out ?_))
set_option hygiene false in
local macro_rules | `(tactic| walk_at "exec For Name Name cons nil") => `(tactic| walk_at "y1")
set_option hygiene false in
local macro_rules | `(tactic| walk_at "exec For Name Call cons nil") => `(tactic| walk_at "y1")
set_option hygiene false in
local macro_rules | `(tactic| walk_at "exec For Name Subscript cons nil") => `(tactic| walk_at "y1")
set_option hygiene false in
local macro_rules | `(tactic| walk_at "exec For Name Attribute cons nil") => `(tactic| walk_at "y1")
set_option hygiene false in
local macro_rules | `(tactic| walk_at "exec For Tuple Call cons nil") => `(tactic| walk_at "y1")
set_option hygiene false in
local macro_rules | `(tactic| walk_at "exec For Tuple Call cons cons") => `(tactic| walk_at "y1")
set_option hygiene false in
local macro_rules | `(tactic| walk_at "getMethod ref") => `(tactic| (k_here; k_dflt (first | ((with_reducible show wpAny _ _ (getMethod _ (Str.ofString "values") _) _ _ _); refine gmV (by k_asm) (by k_mem) (by k_asm) ?_) | ((with_reducible show wpAny _ _ (getMethod _ (Str.ofString "items") _) _ _ _); refine gmI (by k_asm) (by k_mem) (by k_asm) ?_) | ((with_reducible show wpAny _ _ (getMethod _ (Str.ofString "get") _) _ _ _); refine gmG (by k_asm) (by k_mem) (by k_asm) ?_) | ((with_reducible show wpAny _ _ (getMethod (Value.ref 50) _ _) _ _ _); refine search_method (Fr.keep (by assumption) _ _ (by assumption)) ?_) | ((with_reducible show wpAny _ _ (getMethod _ (Str.ofString "span") _) _ _ _); refine span_method (News.get (by assumption) (by k_mem)) ?_))))
local macro_rules | `(tactic| walk_at "setItem ref int") => `(tactic| (k_here; (with_reducible show wpAny _ _ (setItem (Value.ref _) (Value.int _ _) _) _ _ _); k_dflt (refine' kda_set (knd := PySem.intKind _ _) ?k1 ?k2 ?k3 ?k4 ?k5 ?k6 ?_; (case k1 | k2 => k_asm); (case k3 => first | exact UpdF.head (by assumption) | exact UpdF.tail (by assumption) (UpdF.head (by assumption))); (case k4 => with_reducible assumption); (case k5 => exact intKind_is _ _ _ _); (case k6 => assumption); k_whole); intro h' o' F' N' hd'; (try dsimp only at N')))
set_option hygiene false in
local macro_rules | `(tactic| walk_at "getItem ref int") => `(tactic| (k_here; (with_reducible show wpAny _ _ (getItem (Value.ref _) (Value.int _ _)) _ _ _); k_dflt (refine' kdt_getItem (knd := PySem.intKind _ _) ?k1 ?k2 ?k3 ?k4 ?k5 ?_; (case k1 => k_asm); (case k2 => k_mem); (case k3 => with_reducible assumption); (case k4 => exact intKind_is _ _ _ _); (case k5 => with_reducible assumption); k_whole)))
set_option hygiene false in
local macro_rules | `(tactic| walk_at "compareOp In int ref") => `(tactic| (k_here; k_dflt (refine' kda_in (knd := PySem.intKind _ _) ?k1 ?k2 ?k3 ?k4 ?k5 _ ?k6 ?_; (case k1 => k_asm); (case k2 => k_mem); (case k3 | k4 => with_reducible assumption); (case k5 => exact intKind_is _ _ _ _); (case k6 => with_reducible assumption); k_whole)))
local macro_rules | `(tactic| walk_at "binaryOp Add str str") => `(tactic| (k_here; (with_unfolding_all refine' PyProof.Rows.add_str ?h ?hsz; (case hsz => walk_at "y3"); k_whole); intro t' tk'; (try dsimp only)))
local macro_rules | `(tactic| walk_at "inplaceOp Add str str") => `(tactic| (k_here; (with_unfolding_all refine' PyProof.Rows.iadd_str ?h ?hsz; (case hsz => walk_at "y3"); k_whole); intro t' tk'; (try dsimp only)))
set_option hygiene false in
local macro_rules | `(tactic| walk_at "subscriptTail") => `(tactic| (k_here; (with_reducible show wpAny _ _ (subscriptTail _ _ (Value.ref _) (Value.int (Int.fmod _ 6) _)) _ _ _); refine Hold.out ?_))
local macro_rules | `(tactic| walk_at "setItem ref int") => `(tactic| (k_here; (with_reducible show wpAny _ _ (setItem (Value.ref _) (Value.int _ _) (Value.int _ _)) _ _ _); k_dflt (refine' ksa_set ?k1 ?k2 ?k3 ?k4 ?k5 ?k6 ?k7 ?_; (case k1 | k2 => k_asm); (case k3 => k_upd); (case k4 => walk_at "y6"); (case k5 | k6 | k7 => walk_at "y2"); k_whole); intro h' F' N' hi' hl' hs'; (try k_sweep)))
local macro_rules | `(tactic| walk_at "subscriptTail") => `(tactic| (k_here; (with_reducible show wpAny _ _ (subscriptTail (PySem.Expr.List (PySem.Expr.Constant (Const.str _) _ _ :: _) _) _ (Value.ref _) (Value.int _ _)) _ _ _); (with_unfolding_all refine' item_strs (xs := tags) ?k1 ?k2 ?k3 ?k4 ?k5 ?k6 ?_ ?k8; (case k1 => k_asm); (case k2 => k_mem); (case k3 => exact StrsAre.cons _ _ (StrsAre.cons _ _ (StrsAre.cons _ _ StrsAre.nil))); (case k4 => walk_at "y2"); (case k5 => (show _ < (3 : Int)); omega); (case k6 => walk_at "y2"); (case k8 => with_unfolding_all rfl); k_whole); intro t'))
set_option hygiene false in
local macro_rules | `(tactic| walk_at "call builtin:re.Pattern.search") => `(tactic| walk_at "y0")
local macro_rules | `(tactic| walk_at "getAttr ref") => `(tactic| (k_here; (with_reducible show wpAny _ _ (getAttr (Value.ref _) (Str.ofString "string") _) _ _ _); k_dflt (refine string_attr (News.get (by assumption) (by k_mem)) ?_); intro _))
local macro_rules | `(tactic| walk_at "call builtin:re.Match.span") => `(tactic| (k_here; k_dflt (refine span_call (News.get (by assumption) (by k_mem)) (News.get (by assumption) (by k_mem)) (by k_asm) (by k_asm) ?_); intro S' h' tk' t1' t2' F' N'))
theorem kf_all : (PySem.Challenge.rw_yf0033_01 = PySem.Challenge.rw_yf0033_01) ∧ (Y33.hd.heap_1 = Y33.hd.heap_1) := by w_top off; k_fill; exact ⟨rfl, rfl⟩
noncomputable def nextS (ns : List Int) (h : Int) : Int := if h < 3 then ns.getD h.toNat 0 else h
noncomputable def iterS (ns : List Int) (p : Int) : Nat → Int
  | 0 => p
  | i + 1 => nextS ns (iterS ns p i)
noncomputable def endS (ns : List Int) (p : Int) : Int := iterS ns p 3

theorem iterS_in {ns : List Int} (h : InR ns) {p : Int} (h0 : 0 ≤ p) (h3 : p ≤ 3) : ∀ i, 0 ≤ iterS ns p i ∧ iterS ns p i ≤ 3
  | 0 => ⟨h0, h3⟩
  | i + 1 => by
    have := iterS_in h h0 h3 i
    show 0 ≤ nextS ns (iterS ns p i) ∧ nextS ns (iterS ns p i) ≤ 3
    unfold nextS
    split
    · exact h.2 _
    · exact this
set_option maxHeartbeats 4000000 in
theorem end_c (w : World) (loose : List Str) (mean : ExcName → Option Value) (mg mb : Str → Option Value) (news : List (Addr × Obj)) (l : Addr) (n : Nat) (vs : List Value) (ns : List Int) (place : Int) (tp : Tok)
   (hm : (l, W.listOf vs.toArray n) ∈ news) (hv : IntsAre vs ns) (hr : InR ns) (hp : 0 ≤ place) (hp2 : place ≤ 3) :
   C w loose mean mg mb 241 [.ref l, .int place tp] news 1 (fun h₀ L m Q => ∀ h' tk' t, Fr h₀ L h' m → News h₀ L h' news → Q (.int (endS ns place) t) h' tk') := by
  unfold C
  intro dp un gd cn cs a ccd cl outer A₀ base h₀ L m s Q E hB hF hK hN hT hk hd hu hret
  have hln := hr.1
  refine wpAny_call ?_
  k_dflt cell_enter
  k_steps
  refine Hold.mk ?_
  (rename Fr _ _ _ _ => lF'); (rename News _ _ _ _ => lN')
  refine x_range (n := 3) (σ := Int × Tok) (fun _ => news) (fun c => [("posts", .ref l), ("here", .int c.1 c.2)]) (fun i c => c.1 = iterS ns place i) (place, tp) (by rfl) (by assumption) (by decide) (by decide) rfl rfl lF' (news_sub lN' (by intro p hp; k_mem)) ?_ rfl ?_ ?_
  · exact fa_cons (by with_unfolding_all rfl) (fa_one (by with_unfolding_all rfl))
  · rintro ⟨x, t⟩ i u m₁ h tk I oI hi hc hcl ho lF lN
    dsimp only at hc
    have hx := iterS_in hr hp hp2 i
    rw [← hc] at hx
    clear lF' lN'
    k_steps
    · refine TEnd.intro (_, _) (by assumption) (by assumption) (by intro q hq; rw [List.mem_singleton.mp hq]; k_mem) (by intro p hp; k_mem) (by intro p hp q hq; rw [List.mem_singleton.mp hq]; exact .inl (ho p hp)) (by exact fa_cons (by with_unfolding_all rfl) (fa_one (by with_unfolding_all rfl))) ?_
      dsimp only
      show _ = nextS ns (iterS ns place i)
      rw [← hc, nextS, if_pos (by assumption)]
      (try rfl)
    · refine TEnd.intro (_, _) (by assumption) (by assumption) (by intro q hq; rw [List.mem_singleton.mp hq]; k_mem) (by intro p hp; k_mem) (by intro p hp q hq; rw [List.mem_singleton.mp hq]; exact .inl (ho p hp)) (by exact fa_cons (by with_unfolding_all rfl) (fa_one (by with_unfolding_all rfl))) ?_
      dsimp only
      show _ = nextS ns (iterS ns place i)
      rw [← hc, nextS, if_neg (by assumption)]
  · rintro ⟨x, t⟩ m₁ h tk hc lF lN
    dsimp only at hc
    clear lF' lN'
    k_steps
    subst hc
    exact hret _ _ _ (by assumption) (by assumption)
noncomputable def colStep (z : Int) (col : Int) (k : Nat) : Int := if ((⟨#[k]⟩ : Str) == Str.ofString " ") = true then col + 1 else (Int.fdiv col z + 1) * z
noncomputable def colS (z : Int) (l : List Nat) : Int := l.foldl (colStep z) 0
theorem colS_take {z : Int} {l : List Nat} {i k : Nat} (h : l[i]? = some k) : colS z (l.take (i + 1)) = colStep z (colS z (l.take i)) k := by
  rw [List.take_add_one, h]; simp [colS]
set_option maxHeartbeats 4000000 in
theorem col_c (w : World) (loose : List Str) (mean : ExcName → Option Value) (mg mb : Str → Option Value) (news : List (Addr × Obj)) (x : Str) (tx : Tok) (z : Int) (tz : Tok)
   (hl : x.length ≤ 1048576) (hf : 0 ≤ Txt.find x (Str.ofString "x")) (hz1 : 1 ≤ z) (hz4 : z ≤ 4) :
   C w loose mean mg mb 201 [.str x tx, .int z tz] news 1 (fun h₀ L m Q => ∀ h' tk' t, Fr h₀ L h' m → News h₀ L h' news → Q (.int (colS z (Txt.slice x none (some (Txt.find x (Str.ofString "x")))).cps.toList) t) h' tk') := by
  unfold C
  intro dp un gd cn cs a ccd cl outer A₀ base h₀ L m s Q E hB hF hK hN hT hk hd hu hret
  refine wpAny_call ?_
  k_dflt cell_enter
  k_steps
  · exfalso; omega
  refine Hold.mk ?_
  (rename Fr _ _ _ _ => lF'); (rename News _ _ _ _ => lN')
  refine' x_str (σ := Int × Tok) (fun _ => news) (fun c => [("size", .int z tz), ("column", .int c.1 c.2)]) (fun i c => c.1 = colS z ((Txt.slice x none (some (Txt.find x (Str.ofString "x")))).cps.toList.take i)) (0, _) (by rfl) rfl rfl lF' (news_sub lN' (by intro p hp; k_mem)) ?hk rfl ?turn ?done
  case hk => exact fa_cons (by with_unfolding_all rfl) (fa_one (by with_unfolding_all rfl))
  case turn =>
    rintro ⟨y, t⟩ i k tk0 m₁ h tk its hi hc hcl ho lF lN
    dsimp only at hc
    have hi' : (Txt.slice x none (some (Txt.find x (Str.ofString "x")))).cps.toList[i]? = some k := by simpa using hi
    have hs := colS_take (z := z) hi'
    rw [← hc] at hs
    clear lF' lN' hi hi'
    (try ((show wpAny _ _ _ _ _ _); k_fold))
    k_steps
    all_goals
      refine TEnd.intro (_, _) (by assumption) (by assumption) (by intro q hq; exact List.mem_append_left _ hq) (by intro p hp; exact List.mem_append_right _ hp) (by intro p hp q hq; exact .inl (ho p hp q hq)) (by exact fa_cons (by with_unfolding_all rfl) (fa_one (by with_unfolding_all rfl))) ?_
      dsimp only
      rw [hs, colStep]
    · rw [if_pos (by assumption)]
    · rw [if_neg (by simp only [*]; simp)]
  case done =>
    rintro ⟨x, t⟩ m₁ h tk hc lF lN
    dsimp only at hc
    clear lF' lN'
    k_steps
    subst hc
    rw [← Array.length_toList, List.take_length]
    exact hret _ _ _ (by assumption) (by assumption)
noncomputable def sumS (ds : List (Int × Int)) : Int := ds.foldl (fun a p => a + p.2) 0
theorem sumS_take {ds : List (Int × Int)} {i : Nat} {k x : Int} (h : ds[i]? = some (k, x)) : sumS (ds.take (i + 1)) = sumS (ds.take i) + x := by
  rw [List.take_add_one, h]; simp [sumS]
set_option maxHeartbeats 4000000 in
theorem count_c (w : World) (loose : List Str) (mean : ExcName → Option Value) (mg mb : Str → Option Value) (news : List (Addr × Obj)) (d : Addr) (od : Obj) (kvs : List (Int × Value)) (ds : List (Int × Int))
   (hm : (d, od) ∈ news) (hd : IDict w od kvs) (hv : DAre kvs ds) (hlo : (d == sysModules) = false) :
   C w loose mean mg mb 114 [.ref d] news 1 (fun h₀ L m Q => ∀ h' tk' t, Fr h₀ L h' m → News h₀ L h' news → Q (.int (sumS ds) t) h' tk') := by
  unfold C
  intro dp un gd cn cs a ccd cl outer A₀ base h₀ L m s Q E hB hF hK hN hT hk hd' hu hret
  refine wpAny_call ?_
  k_dflt cell_enter
  k_steps
  refine Hold.mk ?_
  (rename Fr _ _ _ _ => lF'); (rename News _ _ _ _ => lN')
  refine' x_values (knd := PySem.intKind _ _) (kvs := kvs) (d := d) (od := od) (σ := Int × Tok) (fun _ => news) (fun c => [("nc", .int c.1 c.2)]) (fun i c => c.1 = sumS (ds.take i)) (0, _) (by rfl) ?hv (fun _ => hm) hd rfl rfl lF' (news_sub lN' (by intro p hp; k_mem)) ?hk rfl ?turn ?done
  case hv => exact ⟨_, (lN' _ (List.mem_cons_self ..)).1, rfl, rfl⟩
  case hk => exact fa_one (by with_unfolding_all rfl)
  case turn =>
    rintro ⟨y, t⟩ i k v m₁ h tk I oI hi hc hcl ho lF lN
    dsimp only at hc
    obtain ⟨x, tx, h1, rfl⟩ := hv.get hi
    have hs := sumS_take h1
    rw [← hc] at hs
    clear lF' lN' hi h1
    (try ((show wpAny _ _ _ _ _ _); k_fold))
    k_steps
    refine TEnd.intro (_, _) (by assumption) (by assumption) (by intro q hq; rw [List.mem_singleton.mp hq]; exact List.mem_cons_self ..) (by intro p hp; exact List.mem_cons_of_mem _ hp) (by intro p hp q hq; rw [List.mem_singleton.mp hq]; exact .inl (ho p hp)) (by exact fa_one (by with_unfolding_all rfl)) ?_
    exact hs.symm
  case done =>
    rintro ⟨x, t⟩ m₁ h tk hc lF lN
    dsimp only at hc
    clear lF' lN'
    k_steps
    subst hc
    rw [hv.length, List.take_length]
    exact hret _ _ _ (by assumption) (by assumption)
set_option maxHeartbeats 4000000 in
theorem add_c (w : World) (loose : List Str) (mean : ExcName → Option Value) (mg mb : Str → Option Value) (news : List (Addr × Obj)) (d d2 : Addr) (od od2 : Obj) (kvs kvs2 : List (Int × Value)) (ds es : List (Int × Int))
   (hm : (d, od) ∈ news) (hd : IDict w od kvs) (hv : DAre kvs ds) (hlo : (d == sysModules) = false) (hm2 : (d2, od2) ∈ news) (hd2 : IDict w od2 kvs2) (hv2 : DAre kvs2 es) (hlo2 : (d2 == sysModules) = false) (hl1 : ds.length ≤ 100) (hl2 : es.length ≤ 100) :
   C w loose mean mg mb 107 [.ref d, .ref d2] news 1 (fun h₀ L m Q => ∀ h' tk' nd od' kvs', Fr h₀ L h' m → News h₀ L h' ((nd, od') :: news) → (∀ p ∈ news, p.1 < nd) → IDict w od' kvs' → DAre kvs' (addS ds es) → (nd == sysModules) = false → Q (.ref nd) h' tk') := by
  unfold C
  intro dp un gd cn cs a ccd cl outer A₀ base h₀ L m s Q E hB hF hK hN hT hk hd' hu hret
  refine wpAny_call ?_
  k_dflt cell_enter
  k_steps
  refine Hold.mk ?_
  rename_i nd h2 on l1 hlo' hs' fs' hi' fi' h1 F1 N1 VD hh F2 N2 l2
  have hnd : ∀ p ∈ news, p.1 ≠ nd := fun p hp e => absurd (l1 p hp) (e ▸ Nat.lt_irrefl _)
  refine' x_items (knd := PySem.intKind _ _) (kvs := kvs) (d := d) (od := od) (σ := Obj × List (Int × Value)) (fun c => (nd, c.1) :: news) (fun c => [("source", .ref d2), ("new_callers", .ref nd)]) (fun i c => IDict w c.1 c.2 ∧ DAre c.2 (copyS (ds.take i))) (on, []) (by rfl) ?hv (fun _ => List.mem_cons_of_mem _ hm) hd F2 (news_sub N2 (by intro p hp; exact List.mem_cons_of_mem _ hp)) ?hk ⟨hi', .nil⟩ ?turn ?done
  case hv => exact ⟨_, (N2 _ (List.mem_cons_self ..)).1, rfl, rfl⟩
  case hk => exact fa_cons (by with_unfolding_all rfl) (fa_one (by with_unfolding_all rfl))
  case turn =>
    rintro ⟨oc, kc⟩ i key k v T m₁ h tk I oI hi hkey hT ⟨hc1, hc2⟩ hcl ho lF lN
    dsimp only at hc1 hc2 lN ho
    obtain ⟨x, tx, h1', rfl⟩ := hv.get hi
    obtain ⟨tk', rfl⟩ := Value.isInt_shape hkey
    have hIn : I ≠ nd := (ho _ (List.mem_cons_self ..)).symm
    have hs := copyS_take h1'
    have hsz : kc.length ≤ sizeLine := by
      have h3 := copyS_length (ds.take i)
      rw [hc2.length, sizeLine_eq, ] ; simp only [List.length_take] at h3; omega
    clear F1 N1 F2 N2 hi h1' l2 hkey hs' fs' fi'
    (try ((show wpAny _ _ _ _ _ _); k_fold))
    k_steps
    rename_i hfin
    refine TEnd.intro (_, _) (by assumption) (by assumption) (by intro q hq; rw [List.mem_singleton.mp hq]; exact List.mem_cons_self ..) (by intro p hp; exact List.mem_cons_of_mem _ hp) ?_ (by exact fa_cons (by with_unfolding_all rfl) (fa_one (by with_unfolding_all rfl))) ⟨hfin, ?_⟩
    · intro p hp q hq
      rw [List.mem_singleton.mp hq]
      rcases List.mem_cons.mp hp with rfl | hp
      · exact .inl hIn.symm
      · exact .inl (ho p (List.mem_cons_of_mem _ hp))
    · dsimp only; rw [hs]; exact hc2.stored _ _ _
  case done =>
    rintro ⟨oc, kc⟩ m₁ h tk ⟨hc1, hc2⟩ lF lN
    dsimp only at hc1 hc2 lN
    rw [hv.length, List.take_length] at hc2
    clear F1 N1 F2 N2 l2 hs' fs' fi' hi'
    k_steps
    refine Hold.mk ?_
    rename_i VD hh F2 N2 l2
    refine' x_items (knd := PySem.intKind _ _) (kvs := kvs2) (d := d2) (od := od2) (σ := Obj × List (Int × Value)) (fun c => (nd, c.1) :: news) (fun c => [("new_callers", .ref nd)]) (fun i c => IDict w c.1 c.2 ∧ DAre c.2 (addS ds (es.take i))) (oc, kc) (by rfl) ?hv (fun _ => List.mem_cons_of_mem _ hm2) hd2 F2 (news_sub N2 (by intro p hp; exact List.mem_cons_of_mem _ hp)) ?hk ⟨hc1, hc2⟩ ?turn ?done
    case hv => exact ⟨_, (N2 _ (List.mem_cons_self ..)).1, rfl, rfl⟩
    case hk => exact fa_one (by with_unfolding_all rfl)
    case turn =>
      rintro ⟨oc, kc⟩ i key k v T m₁ h tk I oI hi hkey hT ⟨hc1, hc2⟩ hcl ho lF' lN'
      dsimp only at hc1 hc2 lN' ho
      obtain ⟨x, tx, h1', rfl⟩ := hv2.get hi
      obtain ⟨tk', rfl⟩ := Value.isInt_shape hkey
      have hIn : I ≠ nd := (ho _ (List.mem_cons_self ..)).symm
      have hs := addS_take (ds := ds) h1'
      have hsz : kc.length ≤ sizeLine := by
        have h3 := addS_length ds (es.take i)
        rw [hc2.length, sizeLine_eq, ] ; simp only [List.length_take] at h3; omega
      rcases hc2.valueAt k with ⟨hva, hvg⟩ | ⟨y, ty, hva, hvg⟩
      · have hin : (valueAt kc k).isSome = false := by rw [hva]; rfl
        clear F2 N2 hi h1' l2 hkey lF lN
        (try ((show wpAny _ _ _ _ _ _); k_fold))
        k_steps
        rename_i hfin
        refine TEnd.intro (_, _) (by assumption) (by assumption) (by intro q hq; rw [List.mem_singleton.mp hq]; exact List.mem_cons_self ..) (by intro p hp; exact List.mem_cons_of_mem _ hp) ?_ (by exact fa_one (by with_unfolding_all rfl)) ⟨hfin, ?_⟩
        · intro p hp q hq
          rw [List.mem_singleton.mp hq]
          rcases List.mem_cons.mp hp with rfl | hp
          · exact .inl hIn.symm
          · exact .inl (ho p (List.mem_cons_of_mem _ hp))
        · dsimp only; rw [hs]; unfold addStep; rw [hvg]; exact hc2.stored _ _ _
      · have hin : (valueAt kc k).isSome = true := by rw [hva]; rfl
        clear F2 N2 hi h1' l2 hkey lF lN
        k_steps
        rename_i hfin
        refine TEnd.intro (_, _) (by assumption) (by assumption) (by intro q hq; rw [List.mem_singleton.mp hq]; exact List.mem_cons_self ..) (by intro p hp; exact List.mem_cons_of_mem _ hp) ?_ (by exact fa_one (by with_unfolding_all rfl)) ⟨hfin, ?_⟩
        · intro p hp q hq
          rw [List.mem_singleton.mp hq]
          rcases List.mem_cons.mp hp with rfl | hp
          · exact .inl hIn.symm
          · exact .inl (ho p (List.mem_cons_of_mem _ hp))
        · dsimp only; rw [hs]; unfold addStep; rw [hvg]; exact hc2.stored _ _ _
    case done =>
      rintro ⟨oc, kc⟩ m₁ h tk ⟨hc1, hc2⟩ lF' lN'
      dsimp only at hc1 hc2 lN'
      rw [hv2.length, List.take_length] at hc2
      clear F2 N2 l2 lF lN
      k_steps
      exact hret _ _ _ _ _ (by assumption) (by assumption) l1 hc1 hc2 hlo'
set_option maxHeartbeats 4000000 in
theorem lead_c (w : World) (loose : List Str) (mean : ExcName → Option Value) (mg mb : Str → Option Value) (news : List (Addr × Obj)) (x : Int) (tx : Tok) :
   C w loose mean mg mb 194 [.int x tx] news 1 (fun h₀ L m Q => ∀ h' tk' t, Fr h₀ L h' m → News h₀ L h' news → Q (.str (leadOf x) t) h' tk') := by
  unfold C
  intro dp un gd cn cs a ccd cl outer A₀ base h₀ L m s Q E hB hF hK hN hT hk hd hu hret
  have e1 : (Str.ofString "\t").length = 1 := by decide +kernel
  have e2 : (Str.ofString " ").length = 1 := by decide +kernel
  have e3 : (Str.ofString "x \t").length = 3 := by decide +kernel
  have b1 := fm_hi x (n := 4) (by decide)
  have b2 := fm_hi (x.fdiv 4) (n := 5) (by decide)
  have b3 := fm_hi (x.fdiv 20) (n := 2) (by decide)
  have f1 := mul_len (Str.ofString " ") (n := x.fmod 4) (k := 4) (by omega) (by decide)
  have f2 := mul_len (Str.ofString " ") (n := (x.fdiv 4).fmod 5) (k := 4) (by omega) (by decide)
  have f3 := mul_len (Str.ofString " ") (n := (x.fdiv 20).fmod 2) (k := 4) (by omega) (by decide)
  refine wpAny_call ?_
  k_dflt cell_enter
  k_steps
  · refine Eq.mp (congrArg (fun y => Q (Value.str y _) _) ?_) (hret _ _ _ (by assumption) (by assumption))
    unfold leadOf leadS; rw [if_pos (by assumption)]
  · refine Eq.mp (congrArg (fun y => Q (Value.str y _) _) ?_) (hret _ _ _ (by assumption) (by assumption))
    unfold leadOf leadS; rw [if_neg (by assumption)]
theorem ordS_in {i : Int} (h0 : 0 ≤ i) (h6 : i < 6) : (ordS i).length = 3 ∧ (0 ≤ (ordS i).getD 0 0 ∧ (ordS i).getD 0 0 < 3) ∧ (0 ≤ (ordS i).getD 1 0 ∧ (ordS i).getD 1 0 < 3) ∧ (0 ≤ (ordS i).getD 2 0 ∧ (ordS i).getD 2 0 < 3) := by
  have h : i = 0 ∨ i = 1 ∨ i = 2 ∨ i = 3 ∨ i = 4 ∨ i = 5 := by omega
  rcases h with rfl | rfl | rfl | rfl | rfl | rfl <;> decide
theorem pick6 {h₀ h : Heap} {L l : Addr} {news : List (Addr × Obj)} {r0 r1 r2 r3 r4 r5 : Addr} {v0 v1 v2 v3 v4 v5 : List Value} {i : Int}
    (N : News h₀ L h ((l, W.listOf #[Value.ref r0, .ref r1, .ref r2, .ref r3, .ref r4, .ref r5] 0) :: (r5, W.listOf v5.toArray 0) :: (r4, W.listOf v4.toArray 0) :: (r3, W.listOf v3.toArray 0) :: (r2, W.listOf v2.toArray 0) :: (r1, W.listOf v1.toArray 0) :: (r0, W.listOf v0.toArray 0) :: news))
    (h0 : 0 ≤ i) (h6 : i < 6) (i0 : IntsAre v0 [0, 1, 2]) (i1 : IntsAre v1 [1, 2, 0]) (i2 : IntsAre v2 [2, 0, 1]) (i3 : IntsAre v3 [2, 1, 0]) (i4 : IntsAre v4 [0, 2, 1]) (i5 : IntsAre v5 [1, 0, 2]) :
    ∃ r vs, [Value.ref r0, .ref r1, .ref r2, .ref r3, .ref r4, .ref r5][i.toNat]? = some (.ref r) ∧ News h₀ L h ((r, W.listOf vs.toArray 0) :: news) ∧ IntsAre vs (ordS i) := by
  have key : ∀ (r : Addr) (vs : List Value), (r, W.listOf vs.toArray 0) ∈ ((l, W.listOf #[Value.ref r0, .ref r1, .ref r2, .ref r3, .ref r4, .ref r5] 0) :: (r5, W.listOf v5.toArray 0) :: (r4, W.listOf v4.toArray 0) :: (r3, W.listOf v3.toArray 0) :: (r2, W.listOf v2.toArray 0) :: (r1, W.listOf v1.toArray 0) :: (r0, W.listOf v0.toArray 0) :: news) → News h₀ L h ((r, W.listOf vs.toArray 0) :: news) := by
    intro r vs hm p hp
    rcases List.mem_cons.mp hp with rfl | hp
    · exact N _ hm
    · exact N _ (by simp [hp])
  have h : i = 0 ∨ i = 1 ∨ i = 2 ∨ i = 3 ∨ i = 4 ∨ i = 5 := by omega
  rcases h with rfl | rfl | rfl | rfl | rfl | rfl
  · exact ⟨r0, v0, rfl, key _ _ (by simp), i0⟩
  · exact ⟨r1, v1, rfl, key _ _ (by simp), i1⟩
  · exact ⟨r2, v2, rfl, key _ _ (by simp), i2⟩
  · exact ⟨r3, v3, rfl, key _ _ (by simp), i3⟩
  · exact ⟨r4, v4, rfl, key _ _ (by simp), i4⟩
  · exact ⟨r5, v5, rfl, key _ _ (by simp), i5⟩
set_option maxHeartbeats 4000000 in
theorem posts_c (w : World) (loose : List Str) (mean : ExcName → Option Value) (mg mb : Str → Option Value) (news : List (Addr × Obj)) (x : Int) (tx : Tok) :
   C w loose mean mg mb 208 [.int x tx] news 1 (fun h₀ L m Q => ∀ h' tk' l vs n, Fr h₀ L h' m → News h₀ L h' ((l, W.listOf vs.toArray n) :: news) → (∀ p ∈ news, p.1 < l) → IntsAre vs (postsS x) → Q (.ref l) h' tk') := by
  unfold C
  intro dp un gd cn cs a ccd cl outer A₀ base h₀ L m s Q E hB hF hK hN hT hk hd hu hret
  have b1 := fm_hi x (n := 6) (by decide)
  have b2 := fm_lo x (n := 6) (by decide)
  have b3 := fm_hi (x.fdiv 6) (n := 2) (by decide)
  have b4 := fm_lo (x.fdiv 6) (n := 2) (by decide)
  have b5 := fm_hi (x.fdiv 12) (n := 3) (by decide)
  have b6 := fm_lo (x.fdiv 12) (n := 3) (by decide)
  obtain ⟨ho, ho0, ho1, ho2⟩ := ordS_in b2 b1
  replace ho0 : 0 ≤ (ordS (x.fmod 6)).getD (Int.toNat 0) 0 ∧ (ordS (x.fmod 6)).getD (Int.toNat 0) 0 < 3 := ho0
  replace ho1 : 0 ≤ (ordS (x.fmod 6)).getD (Int.toNat 1) 0 ∧ (ordS (x.fmod 6)).getD (Int.toNat 1) 0 < 3 := ho1
  replace ho2 : 0 ≤ (ordS (x.fmod 6)).getD (Int.toNat 2) 0 ∧ (ordS (x.fmod 6)).getD (Int.toNat 2) 0 < 3 := ho2
  refine wpAny_call ?_
  k_dflt cell_enter
  k_steps
  refine Hold.mk ?_
  rename_i l0 h0 F2 N2 q0
  obtain ⟨r, vs, hx, N3, hi⟩ := pick6 N2 b2 b1 (by l_intsW) (by l_intsW) (by l_intsW) (by l_intsW) (by l_intsW) (by l_intsW)
  have hls := PySem.IsL.isList (n := 0) (N2 _ (List.mem_cons_self ..)).1
  refine item_litK hls b2 (by omega) hx ?_ (by with_unfolding_all rfl)
  clear N2 q0
  k_steps
  rename_i hi' hl' hs' kF kN Tc kX
  exact hret _ _ _ _ _ kF (news_pick kN (by k_mem) (by intro p hp; k_mem)) (lts1 (by with_reducible assumption)) hi'
set_option maxHeartbeats 4000000 in
theorem iadd_c (w : World) (loose : List Str) (mean : ExcName → Option Value) (mg mb : Str → Option Value) (news : List (Addr × Obj)) (x y : Int) (tx ty : Tok) :
   C w loose mean mg mb 93 [.int x tx, .int y ty] news 1 (fun h₀ L m Q => ∀ h' tk' t, Fr h₀ L h' m → News h₀ L h' news → Q (.int (x + y) t) h' tk') := by
  unfold C
  intro dp un gd cn cs a ccd cl outer A₀ base h₀ L m s Q E hB hF hK hN hT hk hd hu hret
  refine wpAny_call ?_
  k_dflt cell_enter
  k_steps
  exact hret _ _ _ (by assumption) (by assumption)
set_option maxHeartbeats 4000000 in
theorem imod_c (w : World) (loose : List Str) (mean : ExcName → Option Value) (mg mb : Str → Option Value) (news : List (Addr × Obj)) (x y : Int) (tx ty : Tok) (hy : 0 < y) :
   C w loose mean mg mb 100 [.int x tx, .int y ty] news 1 (fun h₀ L m Q => ∀ h' tk' t, Fr h₀ L h' m → News h₀ L h' news → Q (.int (Int.fmod x y) t) h' tk') := by
  unfold C
  intro dp un gd cn cs a ccd cl outer A₀ base h₀ L m s Q E hB hF hK hN hT hk hd hu hret
  refine wpAny_call ?_
  k_dflt cell_enter
  k_steps
  exact hret _ _ _ (by assumption) (by assumption)
set_option hygiene false in
local macro_rules | `(tactic| walk_at "execs cons") => `(tactic| (k_here; (first | (with_reducible show wpAny _ _ (execs _ _) _ _ (Shared.mk _ _ _ (_ + _) _)) | (with_reducible show wpAny _ _ (execs _ _) _ _ (Shared.mk _ _ _ (Shared.toks _) _))); walk_at "y4"))
set_option hygiene false in
local macro_rules | `(tactic| walk_at "execs nil") => `(tactic| walk_at "execs cons")
set_option hygiene false in
local macro_rules | `(tactic| walk_at "TPostT") => `(tactic| dsimp only [TPostT])
local macro_rules | `(tactic| walk_at "TokThen") => `(tactic| (k_dflt (intro htk); (try dsimp only at htk)))
local macro_rules | `(tactic| walk_at "call builtin:len") => `(tactic| (k_here; (with_reducible show wpAny _ _ (call (Value.builtin "len") [Value.ref _]) _ _ _); k_dflt (refine lenL (by assumption) (by k_mem) (by omega) ?_); intro t tk))
local macro_rules | `(tactic| walk_at "binaryOp Add ref ref") => `(tactic| (k_here; (with_reducible show wpAny _ _ (binaryOp _ (Value.ref _) (Value.ref _)) _ _ _); k_dflt (refine addL (by assumption) (by assumption) (by k_mem) (by k_mem) (by (try simp only [List.length_append, List.length_cons, List.length_nil]); omega) ?_); intro h' r F' N' lo'))
local macro_rules | `(tactic| walk_at "call builtin:hasattr") => `(tactic| (k_here; k_dflt (refine hasattr_call (by assumption) (by assumption) (by k_mem) ?_); intro h' F' N'))
set_option hygiene false in
local macro_rules | `(tactic| walk_at "compareOp Is int int") => `(tactic| walk_at "y0")
set_option hygiene false in
local macro_rules | `(tactic| walk_at "compareOp Is str str") => `(tactic| walk_at "y0")
local macro_rules | `(tactic| walk_at "call type:range") => `(tactic| (k_here; (rename Fr _ _ _ _ => F'); (rename News _ _ _ _ => N'); k_dflt (refine wpAny_tok ?_); (with_unfolding_all refine range1_rows F' N' ?_); k_dflt (intro hh tkr t1 u1 v1 hrg F2 N2 hke htk); (try dsimp only at htk)))
local macro_rules | `(tactic| walk_at "binaryOp Add str str") => `(tactic| k_dflt (k_here; (first | (with_unfolding_all refine add_strT (by walk_at "y8") (by walk_at "y8") (by walk_at "y7") ?_; intro t' tk' htk1 htk2; (try dsimp only at htk1)) | (with_unfolding_all refine add_strM (by walk_at "y7") ?_; intro t' tk' htk; (try dsimp only at htk))); (try dsimp only)))
set_option maxHeartbeats 4000000 in
theorem setitem_c (w : World) (loose : List Str) (mean : ExcName → Option Value) (mg mb : Str → Option Value) (news : List (Addr × Obj)) (l : Addr) (n : Nat) (vs : List Value) (ns : List Int) (k x : Int) (tk tx : Tok)
   (hv : IntsAre vs ns) (h0 : 0 ≤ k) (h1 : k < ns.length) (h2 : ns.length < 100) (hne : ∀ p ∈ news, p.1 ≠ l) :
   C w loose mean mg mb 78 [.ref l, .int k tk, .int x tx] ((l, W.listOf vs.toArray n) :: news) 1 (fun h₀ L m Q => ∀ h' tk' n', Fr h₀ L h' m → News h₀ L h' ((l, W.listOf (vs.set k.toNat (.int x tx)).toArray n') :: news) → Q .none h' tk') := by
  unfold C
  intro dp un gd cn cs a ccd cl outer A₀ base h₀ L m s Q E hB hF hK hN hT hk hd hu hret
  refine wpAny_call ?_
  k_dflt cell_enter
  k_steps
  exact hret _ _ _ (by assumption) (by assumption)
set_option maxHeartbeats 4000000 in
theorem lhint_c (w : World) (loose : List Str) (mean : ExcName → Option Value) (mg mb : Str → Option Value) (news : List (Addr × Obj)) (l : Addr) (n : Nat) (vs : List Value)
   (hm : (l, W.listOf vs.toArray n) ∈ news) (h2 : vs.length < 100) :
   C w loose mean mg mb 86 [.ref l] news 1 (fun h₀ L m Q => ∀ h' tk' t, Fr h₀ L h' m → News h₀ L h' news → Q (.int vs.length t) h' tk') := by
  unfold C
  intro dp un gd cn cs a ccd cl outer A₀ base h₀ L m s Q E hB hF hK hN hT hk hd hu hret
  refine wpAny_call ?_
  k_dflt cell_enter
  k_steps
  exact hret _ _ _ (by assumption) (by assumption)
set_option maxHeartbeats 4000000 in
theorem concat_c (w : World) (loose : List Str) (mean : ExcName → Option Value) (mg mb : Str → Option Value) (news : List (Addr × Obj)) (l l' : Addr) (n n' : Nat) (vs vs' : List Value)
   (hm : (l, W.listOf vs.toArray n) ∈ news) (hm' : (l', W.listOf vs'.toArray n') ∈ news) (h2 : vs.length < 100) (h3 : vs'.length < 100) :
   C w loose mean mg mb 64 [.ref l, .ref l'] news 1 (fun h₀ L m Q => ∀ h' tk' r nn, Fr h₀ L h' m → News h₀ L h' ((r, W.listOf (vs ++ vs').toArray nn) :: news) → (∀ p ∈ news, p.1 < r) → Q (.ref r) h' tk') := by
  unfold C
  intro dp un gd cn cs a ccd cl outer A₀ base h₀ L m s Q E hB hF hK hN hT hk hd hu hret
  refine wpAny_call ?_
  k_dflt cell_enter
  k_steps
  exact hret _ _ _ _ (by assumption) (by assumption) (by assumption)
theorem take_not {α : Type} [DecidableEq α] {ns : List α} {x : α} (hx : x ∈ ns) : ¬ (x ∉ ns.take ns.length) := by rw [List.take_length]; simpa using hx
theorem take_get {α : Type} [DecidableEq α] {ns : List α} {x y : α} {i : Nat} (h : ns[i]? = some y) (hn : x ∉ ns.take i) (e : y ≠ x) : x ∉ ns.take (i + 1) := by
  rw [List.take_add_one, h]
  intro hm
  rcases List.mem_append.mp hm with hm | hm
  · exact hn hm
  · simp at hm; exact e hm.symm
theorem idx_of_take {α : Type} [DecidableEq α] : ∀ {ns : List α} {x : α} {i : Nat}, ns[i]? = some x → x ∉ ns.take i → ns.idxOf x = i
  | [], _, _, h, _ => by simp at h
  | a :: ns, x, 0, h, _ => by simp at h; simp [h]
  | a :: ns, x, i + 1, h, hn => by
    simp at h hn
    have h2 : ns.idxOf x = i := idx_of_take h (by simpa using hn.2)
    have ha : (a == x) = false := by simpa using fun e : a = x => hn.1 e.symm
    rw [List.idxOf_cons, ha, h2]; rfl
theorem bookedK2 (w : World) : nsIn (Y33.hd.heap_1 w.params) cStatics sharingNotToldKey = some none := by
  first | rfl | k_in | decide
theorem bookedK (w : World) : nsOkIn (Y33.hd.heap_1 w.params) cStatics = true := by
  first | with_unfolding_all rfl | kernel_rfl | (unfold nsOkIn; rfl)
theorem bookedH {w : World} {h₀ h : Heap} {L : Addr} {m : Str → Option Value} (X : (Y33.hd.heap_1 w.params).In h₀) (F : Fr h₀ L h m) : NoneBooked h := NoneBooked.keeps (booked_of X (bookedK w) (bookedK2 w)) F.keep
set_option maxHeartbeats 4000000 in
theorem idxI_c (w : World) (loose : List Str) (mean : ExcName → Option Value) (mg mb : Str → Option Value) (news : List (Addr × Obj)) (l : Addr) (n : Nat) (vs : List Value) (ns : List Int) (x : Int) (u : Tok) (τ : Nat → Int)
   (hm : (l, W.listOf vs.toArray n) ∈ news) (hv : IntsT τ (fun t => t ≠ 0) vs ns) (hu : u ≠ 0) (hux : τ u = x) (hsm : ∀ y ∈ ns, smallInt y = true) (hx : x ∈ ns) :
   CT w loose mean mg mb 71 [.ref l, .int x u] news 1 (fun h₀ L m tk Q => ∀ h' tk' t, tk ≤ t → t < tk' → Fr h₀ L h' m → News h₀ L h' news → Q (.int (ns.idxOf x : Nat) t) h' tk') := by
  unfold CT
  intro dp un gd cn cs a ccd cl outer A₀ base h₀ L m s Q E hB hF hK hN hT hk hd hu' hret
  refine wpAny_call ?_
  k_dflt cell_enter
  k_steps
  refine Hold.mk ?_
  (rename Fr _ _ _ _ => lF'); (rename News _ _ _ _ => lN')
  refine' x_enumT (l := l) (vs := vs) (σ := Unit) (fun _ => news) (fun c => [("a", .ref l), ("b", .int x u)]) (fun i c tk => s.toks ≤ tk ∧ x ∉ ns.take i) () (by rfl) ?hls (.inl ⟨_, fun _ => hm⟩) ?hne lF' (news_sub lN' (by intro p hp; k_mem)) ?hk ?hP ?turn ?done
  case hls => exact (PySem.IsL.isList (n := n) (lN' _ (by k_mem)).1)
  case hne => exact fun e => (lN' _ (by k_mem : (l, W.listOf vs.toArray n) ∈ _)).2.1 e.symm
  case hk => exact fa_cons (by with_unfolding_all rfl) (fa_one (by with_unfolding_all rfl))
  case hP => exact ⟨by (try dsimp only); omega, by simp⟩
  case turn =>
    rintro ⟨⟩ i v t T m₁ h lo tk I oI J oJ hi hT hc h1 h2 hcI hcJ ho lF lN
    obtain ⟨y, ty, hy, rfl, hty, hyx⟩ := hv.get hi
    try dsimp only at hc; try dsimp only at lF; try dsimp only at lN; try dsimp only at ho
    clear lF' lN' hi
    (try ((show wpAny _ _ _ _ _ _); k_fold))
    k_steps
    refine Hold.mk ?_
    refine is_ints hty hu (hsm _ (List.mem_of_getElem? hy)) (fun e1 e2 => e1 (by rw [← hyx, ← hux, e2])) ?_
    by_cases hyx' : y = x
    · subst hyx'
      rw [decide_eq_true rfl]
      k_steps
      rw [← idx_of_take hy hc.2] at *
      exact hret _ _ _ (by omega) (by omega) (by assumption) (news_sub (by assumption) (by intro p hp; (repeat (first | exact hp | apply List.mem_cons_of_mem))))
    · rw [decide_eq_false hyx']
      k_steps
      · exact absurd (by assumption) hyx'
      refine TEndT.intro () (by assumption) (by assumption) ?_ ?_ ?_ ?_ ?_
      · intro q hq; simp only [List.mem_cons, List.not_mem_nil, or_false] at hq ⊢; rcases hq with rfl | rfl <;> simp
      · intro p hp; exact List.mem_cons_of_mem _ (List.mem_cons_of_mem _ hp)
      · intro p hp q hq
        simp only [List.mem_cons, List.not_mem_nil, or_false] at hq
        rcases hq with rfl | rfl
        · exact .inl (ho p hp).1
        · exact .inl (ho p hp).2
      · exact fa_cons (by with_unfolding_all rfl) (fa_one (by with_unfolding_all rfl))
      · exact ⟨by omega, take_get hy hc.2 hyx'⟩
  case done =>
    rintro ⟨⟩ m₁ h lo tk hc hle lF lN
    rw [hv.length] at hc
    exact absurd hc.2 (take_not hx)
set_option maxHeartbeats 4000000 in
theorem idxS_c (w : World) (loose : List Str) (mean : ExcName → Option Value) (mg mb : Str → Option Value) (news : List (Addr × Obj)) (l : Addr) (n : Nat) (vs : List Value) (ns : List Str) (x : Str) (u : Tok) (τ : Nat → Str)
   (hm : (l, W.listOf vs.toArray n) ∈ news) (hv : StrsT τ (fun t => t ≠ 0) vs ns) (hu : u ≠ 0) (hux : τ u = x) (hx : x ∈ ns) :
   CT w loose mean mg mb 71 [.ref l, .str x u] news 1 (fun h₀ L m tk Q => ∀ h' tk' t, tk ≤ t → t < tk' → Fr h₀ L h' m → News h₀ L h' news → Q (.int (ns.idxOf x : Nat) t) h' tk') := by
  unfold CT
  intro dp un gd cn cs a ccd cl outer A₀ base h₀ L m s Q E hB hF hK hN hT hk hd hu' hret
  refine wpAny_call ?_
  k_dflt cell_enter
  k_steps
  refine Hold.mk ?_
  (rename Fr _ _ _ _ => lF'); (rename News _ _ _ _ => lN')
  refine' x_enumT (l := l) (vs := vs) (σ := Unit) (fun _ => news) (fun c => [("a", .ref l), ("b", .str x u)]) (fun i c tk => s.toks ≤ tk ∧ x ∉ ns.take i) () (by rfl) ?hls (.inl ⟨_, fun _ => hm⟩) ?hne lF' (news_sub lN' (by intro p hp; k_mem)) ?hk ?hP ?turn ?done
  case hls => exact (PySem.IsL.isList (n := n) (lN' _ (by k_mem)).1)
  case hne => exact fun e => (lN' _ (by k_mem : (l, W.listOf vs.toArray n) ∈ _)).2.1 e.symm
  case hk => exact fa_cons (by with_unfolding_all rfl) (fa_one (by with_unfolding_all rfl))
  case hP => exact ⟨by (try dsimp only); omega, by simp⟩
  case turn =>
    rintro ⟨⟩ i v t T m₁ h lo tk I oI J oJ hi hT hc h1 h2 hcI hcJ ho lF lN
    obtain ⟨y, ty, hy, rfl, hty, hyx⟩ := hv.get hi
    try dsimp only at hc; try dsimp only at lF; try dsimp only at lN; try dsimp only at ho
    clear lF' lN' hi
    (try ((show wpAny _ _ _ _ _ _); k_fold))
    k_steps
    refine Hold.mk ?_
    refine is_strs hty hu (fun e1 e2 => e1 (by rw [← hyx, ← hux, e2])) (bookedH (w := w) (by assumption) (by assumption)) ?_
    by_cases hyx' : y = x
    · subst hyx'
      intro b hb
      have hfin : ∀ (h' : Heap) (tk' : Nat), t < tk' → Fr h₀ L h' m → News h₀ L h' news → Q (.int i t) { s with heap := h', toks := tk' } := by
        intro h' tk' q1 q2 q3
        have := hret h' tk' t (by omega) q1 q2 q3
        rwa [idx_of_take hy hc.2] at this
      cases b with
      | true =>
        k_steps
        exact hfin _ _ (by omega) (by assumption) (news_sub (by assumption) (by intro p hp; (repeat (first | exact hp | apply List.mem_cons_of_mem))))
      | false =>
        k_steps
        rotate_left
        · exact absurd (by assumption : (y == y) = false) (by simp)
        exact hfin _ _ (by omega) (by assumption) (news_sub (by assumption) (by intro p hp; (repeat (first | exact hp | apply List.mem_cons_of_mem))))
    · intro b hb
      cases b with
      | true => exact absurd (hb rfl) hyx'
      | false =>
      k_steps
      · exact absurd (by simpa using (by assumption : (y == x) = true)) hyx'
      refine TEndT.intro () (by assumption) (by assumption) ?_ ?_ ?_ ?_ ?_
      · intro q hq; simp only [List.mem_cons, List.not_mem_nil, or_false] at hq ⊢; rcases hq with rfl | rfl <;> simp
      · intro p hp; exact List.mem_cons_of_mem _ (List.mem_cons_of_mem _ hp)
      · intro p hp q hq
        simp only [List.mem_cons, List.not_mem_nil, or_false] at hq
        rcases hq with rfl | rfl
        · exact .inl (ho p hp).1
        · exact .inl (ho p hp).2
      · exact fa_cons (by with_unfolding_all rfl) (fa_one (by with_unfolding_all rfl))
      · exact ⟨by omega, take_get hy hc.2 hyx'⟩
  case done =>
    rintro ⟨⟩ m₁ h lo tk hc hle lF lN
    rw [hv.length] at hc
    exact absurd hc.2 (take_not hx)
theorem get50 (P : Params) : (Y33.hd.heap_1 P).lookup 50 = some patObj := by kernel_rfl
theorem get49 (P : Params) : (Y33.hd.heap_1 P).lookup 49 = some codeTup := by kernel_rfl
set_option maxHeartbeats 4000000 in
theorem hdn_c (w : World) (loose : List Str) (mean : ExcName → Option Value) (mg mb : Str → Option Value) (news : List (Addr × Obj)) (x : Str) (tx : Tok) (m' : Sre.M) (b : Bool)
   (hsz : x.cps.size ≤ 1000) (hd : driveP 200 (Sre.forSearch theCode x.cps 0 0 x.cps.size false) = some m') (ho : (m'.outcome = some .failed ∧ b = true) ∨ (m'.outcome = some .matched ∧ b = false)) :
   C w loose mean mg mb 57 [.str x tx] news 1 (fun h₀ L m Q => ∀ h' tk', Fr h₀ L h' m → News h₀ L h' news → Q (.bool b) h' tk') := by
  unfold C
  intro dp un gd cn cs a ccd cl outer A₀ base h₀ L m s Q E hB hF hK hN hT hk hd' hu hret
  refine wpAny_call ?_
  k_dflt cell_enter
  (rename Frag.In _ _ => hX)
  have hP0 := hX 50 _ (get50 w.params)
  have hC0 := hX 49 _ (get49 w.params)
  k_steps
  refine Hold.mk ?_
  (rename Fr _ _ _ _ => F2); (rename News _ _ _ _ => N2)
  rcases ho with ⟨ho, rfl⟩ | ⟨ho, rfl⟩
  · refine search_none (F2.keep _ _ hP0) (F2.keep _ _ hC0) hsz hd ho ?_
    k_steps
    exact hret _ _ (by assumption) (by assumption)
  · refine search_some (F2.keep _ _ hP0) (F2.keep _ _ hC0) hsz hd ho F2 N2 ?_
    intro M T h' F3 N3
    clear F2 N2
    k_steps
    refine match_truthy (N3 _ (List.mem_cons_self ..)).1 ?_
    rw [if_pos rfl]
    k_steps
    (rename Fr _ _ _ _ => F4); (rename News _ _ _ _ => N4)
    exact hret _ _ F4 (news_sub N4 (by intro p hp; k_mem))
noncomputable def cutS (x : Str) (m' : Sre.M) : Str := Txt.slice x none (some (m'.start : Int)) ++ Txt.slice x (some (m'.handed : Int)) none
section
local macro_rules | `(tactic| walk_at "eval Subscript") => `(tactic| (k_here; (fail_if_success (with_reducible show wpAny _ _ _ (fun _ _ => TokThen _ _ _) _ _)); k_dflt (refine wpAny_tok ?_)))
local macro_rules | `(tactic| walk_at "call builtin:re.Match.span") => `(tactic| k_dflt (k_here; refine wpAny_tok ?_; (refine span_call (News.get (by assumption) (by k_mem)) (News.get (by assumption) (by k_mem)) (by k_asm) (by k_asm) ?_); intro S' h' tk' t1' t2' F' N' htk; (try dsimp only at htk)))
set_option maxHeartbeats 4000000 in
theorem unmT_c (w : World) (loose : List Str) (mean : ExcName → Option Value) (mg mb : Str → Option Value) (news : List (Addr × Obj)) (x : Str) (tx : Tok) (m' : Sre.M) (M T : Addr)
   (hl : x.length ≤ 1048576) (a1 : (Txt.slice x none (some (m'.start : Int))).length ≠ 0) (a2 : (Txt.slice x (some (m'.handed : Int)) none).length ≠ 0) (a3 : (Txt.slice x none (some (m'.start : Int)) ++ Txt.slice x (some (m'.handed : Int)) none).length ≤ sizeLine) (hM : (M, matchObj x tx T m') ∈ news) (hTt : (T, ({ cls := .type "tuple", data := .seq #[rawInt m'.start, rawInt m'.handed] 0 } : Obj)) ∈ news) :
   CT w loose mean mg mb 45 [.ref M] news 1 (fun h₀ L m tk Q => ∀ h' tk' t, tk ≤ t → t < tk' → Fr h₀ L h' m → News h₀ L h' news → Q (.str (cutS x m') t) h' tk') := by
  unfold CT
  intro dp un gd cn cs a ccd cl outer A₀ base h₀ L m s Q E hB hF hK hN hT hk hd' hu hret
  refine wpAny_call ?_
  k_dflt cell_enter
  k_steps
  exact hret _ _ _ (by omega) (by omega) (by assumption) (news_sub (by assumption) (by intro p hp; (repeat (first | exact hp | apply List.mem_cons_of_mem))))
end
noncomputable def up (x : Str) : Str := match driveP 200 (Sre.forSearch theCode x.cps 0 0 x.cps.size false) with
  | some m' => match m'.outcome with
    | some .matched => cutS x m'
    | _ => x
  | none => x
structure GoodN (x : Str) : Prop where
  size : x.cps.size ≤ 1000
  go : ∃ m', driveP 200 (Sre.forSearch theCode x.cps 0 0 x.cps.size false) = some m' ∧ ((m'.outcome = some .failed ∧ up x = x) ∨ (m'.outcome = some .matched ∧ up x = cutS x m' ∧ (Txt.slice x none (some (m'.start : Int))).length ≠ 0 ∧ (Txt.slice x (some (m'.handed : Int)) none).length ≠ 0 ∧ (cutS x m').length ≤ 1000))
noncomputable def longN (xs : List Str) : List Str := xs ++ (Str.ofString ".7.x\n" :: xs)
noncomputable def readS (xs : List Str) : List Int := xs.map fun x => (((longN xs).idxOf (up x) : Nat) : Int)
section
local macro_rules | `(tactic| walk_at "call ref") => `(tactic| walk_at "y0")
set_option maxHeartbeats 4000000 in
theorem read_c (w : World) (loose : List Str) (mean : ExcName → Option Value) (mg mb : Str → Option Value) (news : List (Addr × Obj)) (l : Addr) (n : Nat) (vs : List Value) (xs : List Str) (τ : Nat → Str) (B : Nat)
   (hm : (l, W.listOf vs.toArray n) ∈ news) (hv : StrsT τ (fun t => t ≠ 0 ∧ t < B) vs xs) (hlen : xs.length ≤ 3) (hg : ∀ x ∈ xs, GoodN x) (hin : ∀ x ∈ xs, up x ∈ longN xs) :
   CT w loose mean mg mb 222 [.ref l] news 2 (fun h₀ L m tk Q => B ≤ tk ∧ ∀ h' tk' r us k τ', Fr h₀ L h' m → News h₀ L h' ((r, W.listOf us.toArray k) :: news) → (∀ p ∈ news, p.1 < r) → IntsT τ' (fun t => B ≤ t ∧ t ≠ 0 ∧ t < tk') us (readS xs) → Q (.ref r) h' tk') := by
  unfold CT
  intro dp un gd cn cs a ccd cl outer A₀ base h₀ L m s Q E hB hF hK hN hT hk hd hu ⟨hBt, hret⟩
  have hvl : vs.length = xs.length := hv.length
  refine wpAny_call ?_
  k_dflt cell_enter
  (rename Frag.In _ _ => hX)
  have hP0 := hX 50 _ (get50 w.params)
  have hC0 := hX 49 _ (get49 w.params)
  k_steps
  refine Hold.mk ?_
  rename_i pl hq1 l1 hq2 F1 N1 tkA htkA
  (rename Fr _ _ _ _ => F2); (rename News _ _ _ _ => N2)
  refine' x_listT (l := l) (vs := vs) (k := n) (σ := List Value × Nat) (fun c => (pl, W.listOf c.1.toArray c.2) :: news) (fun c => [("names", .ref l), ("posts", .ref pl)]) (fun i c tk => B ≤ tk ∧ ∃ τ', IntsT τ' (fun t => B ≤ t ∧ t ≠ 0 ∧ t < tk) c.1 ((xs.take i).map fun x => (((longN xs).idxOf (up x) : Nat) : Int))) ([], 0) (by rfl) (fun c => List.mem_cons_of_mem _ hm) rfl rfl F2 N2 ?hk ?hP ?turn ?done
  case hk => exact fa_cons (by with_unfolding_all rfl) (fa_one (by with_unfolding_all rfl))
  case hP => exact ⟨by (try dsimp only); omega, fun _ => 0, by simpa using IntsT.nil⟩
  case turn =>
    rintro ⟨us, k⟩ i v m₁ h lo tk I oI hi hc hlo hcl ho lF lN
    dsimp only at hc lN ho lF
    obtain ⟨x, tx, hx, rfl, htx, hτx⟩ := hv.get hi
    obtain ⟨hBlo, τ', hc⟩ := hc
    have hi3 : i < xs.length := (List.getElem?_eq_some_iff.mp hx).1
    have hus : us.length ≤ 3 := by rw [hc.length, List.length_map, List.length_take]; omega
    have htx0 : tx ≠ 0 := htx.1
    have htxB : @LT.lt Nat _ tx B := htx.2
    have hIp : I ≠ pl := (ho _ (List.mem_cons_self ..)).symm
    have hnp : ∀ p ∈ news, p.1 ≠ pl := ne_of_lts l1
    clear F2 N2
    have hgx := hg x (List.mem_of_getElem? hx)
    obtain ⟨m', hd', hcs⟩ := hgx.go
    have hix := hin x (List.mem_of_getElem? hx)
    (try ((show wpAny _ _ _ _ _ _); k_fold))
    k_steps
    rcases hcs with ⟨ho1, hup⟩ | ⟨ho1, hup, hs1, hs2, hs3⟩
    · refine Hold.mk ?_
      k_dflt (refine wpAny_tok ?_)
      with_unfolding_all refine (hdn_c w loose mean mg mb ((I, oI) :: (pl, W.listOf us.toArray k) :: news) x tx m' true hgx.size hd' (.inl ⟨ho1, rfl⟩)) _ _ _ _ _ _ _ _ _ _ _ _ _ _ _ _ _ (by assumption) (by assumption) (by assumption) (by assumption) (by assumption) rfl (by first | ((try dsimp only); omega) | with_unfolding_all decide) (by first | ((try dsimp only); omega) | with_unfolding_all decide) ?_
      (try dsimp only)
      k_dflt (intro h9 tk9 F9 N9 htk9)
      (try dsimp only at htk9)
      k_steps
      rename_i ll hq3 F3 N3 l3 hq4 r F4 N4 lo4
      refine Hold.mk ?_
      k_dflt (refine wpAny_tok ?_)
      with_unfolding_all refine (concat_c w loose mean mg mb _ l r n 0 vs ([Value.str (Str.ofString ".7.x\n") tk9] ++ vs) ?_ ?_ ?_ ?_) _ _ _ _ _ _ _ _ _ _ _ _ _ _ _ _ _ (by assumption) (by assumption) (by assumption) (by assumption) (by assumption) rfl (by first | ((try dsimp only); omega) | with_unfolding_all decide) (by first | ((try dsimp only); omega) | with_unfolding_all decide) ?_
      (try dsimp only)
      · k_mem
      · k_mem
      · omega
      · simp only [List.length_append, List.length_cons, List.length_nil]; omega
      k_dflt (intro h10 tk10 r2 nn F10 N10 lo10 htk10)
      (try dsimp only at htk10)
      have hr2 : r2 ≠ pl := Nat.ne_of_gt (lo10 (pl, W.listOf us.toArray k) (by k_mem))
      have hrp : r ≠ pl := Nat.ne_of_gt (lo4 (pl, W.listOf us.toArray k) (by k_mem))
      have hlp : ll ≠ pl := ne_ltR l3 (by k_mem)
      k_steps
      refine Hold.mk ?_
      k_dflt (refine wpAny_tok ?_)
      with_unfolding_all refine (idxS_c w loose mean mg mb _ r2 nn (vs ++ ([Value.str (Str.ofString ".7.x\n") tk9] ++ vs)) (longN xs) (x) tx (fun z => if z < B then τ z else if z = tx then x else Str.ofString ".7.x\n") ?_ ?_ ?_ ?_ (hup ▸ hix)) _ _ _ _ _ _ _ _ _ _ _ _ _ _ _ _ _ (by assumption) (by assumption) (by assumption) (by assumption) (by assumption) rfl (by first | ((try dsimp only); omega) | with_unfolding_all decide) (by first | ((try dsimp only); omega) | with_unfolding_all decide) ?_
      (try dsimp only)
      · k_mem
      · have hold : StrsT (fun z => if z < B then τ z else if z = tx then x else Str.ofString ".7.x\n") (fun t => t ≠ 0) vs xs := hv.mono fun z hz => ⟨hz.1, if_pos hz.2⟩
        refine hold.append (.cons _ _ (by omega) ?_ hold)
        rw [if_neg (by omega), if_neg (by omega)]
      · exact htx.1
      · show (if tx < B then _ else _) = _; rw [if_pos htx.2, hτx]
      k_dflt (intro h11 tk11 t11 q1 q2 F11 N11 htk11)
      (try dsimp only at htk11 q1 q2)
      k_steps
      (rename News _ _ _ _ => N12)
      rw [List.push_toArray] at N12
      refine TEndT.intro (us ++ [Value.int (((longN xs).idxOf x : Nat) : Int) t11], k + 1) (by assumption) N12 ?_ ?_ ?_ ?_ ?_
      · intro q hq; rw [List.mem_singleton.mp hq]; k_mem
      · intro p hp
        rcases List.mem_cons.mp hp with rfl | hp
        · k_mem
        · (repeat (first | exact hp | apply List.mem_cons_of_mem))
      · intro p hp q hq
        rw [List.mem_singleton.mp hq]
        rcases List.mem_cons.mp hp with rfl | hp
        · exact .inl hIp.symm
        · exact .inl (ho p (List.mem_cons_of_mem _ hp))
      · exact fa_cons (by with_unfolding_all rfl) (fa_one (by with_unfolding_all rfl))
      · refine ⟨by omega, ?_⟩
        have e0 : List.map (fun x => (((longN xs).idxOf (up x) : Nat) : Int)) (Option.toList (some x)) = [(((longN xs).idxOf (x) : Nat) : Int)] := by simp [hup]
        rw [List.take_add_one, hx, List.map_append, e0]
        exact ⟨_, hc.fresh hBlo (by omega) (by omega) (by omega)⟩
    · refine Hold.mk ?_
      k_dflt (refine wpAny_tok ?_)
      with_unfolding_all refine (hdn_c w loose mean mg mb ((I, oI) :: (pl, W.listOf us.toArray k) :: news) x tx m' false hgx.size hd' (.inr ⟨ho1, rfl⟩)) _ _ _ _ _ _ _ _ _ _ _ _ _ _ _ _ _ (by assumption) (by assumption) (by assumption) (by assumption) (by assumption) rfl (by first | ((try dsimp only); omega) | with_unfolding_all decide) (by first | ((try dsimp only); omega) | with_unfolding_all decide) ?_
      (try dsimp only)
      k_dflt (intro h9 tk9 F9 N9 htk9)
      (try dsimp only at htk9)
      k_steps
      refine Hold.mk ?_
      refine search_some (Fr.keep (by assumption) _ _ hP0) (Fr.keep (by assumption) _ _ hC0) hgx.size hd' ho1 (by assumption) (by assumption) ?_
      intro M T h8 F8 N8
      have hMp : M ≠ pl := ne_by_cls N8 (List.mem_cons_self ..) (by k_mem : (pl, W.listOf us.toArray k) ∈ _) (by intro e; exact absurd (Value.type.inj e) (by decide))
      have hTp : T ≠ pl := ne_by_cls N8 (List.mem_cons_of_mem _ (List.mem_cons_self ..)) (by k_mem : (pl, W.listOf us.toArray k) ∈ _) (by intro e; exact absurd (Value.type.inj e) (by decide))
      k_steps
      refine Hold.mk ?_
      k_dflt (refine wpAny_tok ?_)
      with_unfolding_all refine (unmT_c w loose mean mg mb _ x tx m' M T (by have := hgx.size; show x.cps.size ≤ _; omega) hs1 hs2 (by rw [PySem.sizeLine_eq]; exact Nat.le_trans hs3 (by decide)) ?_ ?_) _ _ _ _ _ _ _ _ _ _ _ _ _ _ _ _ _ (by assumption) (by assumption) (by assumption) (by assumption) (by assumption) rfl (by first | ((try dsimp only); omega) | with_unfolding_all decide) (by first | ((try dsimp only); omega) | with_unfolding_all decide) ?_
      (try dsimp only)
      · k_mem
      · k_mem
      k_dflt (intro h7 tk7 t7 q3 q4 F7 N7 htk7)
      (try dsimp only at htk7 q3 q4)
      k_steps
      rename_i tk8 htk8 ll hq3 F3 N3 l3 hq4 r F4 N4 lo4
      refine Hold.mk ?_
      k_dflt (refine wpAny_tok ?_)
      with_unfolding_all refine (concat_c w loose mean mg mb _ l r n 0 vs ([Value.str (Str.ofString ".7.x\n") tk8] ++ vs) ?_ ?_ ?_ ?_) _ _ _ _ _ _ _ _ _ _ _ _ _ _ _ _ _ (by assumption) (by assumption) (by assumption) (by assumption) (by assumption) rfl (by first | ((try dsimp only); omega) | with_unfolding_all decide) (by first | ((try dsimp only); omega) | with_unfolding_all decide) ?_
      (try dsimp only)
      · k_mem
      · k_mem
      · omega
      · simp only [List.length_append, List.length_cons, List.length_nil]; omega
      k_dflt (intro h10 tk10 r2 nn F10 N10 lo10 htk10)
      (try dsimp only at htk10)
      have hr2 : r2 ≠ pl := Nat.ne_of_gt (lo10 (pl, W.listOf us.toArray k) (by k_mem))
      have hrp : r ≠ pl := Nat.ne_of_gt (lo4 (pl, W.listOf us.toArray k) (by k_mem))
      have hlp : ll ≠ pl := ne_ltR l3 (by k_mem)
      k_steps
      refine Hold.mk ?_
      k_dflt (refine wpAny_tok ?_)
      with_unfolding_all refine (idxS_c w loose mean mg mb _ r2 nn (vs ++ ([Value.str (Str.ofString ".7.x\n") tk8] ++ vs)) (longN xs) (cutS x m') t7 (fun z => if z < B then τ z else if z = t7 then cutS x m' else Str.ofString ".7.x\n") ?_ ?_ ?_ ?_ (hup ▸ hix)) _ _ _ _ _ _ _ _ _ _ _ _ _ _ _ _ _ (by assumption) (by assumption) (by assumption) (by assumption) (by assumption) rfl (by first | ((try dsimp only); omega) | with_unfolding_all decide) (by first | ((try dsimp only); omega) | with_unfolding_all decide) ?_
      (try dsimp only)
      · k_mem
      · have hold : StrsT (fun z => if z < B then τ z else if z = t7 then cutS x m' else Str.ofString ".7.x\n") (fun t => t ≠ 0) vs xs := hv.mono fun z hz => ⟨hz.1, if_pos hz.2⟩
        refine hold.append (.cons _ _ (by omega) ?_ hold)
        rw [if_neg (by omega), if_neg (by omega)]
      · exact (by omega : @Ne Nat t7 0)
      · show (if t7 < B then _ else _) = _; rw [if_neg (by omega), if_pos rfl]
      k_dflt (intro h11 tk11 t11 q1 q2 F11 N11 htk11)
      (try dsimp only at htk11 q1 q2)
      k_steps
      (rename News _ _ _ _ => N12)
      rw [List.push_toArray] at N12
      refine TEndT.intro (us ++ [Value.int (((longN xs).idxOf (cutS x m') : Nat) : Int) t11], k + 1) (by assumption) N12 ?_ ?_ ?_ ?_ ?_
      · intro q hq; rw [List.mem_singleton.mp hq]; k_mem
      · intro p hp
        rcases List.mem_cons.mp hp with rfl | hp
        · k_mem
        · (repeat (first | exact hp | apply List.mem_cons_of_mem))
      · intro p hp q hq
        rw [List.mem_singleton.mp hq]
        rcases List.mem_cons.mp hp with rfl | hp
        · exact .inl hIp.symm
        · exact .inl (ho p (List.mem_cons_of_mem _ hp))
      · exact fa_cons (by with_unfolding_all rfl) (fa_one (by with_unfolding_all rfl))
      · refine ⟨by omega, ?_⟩
        have e0 : List.map (fun x => (((longN xs).idxOf (up x) : Nat) : Int)) (Option.toList (some x)) = [(((longN xs).idxOf (cutS x m') : Nat) : Int)] := by simp [hup]
        rw [List.take_add_one, hx, List.map_append, e0]
        exact ⟨_, hc.fresh hBlo (by omega) (by omega) (by omega)⟩
  case done =>
    rintro ⟨us, k⟩ m₁ h lo tk hc hle lF lN
    dsimp only at hc lN lF
    obtain ⟨hBlo, τ', hc⟩ := hc
    clear F2 N2
    k_steps
    have hl : vs.length = xs.length := hv.length
    rw [hl, List.take_length] at hc
    exact hret _ _ _ _ _ τ' (by assumption) (by assumption) l1 (hc.mono fun z hz => ⟨⟨hz.1, hz.2.1, by have := hz.2.2; omega⟩, rfl⟩)
end
set_option maxHeartbeats 4000000 in
theorem namesT_c (w : World) (loose : List Str) (mean : ExcName → Option Value) (mg mb : Str → Option Value) (news : List (Addr × Obj)) (l : Addr) (n : Nat) (vs : List Value) (ns : List Int)
   (hm : (l, W.listOf vs.toArray n) ∈ news) (hv : IntsAre vs ns) (hr : InR ns) :
   CT w loose mean mg mb 215 [.ref l] news 1 (fun h₀ L m tk Q => ∀ h' tk' r us k τ, Fr h₀ L h' m → News h₀ L h' ((r, W.listOf us.toArray k) :: news) → (∀ p ∈ news, p.1 < r) → StrsT τ (fun t => t ≠ 0 ∧ t < tk') us (namesS ns) → Q (.ref r) h' tk') := by
  unfold CT
  intro dp un gd cn cs a ccd cl outer A₀ base h₀ L m s Q E hB hF hK hN hT hk hd hu hret
  have hln := hr.1
  refine wpAny_call ?_
  k_dflt cell_enter
  k_steps
  refine Hold.mk ?_
  rename_i nl hq1 l1 hq2 F1 N1 tkA htkA hh tkr t1 u1 v1 hrg F2 N2 hke htkB
  have hnl : ∀ p ∈ news, p.1 ≠ nl := ne_of_lts l1
  refine' x_rangeT (n := 3) (σ := List Value × Nat) (fun c => (nl, W.listOf c.1.toArray c.2) :: news) (fun c => [("posts", .ref l), ("names", .ref nl)]) (fun i c tk => 0 < tk ∧ ∃ τ, StrsT τ (fun t => t ≠ 0 ∧ t < tk) c.1 ((List.range i).map fun j : Nat => nameOf ns (j : Int))) ([], 0) (by rfl) hrg (by decide) (by decide) rfl rfl F2 N2 ?hk ⟨by (try dsimp only); omega, fun _ => Str.empty, .nil⟩ ?turn ?done
  case hk => exact fa_cons (by with_unfolding_all rfl) (fa_one (by with_unfolding_all rfl))
  case turn =>
    rintro ⟨us, k⟩ i u m₁ h lo tk I oI hi hc hlo htu hcl ho lF lN
    dsimp only at hc lN ho lF
    obtain ⟨hlo0, τ, hc⟩ := hc
    have hIn : I ≠ nl := (ho _ (List.mem_cons_self ..)).symm
    have hus : us.length ≤ 3 := by rw [hc.length]; simp; omega
    clear F2 N2 hrg
    (try ((show wpAny _ _ _ _ _ _); k_fold))
    k_steps
    refine Hold.mk ?_
    (rename Fr _ _ _ _ => F2); (rename News _ _ _ _ => N2); (rename IsRange _ _ _ _ _ _ _ _ => hrg)
    refine' x_rangeT (n := 3) (σ := (Str × Tok) × (Int × Tok)) (fun c => (I, oI) :: (nl, W.listOf us.toArray k) :: news) (fun c => [("posts", .ref l), ("names", .ref nl), ("name", .str c.1.1 c.1.2), ("here", .int c.2.1 c.2.2)]) (fun j c tk2 => tk < tk2 ∧ (c.1.1, c.2.1) = nameIt ns (i : Int) j) ((_, _), (_, _)) (by rfl) hrg (by decide) (by decide) rfl rfl F2 (news_sub N2 (by intro p hp; k_mem)) ?hk ?h00 ?turn2 ?done2
    case hk => exact fa_cons (by with_unfolding_all rfl) (fa_cons (by with_unfolding_all rfl) (fa_cons (by with_unfolding_all rfl) (fa_one (by with_unfolding_all rfl))))
    case h00 => refine ⟨by (try dsimp only); omega, ?_⟩; show (_, _) = (_, _); rw [Int.zero_add]; (try rfl)
    case turn2 =>
      rintro ⟨⟨nm, tn⟩, ⟨hr', th⟩⟩ j u m₁ h lo2 tk2 I2 oI2 hj hc2 hlo2 htu2 hcl2 ho2 lF2 lN2
      dsimp only at hc2 lN2 ho2 lF2
      obtain ⟨hlo3, hc2⟩ := hc2
      have hx := nameIt_in hr (p := (i : Int)) (by omega) (by omega) j
      rw [← hc2] at hx
      obtain ⟨hx0, hx3, hxl⟩ := hx
      dsimp only at hx0 hx3 hxl
      have htl := tag_len hr'.toNat
      have hst : nameIt ns (i : Int) (j + 1) = nameStep ns (nm, hr') := by rw [hc2]; rfl
      clear F2 N2 hrg
      (try ((show wpAny _ _ _ _ _ _); k_fold))
      k_steps
      · refine TEndT.intro ((_, _), (_, _)) (by assumption) (by assumption) (by intro q hq; rw [List.mem_singleton.mp hq]; k_mem) (by intro p hp; k_mem) (by intro p hp q hq; rw [List.mem_singleton.mp hq]; exact .inl (ho2 p hp)) (by exact fa_cons (by with_unfolding_all rfl) (fa_cons (by with_unfolding_all rfl) (fa_cons (by with_unfolding_all rfl) (fa_one (by with_unfolding_all rfl))))) ?_
        refine ⟨by omega, ?_⟩
        dsimp only
        rw [hst, nameStep, if_pos (by assumption)]
        (try rfl)
      · refine TEndT.intro ((_, _), (_, _)) (by assumption) (by assumption) (by intro q hq; rw [List.mem_singleton.mp hq]; k_mem) (by intro p hp; k_mem) (by intro p hp q hq; rw [List.mem_singleton.mp hq]; exact .inl (ho2 p hp)) (by exact fa_cons (by with_unfolding_all rfl) (fa_cons (by with_unfolding_all rfl) (fa_cons (by with_unfolding_all rfl) (fa_one (by with_unfolding_all rfl))))) ?_
        refine ⟨by omega, ?_⟩
        dsimp only
        rw [hst, nameStep, if_neg (by assumption)]
        (try rfl)
    case done2 =>
      rintro ⟨⟨nm, tn⟩, ⟨hr', th⟩⟩ m₁ h lo2 tk2 hc2 hle2 lF2 lN2
      dsimp only at hc2 lN2 lF2
      obtain ⟨hlo3, hc2⟩ := hc2
      have hx := nameIt_in hr (p := (i : Int)) (by omega) (by omega) 3
      rw [← hc2] at hx
      obtain ⟨hx0, hx3, hxl⟩ := hx
      dsimp only at hx0 hx3 hxl
      have e1 : (Str.ofString ".7.x").length = 4 := by decide +kernel
      have e2 : (Str.ofString "\n").length = 1 := by decide +kernel
      have a0 : (Str.ofString ".7.x").length + nm.length ≤ sizeLine := by rw [PySem.sizeLine_eq]; omega
      have a1 : (Str.ofString ".7.x" ++ nm).length ≠ 0 := by rw [Str.length_append]; omega
      have a2 : (Str.ofString "\n").length ≠ 0 := by omega
      have a3 : (Str.ofString ".7.x" ++ nm ++ Str.ofString "\n").length ≤ sizeLine := by rw [PySem.sizeLine_eq, Str.length_append, Str.length_append]; omega
      clear F2 N2 hrg
      k_steps
      · (rename News _ _ _ _ => N9)
        rw [List.push_toArray] at N9
        refine TEndT.intro (_, _) (by assumption) N9 (by intro q hq; rw [List.mem_singleton.mp hq]; k_mem) (by intro p hp; exact List.mem_cons_of_mem _ hp) (by intro p hp q hq; rw [List.mem_singleton.mp hq]; rcases List.mem_cons.mp hp with rfl | hp; exact .inl hIn.symm; exact .inl (ho p (List.mem_cons_of_mem _ hp))) (by exact fa_cons (by with_unfolding_all rfl) (fa_one (by with_unfolding_all rfl))) ?_
        refine ⟨by omega, ?_⟩
        dsimp only
        rw [List.range_succ, List.map_append]
        have e9 : nameOf ns (i : Int) = Str.ofString ".7.x" ++ nm ++ Str.ofString "\n" := by unfold nameOf; rw [← hc2]; rw [if_pos (by simpa using ‹_ = (3 : Int)›)]
        rw [List.map_singleton, e9]
        exact ⟨_, hc.fresh hlo0 (by omega) (by omega)⟩
      · (rename News _ _ _ _ => N9)
        rw [List.push_toArray] at N9
        refine TEndT.intro (_, _) (by assumption) N9 (by intro q hq; rw [List.mem_singleton.mp hq]; k_mem) (by intro p hp; exact List.mem_cons_of_mem _ hp) (by intro p hp q hq; rw [List.mem_singleton.mp hq]; rcases List.mem_cons.mp hp with rfl | hp; exact .inl hIn.symm; exact .inl (ho p (List.mem_cons_of_mem _ hp))) (by exact fa_cons (by with_unfolding_all rfl) (fa_one (by with_unfolding_all rfl))) ?_
        refine ⟨by omega, ?_⟩
        dsimp only
        rw [List.range_succ, List.map_append]
        have e9 : nameOf ns (i : Int) = Str.ofString "" := by unfold nameOf; rw [← hc2]; rw [if_neg (by simpa using ‹_ ≠ (3 : Int)›)]
        rw [List.map_singleton, e9]
        exact ⟨_, hc.fresh hlo0 (by omega) (by omega)⟩
  case done =>
    rintro ⟨us, k⟩ m₁ h lo tk hc hle lF lN
    dsimp only at hc lN lF
    clear F2 N2 hrg
    k_steps
    obtain ⟨hlo0, τ, hc⟩ := hc
    exact hret _ _ _ _ _ τ (by assumption) (by assumption) l1 (hc.mono fun z hz => ⟨⟨hz.1, by have := hz.2; omega⟩, rfl⟩)
noncomputable def tieB (ps ls : List Int) (p t : Int) : Bool := decide (t ≠ p ∧ (ps.getD p.toNat 0 = t ∨ (t < 3 ∧ ps.getD t.toNat 0 = p) ∨ ls.getD p.toNat 0 = ls.getD t.toNat 0))
noncomputable def rowK (ps ls : List Int) (p : Int) (k : Nat) : List Int := ((List.range k).map fun t : Nat => (t : Int)).filter (tieB ps ls p)
theorem rowK_true {ps ls : List Int} {p : Int} {k : Nat} (h : tieB ps ls p (k : Int) = true) : rowK ps ls p (k + 1) = rowK ps ls p k ++ [(k : Int)] := by
  unfold rowK; rw [List.range_succ, List.map_append, List.filter_append]; simp [h]
theorem rowK_false {ps ls : List Int} {p : Int} {k : Nat} (h : tieB ps ls p (k : Int) = false) : rowK ps ls p (k + 1) = rowK ps ls p k := by
  unfold rowK; rw [List.range_succ, List.map_append, List.filter_append]; simp [h]
noncomputable def wayS (ps ls : List Int) (num p : Int) : List Int := if Builtin.bitAnd (num.fdiv (2 ^ p.toNat)) 1 = 0 then rowK ps ls p 4 else (rowK ps ls p 4).reverse
noncomputable def rowsL (rs : List (Addr × List Value × Nat)) : List (Addr × Obj) := rs.map fun q => (q.1, W.listOf q.2.1.toArray q.2.2)
theorem rowsL_snoc_mem {rs : List (Addr × List Value × Nat)} {x : Addr × List Value × Nat} {news : List (Addr × Obj)} {p : Addr × Obj} (h : p ∈ rowsL (rs ++ [x]) ++ news) : p = (x.1, W.listOf x.2.1.toArray x.2.2) ∨ p ∈ rowsL rs ++ news := by
  rcases List.mem_append.mp h with h | h
  · unfold rowsL at h
    rw [List.map_append] at h
    rcases List.mem_append.mp h with h | h
    · exact .inr (List.mem_append_left _ h)
    · exact .inl (by simpa using h)
  · exact .inr (List.mem_append_right _ h)
noncomputable def RowsT (τ : Nat → Int) (tk : Nat) (ps ls : List Int) (num : Int) (rs : List (Addr × List Value × Nat)) : Prop := ∀ (k : Nat) (q : Addr × List Value × Nat), rs[k]? = some q → IntsT τ (fun t => t ≠ 0 ∧ t < tk) q.2.1 (wayS ps ls num (k : Int))
theorem RowsT.snoc {τ τ7 : Nat → Int} {lo tk : Nat} {ps ls : List Int} {num : Int} {rs : List (Addr × List Value × Nat)} {i : Nat} (h : RowsT τ lo ps ls num rs) (hl : rs.length = i) (hle : lo ≤ tk) {D : Addr} {vs : List Value} {k : Nat} (hv : IntsT τ7 (fun t => lo ≤ t ∧ t ≠ 0 ∧ t < tk) vs (wayS ps ls num (i : Int))) :
    RowsT (fun t => if t < lo then τ t else τ7 t) tk ps ls num (rs ++ [(D, vs, k)]) := by
  intro j q hj
  by_cases e : j < rs.length
  · rw [List.getElem?_append_left e] at hj
    exact (h j q hj).mono fun z hz => ⟨⟨hz.1, by have := hz.2; omega⟩, if_pos hz.2⟩
  · rw [List.getElem?_append_right (by omega)] at hj
    have e2 : j - rs.length = 0 := by
      rcases hx : j - rs.length with _ | n
      · rfl
      · rw [hx] at hj; simp at hj
    rw [e2] at hj
    simp at hj
    subst hj
    have e3 : j = i := by omega
    subst e3
    exact hv.mono fun z hz => ⟨⟨hz.2.1, hz.2.2⟩, if_neg (by have := hz.1; omega)⟩
structure WS where
  oP : Obj
  rs : List (Addr × List Value × Nat)
  kw : Nat
section
local macro_rules | `(tactic| walk_at "subscriptTail Name Slice ref ref") => `(tactic| walk_at "y0")
local macro_rules | `(tactic| walk_at "call ref") => `(tactic| walk_at "y0")
local macro_rules | `(tactic| walk_at "exec Assign cons ListComp") => `(tactic| walk_at "y0")
set_option maxHeartbeats 4000000 in
theorem ways_c (w : World) (loose : List Str) (mean : ExcName → Option Value) (mg mb : Str → Option Value) (news : List (Addr × Obj)) (pl lv : Addr) (n nl : Nat) (vs vl : List Value) (ps ls : List Int) (num : Int) (tn : Tok)
   (hm : (pl, W.listOf vs.toArray n) ∈ news) (hml : (lv, W.listOf vl.toArray nl) ∈ news) (hv : IntsAre vs ps) (hvl : IntsAre vl ls) (hp3 : ps.length = 3) (hl4 : ls.length = 4) :
   CT w loose mean mg mb 227 [.ref pl, .ref lv, .int num tn] news 1 (fun h₀ L m tk Q => ∀ h' tk' wl kw r0 r1 r2 k0 k1 k2 v0 v1 v2 τ, Fr h₀ L h' m → News h₀ L h' ((wl, W.listOf #[.ref r0, .ref r1, .ref r2] kw) :: (r0, W.listOf v0.toArray k0) :: (r1, W.listOf v1.toArray k1) :: (r2, W.listOf v2.toArray k2) :: news) →
     IntsT τ (fun t => t ≠ 0 ∧ t < tk') v0 (wayS ps ls num 0) → IntsT τ (fun t => t ≠ 0 ∧ t < tk') v1 (wayS ps ls num 1) → IntsT τ (fun t => t ≠ 0 ∧ t < tk') v2 (wayS ps ls num 2) → Q (.ref wl) h' tk') := by
  unfold CT
  intro dp un gd cn cs a ccd cl outer A₀ base h₀ L m s Q E hB hF hK hN hT hk hd hu hret
  refine wpAny_call ?_
  k_dflt cell_enter
  k_steps
  refine Hold.mk ?_
  rename_i L' hA1 tkA hA2 hA3 hA4 hA5 l0 oP oL oS dP dL dS wl hA6 l1 hA7 F1 N1 tkB htkB hh tkr t1 u1 v1 hrg F2 N2 hke htkC
  have dP' : ∃ z, oP.data = .cell z := ⟨_, dP⟩
  have dL' : oL.data = .cell (some (.ref lv)) := by with_unfolding_all exact dL
  have dS' : oS.data = .cell (some (.ref pl)) := by with_unfolding_all exact dS
  refine' x_rangeG (n := 3) (σ := WS) (fun c => (wl, W.listOf (c.rs.map fun q => Value.ref q.1).toArray c.kw) :: (L' + 1 + 1 + 1, c.oP) :: (L' + 1 + 1, oL) :: (L' + 1, oS) :: (rowsL c.rs ++ news)) (fun c => [("number", .int num tn), ("ways", .ref wl)])
    (fun i c tk => 0 < tk ∧ (∃ z, c.oP.data = .cell z) ∧ (∀ q ∈ c.rs, q.1 ≠ L' + 1 + 1 + 1 ∧ q.1 ≠ wl) ∧ c.rs.length = i ∧ ∃ τ, RowsT τ tk ps ls num c.rs) ⟨oP, [], 0⟩ (by rfl) hrg (by decide) (by decide) F2 ?hN ?hk ?hP ?turn ?done
  case hN => exact N2
  case hk => exact fa_cons (by with_unfolding_all rfl) (fa_one (by with_unfolding_all rfl))
  case hP => exact ⟨by (try dsimp only); omega, dP', (fun q hq => nomatch hq), rfl, fun _ => 0, fun k q hq => by simp at hq⟩
  case turn =>
    rintro ⟨oP', rs, kw⟩ i t m₁ h lo tk I oI hi hc hlt htt hcl ho lF lN
    dsimp only at hc lN lF ho
    obtain ⟨hlo0, ⟨z, hz⟩, hrs, hrl, τ0, hrt⟩ := hc
    have hw3 : wl ≠ L' + 1 + 1 + 1 := ne_ltR l1 (by k_mem)
    have hI3 : I ≠ L' + 1 + 1 + 1 := (ho (L' + 1 + 1 + 1, oP') (by k_mem)).symm
    have hIw : I ≠ wl := (ho (wl, _) (List.mem_cons_self ..)).symm
    have ht3 : ∀ p ∈ rowsL rs ++ news, p.1 ≠ L' + 1 + 1 + 1 := by
      intro p hp
      rcases List.mem_append.mp hp with hp | hp
      · obtain ⟨q, hq, rfl⟩ := List.mem_map.mp hp; exact (hrs q hq).1
      · exact Nat.ne_of_lt (Nat.lt_of_lt_of_le (l0 p hp) (Nat.le_add_right L' 3))
    have htw : ∀ p ∈ rowsL rs ++ news, p.1 ≠ wl := by
      intro p hp
      rcases List.mem_append.mp hp with hp | hp
      · obtain ⟨q, hq, rfl⟩ := List.mem_map.mp hp; exact (hrs q hq).2
      · exact Nat.ne_of_lt (Nat.lt_trans (Nat.lt_of_lt_of_le (l0 p hp) (Nat.le_add_right L' 3)) (lt_in l1 (by k_mem)))
    have hm' : (pl, W.listOf vs.toArray n) ∈ rowsL rs ++ news := List.mem_append_right _ hm
    have hml' : (lv, W.listOf vl.toArray nl) ∈ rowsL rs ++ news := List.mem_append_right _ hml
    generalize hT : rowsL rs ++ news = tail at lN ho hm' hml' ht3 htw
    have hRl : (rs.map fun q => Value.ref q.1).length ≤ 3 := by rw [List.length_map]; omega
    generalize hRe : (rs.map fun q => Value.ref q.1) = R at lN ho hRl
    clear F2 N2 hke hrg dP dL dS
    refine wpAny_assign_Name ?_
    refine storeX_C lF lN (by rfl) (UpdF.tail hI3 (UpdF.tail hw3 (UpdF.head ?_))) hz ?_
    · intro p hp
      rcases List.mem_cons.mp hp with rfl | hp
      · exact Nat.ne_of_lt (Nat.lt_succ_self _)
      rcases List.mem_cons.mp hp with rfl | hp
      · exact Nat.ne_of_lt (Nat.lt_succ_of_lt (Nat.lt_succ_self _))
      exact ht3 p hp
    intro h3 o3 F3 N3 d3
    (try dsimp only at N3)
    clear lF lN hz
    (try ((show wpAny _ _ _ _ _ _); k_fold))
    k_steps
    refine Hold.mk ?_
    (rename Fr _ _ _ _ => F4); (rename News _ _ _ _ => N4)
    refine x_compRA (n := 4) (fun k ys tk => lo ≤ tk ∧ ∃ τ, IntsT τ (fun t => lo ≤ t ∧ t ≠ 0 ∧ t < tk) ys (rowK ps ls (0 + (i : Int)) k)) F4 N4 (by rfl) (by with_unfolding_all rfl) (by rfl) (by rfl) (by rfl) (by decide) (by rfl) (by decide) (by rfl) (by rfl) (by rw [PySem.sizeLine_eq]; decide) ?_ (by intro _; with_unfolding_all rfl)
    k_steps
    refine Hold.mk ?_
    (rename Fr _ _ _ _ => F5); (rename News _ _ _ _ => N5); (rename IsRange _ _ _ _ _ _ _ _ => hrg5)
    refine ⟨_, _, _, _, _, rfl, F5, N5, hrg5, by decide, by decide, ⟨by (try dsimp only); omega, fun _ => 0, .nil⟩, ?_, ?_⟩
    · intro j ys tj I2 oI2 C2 oC2 D2 m2 h6 lo6 tk6 E6 hj hInv hl6 ht6 hC6 hm6 F6 N6 hoff6 hne6
      (try dsimp only)
      clear F5 N5 hrg5
      obtain ⟨hlo6, τ6, hy6⟩ := hInv
      k_steps
      all_goals first
        | (refine CEnd.intro F6 N6 _ (fun p hp => hp) hoff6 ⟨rfl, by (try dsimp only); omega, ?_⟩
           rw [rowK_true (decide_eq_true (by omega))]
           exact ⟨_, hy6.fresh hlo6 (by omega) hl6 (by (try dsimp only); omega)⟩)
        | (refine CEnd.intro F6 N6 _ (fun p hp => hp) hoff6 ⟨rfl, by (try dsimp only); omega, ?_⟩
           rw [rowK_false (decide_eq_false (by omega))]
           exact ⟨τ6, hy6.mono fun z hz => ⟨⟨hz.1, hz.2.1, by have := hz.2.2; (try dsimp only); omega⟩, rfl⟩⟩)
    · intro D ys h7 lo7 tk7 hInv hle7 F7 N7 hneD
      (try dsimp only)
      clear F5 N5 hrg5
      obtain ⟨hlo7, τ7, hy7⟩ := hInv
      have hyl : ys.length ≤ 4 := by
        rw [hy7.length]; unfold rowK
        refine Nat.le_trans (List.length_filter_le _ _) ?_
        simp
      have hDw : D ≠ wl := (hneD (wl, _) (List.mem_cons_of_mem _ (List.mem_cons_self ..))).symm
      have hw2 : L' + 1 + 1 ≠ wl := ne_ltL l1 (by k_mem)
      have hw1 : L' + 1 ≠ wl := ne_ltL l1 (by k_mem)
      have hw3' : L' + 1 + 1 + 1 ≠ wl := ne_ltL l1 (by k_mem)
      k_steps
      · refine Hold.mk ?_
        (rename Fr _ _ _ _ => F8); (rename News _ _ _ _ => N8)
        have hls8 := PySem.IsL.isList (n := ys.length) (N8 (D, LCg.lst ys) (List.mem_cons_self ..)).1
        k_dflt (refine krv_lit (its := ys.toArray) (zs := ys.reverse) F8 N8 hls8 (IsPart.int _ _) (by simp) ?_ (by with_unfolding_all rfl) (by intro _; with_unfolding_all rfl) (by rw [PySem.sizeLine_eq, List.size_toArray]; omega))
        intro Dr hr9 F9 N9 lo9
        have hDrw : Dr ≠ wl := Nat.ne_of_gt (lo9 (wl, _) (by k_mem))
        k_steps
        (rename Fr _ _ _ _ => F11); (rename News _ _ _ _ => N11)
        rw [List.push_toArray] at N11
        refine TEndT.intro (⟨o3, rs ++ [(Dr, ys.reverse, 0)], kw + 1⟩ : WS) F11 N11 ?_ ?_ ?_ ?_ ?_
        · intro q hq; rw [List.mem_singleton.mp hq]; k_mem
        · intro p hp
          rcases List.mem_cons.mp hp with rfl | hp
          · rw [← hRe, List.map_append]; k_mem
          rcases List.mem_cons.mp hp with rfl | hp
          · k_mem
          rcases List.mem_cons.mp hp with rfl | hp
          · k_mem
          rcases List.mem_cons.mp hp with rfl | hp
          · k_mem
          rcases rowsL_snoc_mem hp with rfl | hp
          · k_mem
          rw [hT] at hp
          (repeat (first | exact hp | apply List.mem_cons_of_mem))
        · intro p hp q hq
          rw [List.mem_singleton.mp hq]
          refine .inl ?_
          rcases List.mem_cons.mp hp with rfl | hp
          · exact hIw.symm
          rcases List.mem_cons.mp hp with rfl | hp
          · exact hI3.symm
          rcases List.mem_cons.mp hp with rfl | hp
          · exact ho (L' + 1 + 1, oL) (by k_mem)
          rcases List.mem_cons.mp hp with rfl | hp
          · exact ho (L' + 1, oS) (by k_mem)
          rcases rowsL_snoc_mem hp with rfl | hp
          · exact Nat.ne_of_gt (lo9 (I, oI) (by k_mem))
          rw [hT] at hp
          exact ho p (by (repeat (first | exact hp | apply List.mem_cons_of_mem)))
        · exact fa_cons (by with_unfolding_all rfl) (fa_one (by with_unfolding_all rfl))
        · refine ⟨by omega, ⟨_, d3⟩, ?_, by rw [List.length_append, hrl]; rfl, (fun t => if t < lo then τ0 t else τ7 t), hrt.snoc (τ7 := τ7) hrl (by omega) (k := 0) (D := Dr) ?_⟩
          · intro q hq
            rcases List.mem_append.mp hq with hq | hq
            · exact hrs q hq
            · rw [List.mem_singleton.mp hq]; exact ⟨Nat.ne_of_gt (lo9 (L' + 1 + 1 + 1, o3) (by k_mem)), hDrw⟩
          · have e0 : (0 : Int) + (i : Int) = i := Int.zero_add _
            rw [e0] at hy7
            have hb : ¬ Builtin.bitAnd (num.fdiv (2 ^ (i : Int).toNat)) 1 = 0 := by rw [← e0]; assumption
            unfold wayS; rw [if_neg hb]
            exact hy7.reverse.mono fun z hz => ⟨⟨hz.1, hz.2.1, by have := hz.2.2; omega⟩, rfl⟩
      · (rename Fr _ _ _ _ => F11); (rename News _ _ _ _ => N11)
        rw [List.push_toArray] at N11
        refine TEndT.intro (⟨o3, rs ++ [(D, ys, ys.length)], kw + 1⟩ : WS) F11 N11 ?_ ?_ ?_ ?_ ?_
        · intro q hq; rw [List.mem_singleton.mp hq]; k_mem
        · intro p hp
          rcases List.mem_cons.mp hp with rfl | hp
          · rw [← hRe, List.map_append]; k_mem
          rcases List.mem_cons.mp hp with rfl | hp
          · k_mem
          rcases List.mem_cons.mp hp with rfl | hp
          · k_mem
          rcases List.mem_cons.mp hp with rfl | hp
          · k_mem
          rcases rowsL_snoc_mem hp with rfl | hp
          · k_mem
          rw [hT] at hp
          (repeat (first | exact hp | apply List.mem_cons_of_mem))
        · intro p hp q hq
          rw [List.mem_singleton.mp hq]
          refine .inl ?_
          rcases List.mem_cons.mp hp with rfl | hp
          · exact hIw.symm
          rcases List.mem_cons.mp hp with rfl | hp
          · exact hI3.symm
          rcases List.mem_cons.mp hp with rfl | hp
          · exact ho (L' + 1 + 1, oL) (by k_mem)
          rcases List.mem_cons.mp hp with rfl | hp
          · exact ho (L' + 1, oS) (by k_mem)
          rcases rowsL_snoc_mem hp with rfl | hp
          · exact (hneD (I, oI) (by k_mem)).symm
          rw [hT] at hp
          exact ho p (by (repeat (first | exact hp | apply List.mem_cons_of_mem)))
        · exact fa_cons (by with_unfolding_all rfl) (fa_one (by with_unfolding_all rfl))
        · refine ⟨by omega, ⟨_, d3⟩, ?_, by rw [List.length_append, hrl]; rfl, (fun t => if t < lo then τ0 t else τ7 t), hrt.snoc (τ7 := τ7) hrl (by omega) (k := ys.length) (D := D) ?_⟩
          · intro q hq
            rcases List.mem_append.mp hq with hq | hq
            · exact hrs q hq
            · rw [List.mem_singleton.mp hq]; exact ⟨(hneD (L' + 1 + 1 + 1, o3) (by k_mem)).symm, hDw⟩
          · have e0 : (0 : Int) + (i : Int) = i := Int.zero_add _
            rw [e0] at hy7
            have hb : Builtin.bitAnd (num.fdiv (2 ^ (i : Int).toNat)) 1 = 0 := by rw [← e0]; assumption
            unfold wayS; rw [if_pos hb]
            exact hy7.mono fun z hz => ⟨⟨hz.1, hz.2.1, by have := hz.2.2; omega⟩, rfl⟩
  case done =>
    rintro ⟨oP', rs, kw⟩ m₁ h lo tk hc hle lF lN
    dsimp only at hc lN lF
    obtain ⟨hlo0, _, hrs, hrl, τ0, hrt⟩ := hc
    clear F2 N2 hrg
    obtain ⟨q0, q1, q2, rfl⟩ := len3 hrl
    k_steps
    (rename Fr _ _ _ _ => F12); (rename News _ _ _ _ => N12)
    refine hret _ _ wl kw q0.1 q1.1 q2.1 q0.2.2 q1.2.2 q2.2.2 q0.2.1 q1.2.1 q2.2.1 τ0 F12 (news_sub N12 ?_) ((hrt 0 q0 rfl).mono fun z hz => ⟨⟨hz.1, by have := hz.2; omega⟩, rfl⟩) ((hrt 1 q1 rfl).mono fun z hz => ⟨⟨hz.1, by have := hz.2; omega⟩, rfl⟩) ((hrt 2 q2 rfl).mono fun z hz => ⟨⟨hz.1, by have := hz.2; omega⟩, rfl⟩)
    intro p hp
    rcases List.mem_cons.mp hp with rfl | hp
    · exact List.mem_cons_self ..
    refine List.mem_cons_of_mem _ (List.mem_cons_of_mem _ (List.mem_cons_of_mem _ (List.mem_cons_of_mem _ ?_)))
    rcases List.mem_cons.mp hp with rfl | hp
    · exact List.mem_append_left _ (by simp [rowsL])
    rcases List.mem_cons.mp hp with rfl | hp
    · exact List.mem_append_left _ (by simp [rowsL])
    rcases List.mem_cons.mp hp with rfl | hp
    · exact List.mem_append_left _ (by simp [rowsL])
    exact List.mem_append_right _ hp
end
section
set_option maxHeartbeats 4000000 in
theorem cells_c (w : World) (loose : List Str) (mean : ExcName → Option Value) (mg mb : Str → Option Value) (news : List (Addr × Obj)) (l : Addr) (vs : List Value) (ns : List Int) (tl : Nat)
   (hv : IntsAre vs ns) (hz : ns.length ≤ 1000) :
   CT w loose mean mg mb 187 [.ref l] news 1 (fun h₀ L m tk Q => h₀.IsList l vs.toArray ∧ ∀ h' tk' r us k cs, Fr h₀ L h' m → News h₀ L h' ((r, W.listOf us.toArray k) :: news) → (∀ p ∈ news, p.1 < r) → IntsAre us cs → cs.length = 5 → 0 < tk' → Q (.ref r) h' tk') := by
  unfold CT
  intro dp un gd cn cs a ccd cl outer A₀ base h₀ L m s Q E hB hF hK hN hT hk hd hu ⟨hsc, hret⟩
  refine wpAny_call ?_
  k_dflt cell_enter
  k_steps
  refine Hold.mk ?_
  rename_i g1 L1 hA1 FG B1 X1 T1 tkA htkA nl hA2 l1 hA3 F1 N1 tkB htkB
  obtain ⟨o, ho9, hr9⟩ := hsc
  have hnl : ∀ p ∈ news, p.1 ≠ nl := ne_of_lts l1
  refine' x_enumT (l := l) (vs := vs) (σ := List Value × Nat) (fun c => (nl, W.listOf c.1.toArray c.2) :: news) (fun c => [("cells", .ref nl)]) (fun i c tk => 0 < tk ∧ ∃ cs, IntsAre c.1 cs ∧ cs.length = 5) (_, _) (by rfl) ⟨o, F1.keep _ _ (FG.keep _ _ ho9), hr9⟩ (.inr ⟨o, FG.keep _ _ ho9⟩) ?hL F1 N1 ?hk ?hP ?turn ?done
  case hL => exact Nat.ne_of_gt (Nat.lt_of_lt_of_le (Heap.lt_size (FG.keep _ _ ho9)) F1.above)
  case hk => exact fa_one (by with_unfolding_all rfl)
  case hP => exact ⟨by (try dsimp only); omega, [137, 239, 188, 294, 1230], .cons _ _ (.cons _ _ (.cons _ _ (.cons _ _ (.cons _ _ .nil)))), rfl⟩
  case turn =>
    rintro ⟨us, k⟩ i v t T m₁ h lo tk I oI J oJ hi hT hc hlo htt hcI hcJ ho lF lN
    dsimp only at hc lN ho lF
    obtain ⟨hlo0, cs, hcs, hc5⟩ := hc
    obtain ⟨y, ty, hy, rfl⟩ : ∃ y ty, ns[i]? = some y ∧ v = .int y ty := by
      obtain ⟨hlt, e⟩ := List.getElem?_eq_some_iff.mp hi
      have hl := hv.length
      obtain ⟨t2, h2⟩ := hv.get i ns[i] (List.getElem?_eq_getElem (by omega))
      rw [hi] at h2
      exact ⟨_, t2, List.getElem?_eq_getElem (by omega), Option.some.inj h2⟩
    have hIn : I ≠ nl := (ho _ (List.mem_cons_self ..)).1.symm
    have hJn : J ≠ nl := (ho _ (List.mem_cons_self ..)).2.symm
    have hf0 := fm_lo (i : Int) (n := 5) (by decide)
    have hf1 := fm_hi (i : Int) (n := 5) (by decide)
    clear F1 N1 hi
    (try ((show wpAny _ _ _ _ _ _); k_fold))
    k_steps
    (rename Fr _ _ _ _ => F9); (rename News _ _ _ _ => N9); (rename IntsAre _ _ => hset)
    refine TEndT.intro (σ := List Value × Nat) (_, _) F9 N9 (by intro q hq; simp only [List.mem_cons, List.not_mem_nil, or_false] at hq ⊢; rcases hq with rfl | rfl <;> simp) (by intro p hp; exact List.mem_cons_of_mem _ (List.mem_cons_of_mem _ hp)) (by
      intro p hp q hq
      simp only [List.mem_cons, List.not_mem_nil, or_false] at hq
      rcases List.mem_cons.mp hp with rfl | hp
      · rcases hq with rfl | rfl
        · exact .inl hIn.symm
        · exact .inl hJn.symm
      · rcases hq with rfl | rfl
        · exact .inl (ho p (List.mem_cons_of_mem _ hp)).1
        · exact .inl (ho p (List.mem_cons_of_mem _ hp)).2) (by exact fa_one (by with_unfolding_all rfl)) ?_
    exact ⟨by omega, _, hset, by rw [List.length_set]; exact hc5⟩
  case done =>
    rintro ⟨us, k⟩ m₁ h lo tk hc hle lF lN
    dsimp only at hc lN lF
    obtain ⟨hlo0, cs, hcs, hc5⟩ := hc
    clear F1 N1
    k_steps
    exact hret _ _ _ _ _ cs (by assumption) (by assumption) l1 hcs hc5 (by omega)
end
structure WSt where
  cs : List Int
  b : Int
  n : Int
  nt : Int
noncomputable def wsStep (k : Nat) (c : WSt) : Option WSt :=
  if k = 32 then some { c with n := c.n + 1, b := c.b + 1 }
  else if k = 9 then
    let cs' := if (c.cs.length : Int) ≤ c.b then c.cs ++ (List.replicate (c.b - c.cs.length + 1).toNat [0]).flatten else c.cs
    some { cs := cs'.set c.b.toNat (cs'.getD c.b.toNat 0 + 1), b := 0, n := c.n + 1, nt := c.nt + 1 }
  else none
noncomputable def wsRun : List Nat → WSt → WSt
  | [], c => c
  | k :: r, c => match wsStep k c with
    | some c' => wsRun r c'
    | none => c
theorem one_sp {ch : Nat} : ((⟨#[ch]⟩ : Str) == Str.ofString " ") = true ↔ ch = 32 := by
  rw [beq_iff_eq, show Str.ofString " " = ⟨#[32]⟩ by decide +kernel]
  constructor
  · intro h; injection h with h; injection h with h; injection h
  · rintro rfl; rfl
theorem one_tab {ch : Nat} : ((⟨#[ch]⟩ : Str) == Str.ofString "\t") = true ↔ ch = 9 := by
  rw [beq_iff_eq, show Str.ofString "\t" = ⟨#[9]⟩ by decide +kernel]
  constructor
  · intro h; injection h with h; injection h with h; injection h
  · rintro rfl; rfl
theorem wsRun_step {l : List Nat} {i ch : Nat} {c c' F : WSt} (hi : l[i]? = some ch) (hr : wsRun (l.drop i) c = F) (hs : wsStep ch c = some c') : wsRun (l.drop (i + 1)) c' = F := by
  obtain ⟨hlt, e⟩ := List.getElem?_eq_some_iff.mp hi
  rw [List.drop_eq_getElem_cons hlt, e] at hr
  rw [← hr, wsRun, hs]
theorem wsRun_stop {l : List Nat} {i ch : Nat} {c F : WSt} (hi : l[i]? = some ch) (hr : wsRun (l.drop i) c = F) (hs : wsStep ch c = none) : c = F := by
  obtain ⟨hlt, e⟩ := List.getElem?_eq_some_iff.mp hi
  rw [List.drop_eq_getElem_cons hlt, e] at hr
  rw [← hr, wsRun, hs]
structure WSS where
  c : WSt
  la : Addr
  vs : List Value
  k : Nat
  tb : Tok
  tn : Tok
  tt : Tok
noncomputable def WsEs (w : World) (es : List DictEntry) (x : Str) (tx : Tok) (c : WSt) (T : Addr) : Prop :=
  ∃ (t1 t2 t3 t4 t5 tn tt : Tok) (bs : Value), es = [⟨PyData.keyHash w.params (Str.ofString "raw"), .str (Str.ofString "raw") t1, .str x tx⟩, ⟨PyData.keyHash w.params (Str.ofString "n"), .str (Str.ofString "n") t2, .int c.n tn⟩,
    ⟨PyData.keyHash w.params (Str.ofString "nt"), .str (Str.ofString "nt") t3, .int c.nt tt⟩, ⟨PyData.keyHash w.params (Str.ofString "norm"), .str (Str.ofString "norm") t4, .ref T⟩, ⟨PyData.keyHash w.params (Str.ofString "is_simple"), .str (Str.ofString "is_simple") t5, bs⟩]
noncomputable def wsOf (x : Str) : WSt := wsRun x.cps.toList ⟨[], 0, 0, 0⟩
section
local macro_rules | `(tactic| walk_at "setAttr ref") => `(tactic| (k_here; (with_reducible show wpAny _ _ (setAttr _ (Str.ofString "norm") _) _ _ _); (fail_if_success (with_reducible (have hh9 : (9 : Nat) = 9 + 0 := by assumption))); refine Hold.out ?_))
set_option maxHeartbeats 4000000 in
theorem ws_c (w : World) (loose : List Str) (mean : ExcName → Option Value) (mg mb : Str → Option Value) (news : List (Addr × Obj)) (x : Str) (tx : Tok) (hl : x.length ≤ 100) :
   CT w loose mean mg mb 176 [.str x tx] news 2 (fun h₀ L m tk Q => ∀ h' tk' ix dx T D vs es k tb, Fr h₀ L h' m → News h₀ L h' ((T, { cls := .type "tuple", data := .seq #[.ref D, .int (wsOf x).b tb] }) :: (D, { cls := .type "tuple", data := .seq vs.toArray }) :: (ix, instObj 176 dx) :: (dx, dictOf es k) :: news) →
     WsEs w es x tx (wsOf x) T → IntsAre vs (wsOf x).cs → (wsOf x).cs.length ≤ 100 → 0 ≤ (wsOf x).b → (wsOf x).b ≤ 100 → Q (.ref ix) h' tk') := by
  unfold CT
  intro dp un gd cn cs a ccd cl outer A₀ base h₀ L m s Q E hB hF hK hN hT hk hd hu hret
  k_dflt (refine call_cls (kw := []) hF hK hN (by rfl) (by rfl) (by rfl) ?_)
  intro ix dx h1 F1 N1 l1 l2
  have hx1 : ix ≠ dx := Nat.ne_of_gt l2
  have hx2 : ∀ p ∈ news, p.1 ≠ dx := ne_of_lts l1
  k_dflt cell_enter
  k_steps
  refine Hold.mk ?_
  rename_i tkR htR u9 tkS htS Dt u8 lD u7 u6 u5 tkT htT la u4 lA u3 tkU htU u2 u1 u0 F2 N2 tkV htV
  obtain ⟨tl, htl, N3⟩ : ∃ tl, tl = _ ∧ News _ _ _ ((la, W.listOf #[] 0) :: tl) := ⟨_, rfl, N2⟩
  refine' x_str1 (σ := WSS) (fun c => (c.la, W.listOf c.vs.toArray c.k) :: tl) (fun c => [("self", .ref ix), ("S", .str (Str.ofString " ") 432), ("T", .str (Str.ofString "\t") 433), ("count", .ref c.la), ("b", .int c.c.b c.tb), ("n", .int c.c.n c.tn), ("nt", .int c.c.nt c.tt)])
    (fun i c => IntsAre c.vs c.c.cs ∧ 0 ≤ c.c.b ∧ c.c.b ≤ i ∧ c.c.cs.length ≤ i ∧ (∀ p ∈ tl, p.1 ≠ c.la) ∧ wsRun (x.cps.toList.drop i) c.c = wsRun x.cps.toList ⟨[], 0, 0, 0⟩) ⟨⟨[], 0, 0, 0⟩, la, [], 0, _, _, _⟩ (by rfl) rfl rfl F2 N3 ?hk ?hP ?turn ?done
  case hk => exact fa_cons (by with_unfolding_all rfl) (fa_cons (by with_unfolding_all rfl) (fa_cons (by with_unfolding_all rfl) (fa_cons (by with_unfolding_all rfl) (fa_cons (by with_unfolding_all rfl) (fa_cons (by with_unfolding_all rfl) (fa_one (by with_unfolding_all rfl)))))))
  case hP =>
    refine ⟨.nil, Int.le_refl 0, by (try dsimp only); omega, Nat.zero_le _, ?_, rfl⟩
    subst htl
    exact nes_of lA
  case turn =>
    rintro ⟨⟨cs', b, n, nt⟩, la', vs, k, tb, tn, tt⟩ i ch t m₁ h tk I oI hi hc hits ho lF lN
    dsimp only at hc lN ho lF
    obtain ⟨hvs, hb0, hbi, hcl, hol, hrun⟩ := hc
    have hilt : i < x.cps.size := (Array.getElem?_eq_some_iff.mp hi).1
    have hxl : x.cps.size ≤ 100 := hl
    have hvl := hvs.length
    have hIla : I ≠ la' := (ho _ (List.mem_cons_self ..)).symm
    clear F2 N2 N3
    have hi' : x.cps.toList[i]? = some ch := by simpa using hi
    (try ((show wpAny _ _ _ _ _ _); k_fold))
    k_steps
    · refine TEnd.intro (⟨⟨cs', b + 1, n + 1, nt⟩, la', vs, k, _, _, _⟩ : WSS) (by assumption) (by assumption) (by intro q hq; rw [List.mem_singleton.mp hq]; k_mem) (by intro p hp; exact List.mem_cons_of_mem _ hp) (by intro p hp q hq; rw [List.mem_singleton.mp hq]; exact .inl (ho p hp)) (by exact fa_cons (by with_unfolding_all rfl) (fa_cons (by with_unfolding_all rfl) (fa_cons (by with_unfolding_all rfl) (fa_cons (by with_unfolding_all rfl) (fa_cons (by with_unfolding_all rfl) (fa_cons (by with_unfolding_all rfl) (fa_one (by with_unfolding_all rfl)))))))) ?_
      have h32 := one_sp.mp (by assumption)
      exact ⟨hvs, by (try dsimp only); omega, by (try dsimp only); omega, by (try dsimp only); omega, hol, wsRun_step hi' hrun (by rw [h32]; rfl)⟩
    · have h9 := one_tab.mp (by assumption)
      have hle : (cs'.length : Int) ≤ b := by omega
      (rename Fr _ _ _ _ => F9); (rename News _ _ _ _ => N9); (rename IntsAre _ _ => hset)
      rename_i D ws q1 lD hI q2 q3 q4 tq q5 hlen hsum q6 q7 q8 q9 q10
      refine TEnd.intro (⟨⟨(cs' ++ (List.replicate (b - vs.length + 1).toNat [0]).flatten).set b.toNat ((cs' ++ (List.replicate (b - vs.length + 1).toNat [0]).flatten).getD b.toNat 0 + 1), 0, n + 1, nt + 1⟩, D, _, _, _, _, _⟩ : WSS) F9 N9 (by intro q hq; rw [List.mem_singleton.mp hq]; k_mem) (by
        intro p hp
        rcases List.mem_cons.mp hp with rfl | hp
        · exact List.mem_cons_self ..
        (repeat (first | exact hp | apply List.mem_cons_of_mem))) (by
        intro p hp q hq; rw [List.mem_singleton.mp hq]
        rcases List.mem_cons.mp hp with rfl | hp
        · exact .inl (ne_ltR lD (by k_mem))
        · exact .inl (ho p (List.mem_cons_of_mem _ hp))) (by exact fa_cons (by with_unfolding_all rfl) (fa_cons (by with_unfolding_all rfl) (fa_cons (by with_unfolding_all rfl) (fa_cons (by with_unfolding_all rfl) (fa_cons (by with_unfolding_all rfl) (fa_cons (by with_unfolding_all rfl) (fa_one (by with_unfolding_all rfl)))))))) ?_
      refine ⟨hset, Int.le_refl 0, by (try dsimp only); omega, by (try dsimp only); rw [hlen, List.length_append]; omega, (by k_all), wsRun_step hi' hrun ?_⟩
      rw [h9]
      simp only [wsStep]
      rw [if_neg (by decide), if_pos trivial, if_pos hle, hvl]
    · have h9 := one_tab.mp (by assumption)
      have hnle : ¬ (cs'.length : Int) ≤ b := by omega
      (rename Fr _ _ _ _ => F9); (rename News _ _ _ _ => N9); (rename IntsAre _ _ => hset)
      refine TEnd.intro (⟨⟨cs'.set b.toNat (cs'.getD b.toNat 0 + 1), 0, n + 1, nt + 1⟩, la', _, k, _, _, _⟩ : WSS) F9 N9 (by intro q hq; rw [List.mem_singleton.mp hq]; k_mem) (by intro p hp; exact List.mem_cons_of_mem _ hp) (by
        intro p hp q hq; rw [List.mem_singleton.mp hq]
        rcases List.mem_cons.mp hp with rfl | hp
        · exact .inl hIla.symm
        · exact .inl (ho p (List.mem_cons_of_mem _ hp))) (by exact fa_cons (by with_unfolding_all rfl) (fa_cons (by with_unfolding_all rfl) (fa_cons (by with_unfolding_all rfl) (fa_cons (by with_unfolding_all rfl) (fa_cons (by with_unfolding_all rfl) (fa_cons (by with_unfolding_all rfl) (fa_one (by with_unfolding_all rfl)))))))) ?_
      refine ⟨hset, Int.le_refl 0, by (try dsimp only); omega, by (try dsimp only); rw [List.length_set]; omega, hol, wsRun_step hi' hrun ?_⟩
      rw [h9]
      simp only [wsStep]
      rw [if_neg (by decide), if_pos trivial, if_neg hnle]
    · have hn1 : ¬ ch = 32 := fun e => by have := one_sp.mpr e; simp_all
      have hn2 : ¬ ch = 9 := fun e => by have := one_tab.mpr e; simp_all
      have hF := wsRun_stop hi' hrun (by simp only [wsStep]; rw [if_neg hn1, if_neg hn2])
      subst htl
      have hz1 : la' ≠ dx := (hol (dx, _) (List.mem_cons_of_mem _ (List.mem_cons_of_mem _ (List.mem_cons_self ..)))).symm
      have hz2 : I ≠ dx := (ho (dx, _) (List.mem_cons_of_mem _ (List.mem_cons_of_mem _ (List.mem_cons_of_mem _ (List.mem_cons_self ..))))).symm
      have hz3 : Dt ≠ dx := ne_ltR lD (by k_mem)
      k_steps
      refine Hold.mk ?_
      (rename News _ _ _ _ => N20)
      rename_i D1 q1 q2 D2 q3 q4 lp
      have hD1 : D1 ≠ dx := ne_by_cls N20 (List.mem_cons_of_mem _ (List.mem_cons_self ..)) (List.mem_cons_of_mem _ (List.mem_cons_of_mem _ (List.mem_cons_of_mem _ (List.mem_cons_of_mem _ (List.mem_cons_of_mem _ (List.mem_cons_of_mem _ (List.mem_cons_self ..))))))) (by intro e; exact absurd (Value.type.inj e) (by decide))
      have hD2 : D2 ≠ dx := ne_ltR lp (by k_mem)
      have mk9 : (9 : Nat) = 9 + 0 := rfl
      k_steps
      (rename News _ _ _ _ => N30); (rename Fr _ _ _ _ => F30)
      obtain ⟨es, hes, N31⟩ : ∃ es, es = _ ∧ News h₀ L _ ((D2, _) :: (D1, _) :: (I, _) :: (la', _) :: (Dt, _) :: (ix, _) :: (dx, dictOf es _) :: news) := ⟨_, rfl, N30⟩
      have e1 : wsOf x = ⟨cs', b, n, nt⟩ := hF.symm
      refine hret _ _ ix dx D2 D1 vs es 5 tb F30 (news_sub N31 ?_) ?_ (by rw [e1]; exact hvs) (by rw [e1]; show cs'.length ≤ 100; omega) (by rw [e1]; exact hb0) (by rw [e1]; show b ≤ 100; omega)
      · intro p hp
        rw [e1] at hp
        simp only [List.mem_cons] at hp ⊢
        rcases hp with h | h | h | h | h
        · exact .inl h
        · exact .inr (.inl h)
        · exact .inr (.inr (.inr (.inr (.inr (.inl h)))))
        · exact .inr (.inr (.inr (.inr (.inr (.inr (.inl h))))))
        · exact .inr (.inr (.inr (.inr (.inr (.inr (.inr h))))))
      · rw [e1]; exact ⟨_, _, _, _, _, _, _, _, hes⟩
  case done =>
    rintro ⟨⟨cs', b, n, nt⟩, la', vs, k, tb, tn, tt⟩ m₁ h tk hc lF lN
    dsimp only at hc lN lF
    obtain ⟨hvs, hb0, hbi, hcl, hol, hrun⟩ := hc
    have hxl : x.cps.size ≤ 100 := hl
    have hvl := hvs.length
    clear F2 N2 N3
    have hF : wsRun [] ⟨cs', b, n, nt⟩ = wsRun x.cps.toList ⟨[], 0, 0, 0⟩ := by rw [← hrun, List.drop_of_length_le (by simp)]
    subst htl
    have hz1 : la' ≠ dx := (hol (dx, _) (List.mem_cons_of_mem _ (List.mem_cons_of_mem _ (List.mem_cons_self ..)))).symm
    have hz3 : Dt ≠ dx := ne_ltR lD (by k_mem)
    k_steps
    refine Hold.mk ?_
    (rename News _ _ _ _ => N20)
    rename_i D1 q1 q2 D2 q3 q4 lp
    have hD1 : D1 ≠ dx := ne_by_cls N20 (List.mem_cons_of_mem _ (List.mem_cons_self ..)) (List.mem_cons_of_mem _ (List.mem_cons_of_mem _ (List.mem_cons_of_mem _ (List.mem_cons_of_mem _ (List.mem_cons_of_mem _ (List.mem_cons_self ..)))))) (by intro e; exact absurd (Value.type.inj e) (by decide))
    have hD2 : D2 ≠ dx := ne_ltR lp (by k_mem)
    have mk9 : (9 : Nat) = 9 + 0 := rfl
    k_steps
    (rename News _ _ _ _ => N30); (rename Fr _ _ _ _ => F30)
    obtain ⟨es, hes, N31⟩ : ∃ es, es = _ ∧ News h₀ L _ ((D2, _) :: (D1, _) :: (la', _) :: (Dt, _) :: (ix, _) :: (dx, dictOf es _) :: news) := ⟨_, rfl, N30⟩
    have e1 : wsOf x = ⟨cs', b, n, nt⟩ := hF.symm
    refine hret _ _ ix dx D2 D1 vs es 5 tb F30 (news_sub N31 ?_) ?_ (by rw [e1]; exact hvs) (by rw [e1]; show cs'.length ≤ 100; omega) (by rw [e1]; exact hb0) (by rw [e1]; show b ≤ 100; omega)
    · intro p hp
      rw [e1] at hp
      simp only [List.mem_cons] at hp ⊢
      rcases hp with h | h | h | h | h
      · exact .inl h
      · exact .inr (.inl h)
      · exact .inr (.inr (.inr (.inr (.inl h))))
      · exact .inr (.inr (.inr (.inr (.inr (.inl h)))))
      · exact .inr (.inr (.inr (.inr (.inr (.inr h)))))
    · rw [e1]; exact ⟨_, _, _, _, _, _, _, _, hes⟩
end

noncomputable def ilS (cs : List Int) (z : Int) : Nat → Int
  | 0 => 0
  | j + 1 => ilS cs z j + (z + (j : Int)).fdiv z * cs.getD (z + (j : Int)).toNat 0
noncomputable def indS (x : Str) (z : Int) : Int := (wsOf x).b + z * (ilS (wsOf x).cs z ((wsOf x).cs.length - z).toNat + (wsOf x).nt)
section
variable {prog : Program} {w : World} {A : Around} {E : Value → Shared → Prop} {s : Shared} {h₀ : Heap} {L : Addr} {m : Str → Option Value} {news : List (Addr × Obj)}
theorem lenT {l : Addr} {vs : List Value} {Q : Value → Shared → Prop} (N : News h₀ L s.heap news) (hm : (l, ({ cls := .type "tuple", data := .seq vs.toArray } : Obj)) ∈ news) (hz : vs.length < 1048576)
   (h : ∀ t tk, Q (.int vs.length t) { s with toks := tk }) : wpAny (model prog w) A (call (.builtin "len") [.ref l]) Q E s := by
  refine len_tuple (News.isTup N hm) (by rw [List.size_toArray]; omega) ?_
  rw [List.size_toArray]
  exact h _ _
end
theorem fdiv_in {z i : Int} (h1 : 1 ≤ z) (h2 : 0 ≤ i) : 0 ≤ i.fdiv z ∧ i.fdiv z ≤ i := by
  rw [Int.fdiv_eq_ediv_of_nonneg _ (by omega)]
  exact ⟨Int.ediv_nonneg h2 (by omega), Int.ediv_le_self _ h2⟩
section
local macro_rules | `(tactic| walk_at "call builtin:len") => `(tactic| (k_here; (with_reducible show wpAny _ _ (call (Value.builtin "len") [Value.ref _]) _ _ _); k_dflt (refine lenT (by assumption) (by k_mem) (by omega) ?_); intro t tk))
local macro_rules | `(tactic| walk_at "call type:range") => `(tactic| (k_here; (rename Fr _ _ _ _ => F'); (rename News _ _ _ _ => N'); (with_unfolding_all refine range2_rows F' N' ?_); k_dflt (intro hh tkr t1 u1 v1 hrg F2 N2 hke)))
local macro_rules | `(tactic| walk_at "subscriptTail") => `(tactic| (k_here; (with_reducible show wpAny _ _ (subscriptTail _ _ (Value.ref _) (Value.int _ _)) _ _ _); (with_unfolding_all refine' item_anyT (News.isTup (by assumption) (by k_mem)) (by with_reducible assumption) (by (try dsimp only); omega) (by (try dsimp only); omega) (by (try dsimp only); omega) ?_); intro t'))
local macro_rules | `(tactic| walk_at "binaryOp Mult int int") => `(tactic| (k_here; (with_unfolding_all refine PyProof.Rows.mul_int ?_ (PySem.IntMulOk.of_left (PySem.intBits_le_64 (by omega) (by omega))))))
set_option maxHeartbeats 4000000 in
theorem il_c (w : World) (loose : List Str) (mean : ExcName → Option Value) (mg mb : Str → Option Value) (news : List (Addr × Obj)) (x : Str) (tx : Tok) (ix dx T D : Addr) (vs : List Value) (es : List DictEntry) (k : Nat) (tb : Tok) (z : Int) (tz : Tok)
   (h1 : (T, { cls := .type "tuple", data := .seq #[.ref D, .int (wsOf x).b tb] }) ∈ news) (h2 : (D, { cls := .type "tuple", data := .seq vs.toArray }) ∈ news) (h3 : (ix, instObj 176 dx) ∈ news) (h4 : (dx, dictOf es k) ∈ news)
   (hes : WsEs w es x tx (wsOf x) T) (hvs : IntsAre vs (wsOf x).cs) (hcl : (wsOf x).cs.length ≤ 100) (hb0 : 0 ≤ (wsOf x).b) (hb1 : (wsOf x).b ≤ 100) (hcs : ∀ i : Nat, 0 ≤ (wsOf x).cs.getD i 0 ∧ (wsOf x).cs.getD i 0 ≤ 100) (hnt0 : 0 ≤ (wsOf x).nt) (hnt1 : (wsOf x).nt ≤ 100) (hz1 : 1 ≤ z) (hz4 : z ≤ 4) :
   CT w loose mean mg mb 145 [.ref ix, .int z tz] news 1 (fun h₀ L m tk Q => ∀ h' tk' t, Fr h₀ L h' m → News h₀ L h' news → Q (.int (indS x z) t) h' tk') := by
  unfold CT
  intro dp un gd cn cs a ccd cl outer A₀ base h₀ L m s Q E hB hF hK hN hT hk hd hu hret
  obtain ⟨t1, t2, t3, t4, t5, tn, tt, bs, rfl⟩ := hes
  generalize hwe : wsOf x = c at *
  obtain ⟨cs', b, n, nt⟩ := c
  dsimp only at *
  have hvl := hvs.length
  refine wpAny_call ?_
  k_dflt cell_enter
  k_steps
  refine Hold.mk ?_
  (rename Fr _ _ _ _ => F2); (rename News _ _ _ _ => N2); (rename IsRange _ _ _ _ _ _ _ _ => hrg)
  refine' x_range (n := (vs.length - z : Int).toNat) (σ := Int × Tok) (fun _ => news) (fun c => [("tabsize", .int z tz), ("count", .ref D), ("trailing", .int b tb), ("self", .ref ix), ("il", .int c.1 c.2)]) (fun i c => c.1 = ilS cs' z i) (0, _) (by rfl) hrg ?hsm ?hn rfl rfl F2 (news_sub N2 (by intro p hp; k_mem)) ?hk rfl ?turn ?done
  case hsm => exact small_one (by omega) (by omega) (by omega) (by omega)
  case hn => rw [rangeSize_nat]
  case hk => exact fa_cons (by with_unfolding_all rfl) (fa_cons (by with_unfolding_all rfl) (fa_cons (by with_unfolding_all rfl) (fa_cons (by with_unfolding_all rfl) (fa_one (by with_unfolding_all rfl)))))
  case turn =>
    rintro ⟨y, t⟩ i u m₁ h tk I oI hi hc hcl' ho lF lN
    dsimp only at hc
    have hfd := fdiv_in (i := z + (i : Int)) hz1 (by omega)
    have hcc := hcs (z + (i : Int)).toNat
    clear F2 N2
    (try ((show wpAny _ _ _ _ _ _); k_fold))
    k_steps
    refine TEnd.intro (_, _) (by assumption) (by assumption) (by intro q hq; rw [List.mem_singleton.mp hq]; k_mem) (by intro p hp; k_mem) (by intro p hp q hq; rw [List.mem_singleton.mp hq]; exact .inl (ho p hp)) (by exact fa_cons (by with_unfolding_all rfl) (fa_cons (by with_unfolding_all rfl) (fa_cons (by with_unfolding_all rfl) (fa_cons (by with_unfolding_all rfl) (fa_one (by with_unfolding_all rfl)))))) ?_
    dsimp only
    rw [hc]; rfl
  case done =>
    rintro ⟨y, t⟩ m₁ h tk hc lF lN
    dsimp only at hc
    clear F2 N2
    k_steps
    refine Eq.mp (congrArg (fun y => Q (Value.int y _) _) ?_) (hret _ _ _ (by assumption) (by assumption))
    unfold indS
    rw [hwe, hc, hvl]
end
structure G where
  ps : List Int
  d0 : List (Int × Int)
  d1 : List (Int × Int)
  d2 : List (Int × Int)
  here : Int
noncomputable def newP (W : List Int) (p : Int) : Int := W.getD (Int.fmod ((W.idxOf p : Nat) + 1) W.length).toNat 0
structure Gd where
  W0 : List Int
  W1 : List Int
  W2 : List Int
  L0 : Int
  L1 : Int
  L2 : Int
noncomputable def Gd.row (g : Gd) (h : Int) : List Int := if h = 0 then g.W0 else if h = 1 then g.W1 else g.W2
noncomputable def Gd.lv (g : Gd) (h : Int) : Int := if h = 0 then g.L0 else if h = 1 then g.L1 else g.L2
noncomputable def G.dd (c : G) : List (Int × Int) := if c.here = 0 then c.d0 else if c.here = 1 then c.d1 else c.d2
noncomputable def G.pp (c : G) : Int := c.ps.getD c.here.toNat 0
noncomputable def stepG (g : Gd) (c : G) : G :=
  let n := newP (g.row c.here) c.pp
  let d := addS c.dd [(n, g.lv c.here)]
  { ps := c.ps.set c.here.toNat n, d0 := if c.here = 0 then d else c.d0, d1 := if c.here = 1 then d else c.d1, d2 := if c.here = 2 then d else c.d2, here := n }
noncomputable def okG (g : Gd) (c : G) : Bool :=
  c.ps.length == 3 && decide (0 ≤ c.here) && decide (c.here ≤ 2) && (g.row c.here).contains c.pp && decide ((g.row c.here).length ≤ 4) && (g.row c.here).all (fun x => decide (0 ≤ x) && decide (x ≤ 3)) && decide (c.dd.length ≤ 50) && !(eqS (addS c.dd [(newP (g.row c.here) c.pp, g.lv c.here)]) c.dd) && ((g.row c.here).getD (Int.fmod (((g.row c.here).idxOf c.pp : Nat) + 1) (g.row c.here).length).toNat 0 == ((g.row c.here) ++ (g.row c.here)).getD ((g.row c.here).idxOf c.pp + 1) 0)
noncomputable def runG (g : Gd) : Nat → G → Option G
  | 0, c => some c
  | n + 1, c => if c.here = 3 then some c else if okG g c then runG g n (stepG g c) else none
structure GS where
  c : G
  pv : List Value
  pk : Nat
  ht : Tok
  f0 : Addr
  f1 : Addr
  f2 : Addr
  p0 : Obj
  p1 : Obj
  p2 : Obj
  w0 : List (Int × Value)
  w1 : List (Int × Value)
  w2 : List (Int × Value)
  kc : Nat
theorem ite_idict {w : World} {c : Prop} [Decidable c] {o o' : Obj} {k k' : List (Int × Value)} (h : IDict w o k) (h' : IDict w o' k') : IDict w (if c then o else o') (if c then k else k') := by split <;> assumption
theorem ite_dare {c : Prop} [Decidable c] {k k' : List (Int × Value)} {d d' : List (Int × Int)} (h : DAre k d) (h' : DAre k' d') : DAre (if c then k else k') (if c then d else d') := by split <;> assumption
theorem ite_ne {c : Prop} [Decidable c] {a b x : Addr} (h : a ≠ x) (h' : b ≠ x) : (if c then a else b) ≠ x := by split <;> assumption
theorem ite_sys {c : Prop} [Decidable c] {a b : Addr} (h : (a == sysModules) = false) (h' : (b == sysModules) = false) : ((if c then a else b) == sysModules) = false := by split <;> assumption
theorem ite_mem {c : Prop} [Decidable c] {a b : Addr} {o o' : Obj} {l : List (Addr × Obj)} (h : (a, o) ∈ l) (h' : (b, o') ∈ l) : ((if c then a else b), (if c then o else o')) ∈ l := by split <;> assumption
theorem ite_nx {c : Prop} [Decidable c] {a b x : Addr} (h : x ≠ a) (h' : x ≠ b) : x ≠ (if c then a else b) := by split <;> assumption
structure GI (w : World) (g : Gd) (gF : G) (τ : Nat → Int) (cl pl : Addr) (news : List (Addr × Obj)) (i : Nat) (c : GS) : Prop where
  run : runG g (64 - i) c.c = some gF
  ps : IntsT τ (fun t => t ≠ 0) c.pv c.c.ps
  i0 : IDict w c.p0 c.w0
  i1 : IDict w c.p1 c.w1
  i2 : IDict w c.p2 c.w2
  a0 : DAre c.w0 c.c.d0
  a1 : DAre c.w1 c.c.d1
  a2 : DAre c.w2 c.c.d2
  s0 : (c.f0 == sysModules) = false
  s1 : (c.f1 == sysModules) = false
  s2 : (c.f2 == sysModules) = false
  c0 : c.f0 ≠ cl
  c1 : c.f1 ≠ cl
  c2 : c.f2 ≠ cl
  q0 : c.f0 ≠ pl
  q1 : c.f1 ≠ pl
  q2 : c.f2 ≠ pl
  sep : ∀ p ∈ news, p.1 ≠ c.f0 ∧ p.1 ≠ c.f1 ∧ p.1 ≠ c.f2
abbrev ledG (cl pl : Addr) (news : List (Addr × Obj)) (c : GS) : List (Addr × Obj) := (cl, W.listOf #[.ref c.f0, .ref c.f1, .ref c.f2] c.kc) :: (pl, W.listOf c.pv.toArray c.pk) :: (c.f0, c.p0) :: (c.f1, c.p1) :: (c.f2, c.p2) :: news
abbrev psG (wl cl lv pl : Addr) (c : GS) : List (Str × Value) := [("ways", .ref wl), ("calls", .ref cl), ("level", .ref lv), ("here", .int c.c.here c.ht), ("posts", .ref pl)]
inductive GSel (w : World) (τ : Nat → Int) (g : Gd) (here : Int) (r0 r1 r2 f0 f1 f2 : Addr) (dd : List (Int × Int)) (FX : List (Addr × Obj)) : Prop
  | intro (r : Addr) (vq : List Value) (kq : Nat) (f : Addr) (p : Obj) (wq : List (Int × Value)) (h1 : (#[Value.ref r0, .ref r1, .ref r2] : Array Value).toList[here.toNat]? = some (.ref r)) (h2 : (r, W.listOf vq.toArray kq) ∈ FX)
    (h3 : IntsT τ (fun t => t ≠ 0) vq (g.row here)) (h4 : (#[Value.ref f0, .ref f1, .ref f2] : Array Value).toList[here.toNat]? = some (.ref f)) (h5 : (f, p) ∈ FX) (h6 : IDict w p wq) (h7 : DAre wq dd) (h8 : (f == sysModules) = false) : GSel w τ g here r0 r1 r2 f0 f1 f2 dd FX
theorem gsel_of {w : World} {τ : Nat → Int} {g : Gd} {here : Int} {ps : List Int} {a0 a1 a2 : List (Int × Int)} {r0 r1 r2 f0 f1 f2 : Addr} {FX : List (Addr × Obj)} {v0 v1 v2 : List Value} {k0 k1 k2 : Nat} {p0 p1 p2 : Obj} {w0 w1 w2 : List (Int × Value)} (l : 0 ≤ here) (u : here ≤ 2)
    (m0 : (r0, W.listOf v0.toArray k0) ∈ FX) (m1 : (r1, W.listOf v1.toArray k1) ∈ FX) (m2 : (r2, W.listOf v2.toArray k2) ∈ FX) (x0 : IntsT τ (fun t => t ≠ 0) v0 g.W0) (x1 : IntsT τ (fun t => t ≠ 0) v1 g.W1) (x2 : IntsT τ (fun t => t ≠ 0) v2 g.W2)
    (n0 : (f0, p0) ∈ FX) (n1 : (f1, p1) ∈ FX) (n2 : (f2, p2) ∈ FX) (i0 : IDict w p0 w0) (i1 : IDict w p1 w1) (i2 : IDict w p2 w2) (d0 : DAre w0 a0) (d1 : DAre w1 a1) (d2 : DAre w2 a2) (s0 : (f0 == sysModules) = false) (s1 : (f1 == sysModules) = false) (s2 : (f2 == sysModules) = false) :
    GSel w τ g here r0 r1 r2 f0 f1 f2 (G.dd ⟨ps, a0, a1, a2, here⟩) FX := by
  obtain rfl | rfl | rfl : here = 0 ∨ here = 1 ∨ here = 2 := by omega
  · exact ⟨r0, v0, k0, f0, p0, w0, rfl, m0, x0, rfl, n0, i0, d0, s0⟩
  · exact ⟨r1, v1, k1, f1, p1, w1, rfl, m1, x1, rfl, n1, i1, d1, s1⟩
  · exact ⟨r2, v2, k2, f2, p2, w2, rfl, m2, x2, rfl, n2, i2, d2, s2⟩
theorem set_three {here : Int} {a b c n : Addr} (l : 0 ≤ here) (u : here ≤ 2) : ([Value.ref a, .ref b, .ref c] : List Value).set here.toNat (.ref n) = [.ref (if here = 0 then n else a), .ref (if here = 1 then n else b), .ref (if here = 2 then n else c)] := by
  obtain rfl | rfl | rfl : here = 0 ∨ here = 1 ∨ here = 2 := by omega
  all_goals rfl
theorem lv_item {g : Gd} {lr : List Int} {here : Int} (l : 0 ≤ here) (u : here ≤ 2) : (g.L0 :: g.L1 :: g.L2 :: lr).getD here.toNat 0 = g.lv here := by
  obtain rfl | rfl | rfl : here = 0 ∨ here = 1 ∨ here = 2 := by omega
  all_goals rfl
structure OkG (g : Gd) (ps : List Int) (dd : List (Int × Int)) (here : Int) : Prop where
  len : ps.length = 3
  lo : 0 ≤ here
  hi : here ≤ 2
  mem : ps.getD here.toNat 0 ∈ g.row here
  few : (g.row here).length ≤ 4
  small : ∀ y ∈ g.row here, smallInt y = true
  dl : dd.length ≤ 50
  neq : eqS (addS dd [(newP (g.row here) (ps.getD here.toNat 0), g.lv here)]) dd = false
  same : (g.row here).getD (Int.fmod (((g.row here).idxOf (ps.getD here.toNat 0) : Nat) + 1) (g.row here).length).toNat 0 = ((g.row here) ++ (g.row here)).getD ((g.row here).idxOf (ps.getD here.toNat 0) + 1) 0
theorem okG_is {g : Gd} {ps : List Int} {a0 a1 a2 : List (Int × Int)} {here : Int} (hok : okG g ⟨ps, a0, a1, a2, here⟩ = true) : OkG g ps (G.dd ⟨ps, a0, a1, a2, here⟩) here := by
  simp only [okG, Bool.and_eq_true, beq_iff_eq, decide_eq_true_eq, Bool.not_eq_true', List.contains_iff_mem] at hok
  obtain ⟨⟨⟨⟨⟨⟨⟨⟨hpl3, hh0⟩, hh2⟩, hmem⟩, hlw⟩, hall⟩, hdl⟩, hneq⟩, hsame⟩ := hok
  refine ⟨hpl3, hh0, hh2, hmem, hlw, fun y hy => ?_, hdl, hneq, hsame⟩
  have := List.all_eq_true.mp hall y hy
  simp only [Bool.and_eq_true, decide_eq_true_eq] at this
  simp only [smallInt, Bool.and_eq_true, decide_eq_true_eq]; omega
theorem run_step {g : Gd} {i : Nat} {c gF : G} (hi : i < 64) (h3 : ¬ c.here = 3) (h : runG g (64 - i) c = some gF) : okG g c = true ∧ runG g (64 - (i + 1)) (stepG g c) = some gF := by
  obtain ⟨j, hj⟩ : ∃ j, 64 - i = j + 1 := ⟨63 - i, by omega⟩
  have hj' : 64 - (i + 1) = j := by omega
  rw [hj] at h
  unfold runG at h
  rw [if_neg h3] at h
  split at h
  · exact ⟨by assumption, by rw [hj']; exact h⟩
  · cases h
theorem run_stop {g : Gd} {i : Nat} {c gF : G} (h3 : c.here = 3) (h : runG g (64 - i) c = some gF) : c = gF := by
  unfold runG at h
  split at h
  · exact Option.some.inj h
  · rw [if_pos h3] at h; exact Option.some.inj h
theorem run_end {g : Gd} {c gF : G} (h : runG g (64 - 64) c = some gF) : c = gF := Option.some.inj h
section
local macro_rules | `(tactic| walk_at "setItem ref int") => `(tactic| (k_here; (with_reducible show wpAny _ _ (setItem (Value.ref _) (Value.int _ _) (Value.ref _)) _ _ _); refine Hold.out ?_))
local macro_rules | `(tactic| walk_at "subscriptTail") => `(tactic| k_dflt (k_here; (with_reducible show wpAny _ _ (subscriptTail _ _ (Value.ref _) (Value.int _ _)) _ _ _); (with_unfolding_all refine item_litX (by assumption) (by k_mem) (by omega) (by omega) (by with_reducible assumption) ?_)))
local macro_rules | `(tactic| walk_at "subscriptTail") => `(tactic| k_dflt (k_here; (with_reducible show wpAny _ _ (subscriptTail _ _ (Value.ref _) (Value.int _ _)) _ _ _); (with_unfolding_all refine item_intsT (by assumption) (by k_mem) (by with_reducible assumption) (by (try dsimp only); omega) (by (try dsimp only); (try simp only [List.length_append]); omega) (by (try dsimp only); omega) ?_); intro t' ht1 ht2))
local macro_rules | `(tactic| walk_at "eval Dict") => `(tactic| k_dflt (k_here; (refine kdn_eval (knd := PySem.intKind _ _) (by assumption) (by assumption) (Top.nolimit (by assumption)) rfl rfl (List.cons_ne_nil _ _) (by decide) ?_); intro d' h' o' F' N' l1 lo' hd'))
local macro_rules | `(tactic| walk_at "KdnMade") => `(tactic| k_dflt (k_here; (refine kdn_made_int (by assumption) (by assumption) (UpdF.head (ne_of_lts (by assumption))) (by assumption) rfl (by simp [intKeyPairs]) ?_); intro h' o' F' N' hd'; (try dsimp only at N')))
local macro_rules | `(tactic| walk_at "compareOp Eq ref ref") => `(tactic| k_dflt (k_here; (refine eq_dicts (by assumption) (by k_mem) (by k_mem) (by assumption) (by assumption) (by assumption) (by assumption) (by assumption) (by assumption) (by simp only [Around.deeper_units, ktrTop]; omega) ?_)))
local macro_rules | `(tactic| walk_at "call builtin:list.index") => `(tactic| k_dflt (k_here; (refine index_L (by assumption) (by k_mem) (IntsT.are (by with_reducible assumption)) (by assumption) (by omega) ?_); intro t' tk'))
local macro_rules | `(tactic| walk_at "call ref") => `(tactic| walk_at "y0")
set_option maxHeartbeats 4000000 in
theorem guest_c (w : World) (loose : List Str) (mean : ExcName → Option Value) (mg mb : Str → Option Value) (news : List (Addr × Obj)) (wl r0 r1 r2 nl lv cl d0 d1 d2 : Addr) (kw k0 k1 k2 kn kl kc : Nat) (v0 v1 v2 vn vl : List Value)
   (o0 o1 o2 : Obj) (kv0 kv1 kv2 : List (Int × Value)) (g : Gd) (e0 e1 e2 : List (Int × Int)) (xs : List Str) (τn : Nat → Str) (τ : Nat → Int) (B : Nat) (lr : List Int) (start : Int) (ts : Tok) (gF : G)
   (hwl : (wl, W.listOf #[.ref r0, .ref r1, .ref r2] kw) ∈ news) (hr0 : (r0, W.listOf v0.toArray k0) ∈ news) (hr1 : (r1, W.listOf v1.toArray k1) ∈ news) (hr2 : (r2, W.listOf v2.toArray k2) ∈ news)
   (hnl : (nl, W.listOf vn.toArray kn) ∈ news) (hlv : (lv, W.listOf vl.toArray kl) ∈ news)
   (hv0 : IntsT τ (fun t => t ≠ 0 ∧ t < B) v0 g.W0) (hv1 : IntsT τ (fun t => t ≠ 0 ∧ t < B) v1 g.W1) (hv2 : IntsT τ (fun t => t ≠ 0 ∧ t < B) v2 g.W2)
   (hvl : IntsAre vl (g.L0 :: g.L1 :: g.L2 :: lr)) (hvn : StrsT τn (fun t => t ≠ 0 ∧ t < B) vn xs) (hlen : xs.length ≤ 3) (hg : ∀ x ∈ xs, GoodN x) (hin : ∀ x ∈ xs, up x ∈ longN xs)
   (hd0 : IDict w o0 kv0) (hd1 : IDict w o1 kv1) (hd2 : IDict w o2 kv2) (he0 : DAre kv0 e0) (he1 : DAre kv1 e1) (he2 : DAre kv2 e2) (hm0 : (d0 == sysModules) = false) (hm1 : (d1 == sysModules) = false) (hm2 : (d2 == sysModules) = false)
   (hsep : ∀ p ∈ news, p.1 ≠ d0 ∧ p.1 ≠ d1 ∧ p.1 ≠ d2) (hne : ∀ p ∈ (d0, o0) :: (d1, o1) :: (d2, o2) :: news, p.1 ≠ cl) (hrun : runG g 64 ⟨readS xs, e0, e1, e2, start⟩ = some gF) (hInR : InR gF.ps) :
   CT w loose mean mg mb 234 [.ref wl, .ref nl, .ref cl, .ref lv, .int start ts] ((cl, W.listOf #[.ref d0, .ref d1, .ref d2] kc) :: (d0, o0) :: (d1, o1) :: (d2, o2) :: news) 3
     (fun h₀ L m tk Q => B ≤ tk ∧ ∀ h' tk' r us k τ' f0 f1 f2 p0 p1 p2 kc' w0 w1 w2, Fr h₀ L h' m → News h₀ L h' ((r, W.listOf us.toArray k) :: (cl, W.listOf #[.ref f0, .ref f1, .ref f2] kc') :: (f0, p0) :: (f1, p1) :: (f2, p2) :: news) →
       (∀ p ∈ (f0, p0) :: (f1, p1) :: (f2, p2) :: news, p.1 ≠ cl) → (∀ p ∈ news, p.1 < r) → cl < r → StrsT τ' (fun t => t ≠ 0 ∧ t < tk') us (namesS gF.ps) →
       IDict w p0 w0 → IDict w p1 w1 → IDict w p2 w2 → DAre w0 gF.d0 → DAre w1 gF.d1 → DAre w2 gF.d2 → (f0 == sysModules) = false → (f1 == sysModules) = false → (f2 == sysModules) = false → (∀ p ∈ news, p.1 ≠ f0 ∧ p.1 ≠ f1 ∧ p.1 ≠ f2) → Q (.ref r) h' tk') := by
  unfold CT
  intro dp un gd cn cs a ccd cln outer A₀ base h₀ L m s Q E hB hF hK hN hT hk hd hu ⟨hBt, hret⟩
  refine wpAny_call ?_
  k_dflt cell_enter
  k_steps
  refine Hold.mk ?_
  k_dflt (refine wpAny_tok ?_)
  with_unfolding_all refine (read_c w loose mean mg mb _ nl kn vn xs τn B ?_ hvn hlen hg hin) _ _ _ _ _ _ _ _ _ _ _ _ _ _ _ _ _ (by assumption) (by assumption) (by assumption) (by assumption) (by assumption) rfl (by first | ((try dsimp only); omega) | with_unfolding_all decide) (by first | ((try dsimp only); omega) | with_unfolding_all decide) ?_
  (try dsimp only)
  · k_mem
  refine ⟨by (try dsimp only); omega, ?_⟩
  k_dflt (intro h9 tk9 pl pv pk τp F9 N9 lo9 hpv htk9)
  (try dsimp only at htk9)
  k_steps
  refine Hold.mk ?_
  (rename Fr _ _ _ _ => F2); (rename News _ _ _ _ => N2); (rename IsRange _ _ _ _ _ _ _ _ => hrg)
  have hτ0 : ∀ t, (t ≠ 0 ∧ t < B) → t ≠ 0 ∧ (if t < B then τ t else τp t) = τ t := fun t ht => ⟨ht.1, if_pos ht.2⟩
  have hW0 := hv0.mono (R := fun t => t ≠ 0) (σ := fun t => if t < B then τ t else τp t) hτ0
  have hW1 := hv1.mono (R := fun t => t ≠ 0) (σ := fun t => if t < B then τ t else τp t) hτ0
  have hW2 := hv2.mono (R := fun t => t ≠ 0) (σ := fun t => if t < B then τ t else τp t) hτ0
  have hPV := hpv.mono (R := fun t => t ≠ 0) (σ := fun t => if t < B then τ t else τp t) fun t ht => ⟨ht.2.1, if_neg (Nat.not_lt.mpr ht.1)⟩
  generalize (fun t => if t < B then τ t else τp t) = τ2 at hW0 hW1 hW2 hPV
  have hplcl : pl ≠ cl := Nat.ne_of_gt (lo9 (cl, _) (by k_mem))
  have lo9' : ∀ p ∈ news, p.1 < pl := lts1 (lts1 (lts1 (lts1 lo9)))
  have hneN : ∀ p ∈ news, p.1 ≠ cl := nes1 (nes1 (nes1 hne))
  refine' x_range (n := 64) (σ := GS) (ledG cl pl news) (psG wl cl lv pl) (fun i c => GI w g gF τ2 cl pl news i c)
    ⟨⟨readS xs, e0, e1, e2, start⟩, pv, pk, ts, d0, d1, d2, o0, o1, o2, kv0, kv1, kv2, kc⟩ (by rfl) hrg (by decide) (by decide) rfl rfl F2 (news_sub N2 ?hsub) ?hk ?hP ?turn ?done
  case hsub => exact fa_cons mm1 (fa_cons mm0 (fun _ hp => md2 hp))
  case hk => exact fa_cons (by with_unfolding_all rfl) (fa_cons (by with_unfolding_all rfl) (fa_cons (by with_unfolding_all rfl) (fa_cons (by with_unfolding_all rfl) (fa_one (by with_unfolding_all rfl)))))
  case hP => exact { run := hrun, ps := hPV, i0 := hd0, i1 := hd1, i2 := hd2, a0 := he0, a1 := he1, a2 := he2, s0 := hm0, s1 := hm1, s2 := hm2, c0 := hne _ mm0, c1 := hne _ mm1, c2 := hne _ mm2, q0 := Nat.ne_of_lt (lo9 (d0, o0) mm1), q1 := Nat.ne_of_lt (lo9 (d1, o1) mm2), q2 := Nat.ne_of_lt (lo9 (d2, o2) mm3), sep := hsep }
  case turn =>
    rintro ⟨⟨ps, a0, a1, a2, here⟩, pv', pk', ht, f0, f1, f2, p0, p1, p2, w0, w1, w2, kc'⟩ i u m₁ h tk I oI hi hc hcl ho lF lN
    dsimp only [ledG, psG] at lF lN ho
    have hps : IntsT τ2 (fun t => t ≠ 0) pv' ps := hc.ps
    have hIcl : I ≠ cl := (ho _ mm0).symm
    have hIpl : I ≠ pl := (ho _ mm1).symm
    clear F2 N2 hrg hpv hPV
    by_cases h3 : here = 3
    · have e9 := run_stop h3 hc.run
      have e9p : ps = gF.ps := congrArg G.ps e9
      subst h3
      k_steps
      refine Hold.mk ?_
      k_dflt (refine wpAny_tok ?_)
      with_unfolding_all refine (namesT_c w loose mean mg mb _ pl pk' pv' ps ?_ hps.are (e9p ▸ hInR)) _ _ _ _ _ _ _ _ _ _ _ _ _ _ _ _ _ (by assumption) (by assumption) (by assumption) (by assumption) (by assumption) rfl (by first | ((try dsimp only); omega) | with_unfolding_all decide) (by first | ((try dsimp only); omega) | with_unfolding_all decide) ?_
      (try dsimp only)
      · k_mem
      k_dflt (intro h8 tk8 r us kk τr F8 N8 lo8 hus8 htk8)
      k_steps
      (rename Fr _ _ _ _ => F22); (rename News _ _ _ _ => N22); rename_i tkY htkY
      refine hret _ _ r us kk τr f0 f1 f2 p0 p1 p2 kc' w0 w1 w2 F22 (news_sub N22 (fa_cons mm0 (fa_cons mm2 (fun _ hp => md4 hp)))) (fa_cons hc.c0 (fa_cons hc.c1 (fa_cons hc.c2 hneN))) (fun p hp => lo8 p (md6 hp)) (lo8 _ mm1) ?_ hc.i0 hc.i1 hc.i2 ?_ ?_ ?_ hc.s0 hc.s1 hc.s2 hc.sep
      · rw [← e9p]; exact hus8.mono fun z hz => ⟨⟨hz.1, Nat.lt_of_lt_of_le hz.2 (by first | exact htkY | omega)⟩, rfl⟩
      · rw [← e9]; exact hc.a0
      · rw [← e9]; exact hc.a1
      · rw [← e9]; exact hc.a2
    · obtain ⟨hok', hrn2⟩ := run_step hi h3 hc.run
      have K := okG_is hok'
      have hh0 := K.lo
      have hh2 := K.hi
      obtain ⟨FX, hFX⟩ : ∃ FX : List (Addr × Obj), FX = (f0, p0) :: (f1, p1) :: (f2, p2) :: news := ⟨_, rfl⟩
      have mwl : (wl, W.listOf #[.ref r0, .ref r1, .ref r2] kw) ∈ FX := hFX ▸ md3 hwl
      have mlv : (lv, W.listOf vl.toArray kl) ∈ FX := hFX ▸ md3 hlv
      have hFcl : ∀ p ∈ FX, p.1 ≠ cl := hFX ▸ fa_cons hc.c0 (fa_cons hc.c1 (fa_cons hc.c2 hneN))
      have hFpl : ∀ p ∈ FX, p.1 ≠ pl := hFX ▸ fa_cons hc.q0 (fa_cons hc.q1 (fa_cons hc.q2 (nes_of lo9')))
      obtain ⟨r, vq, kq, f, p, wq, hir, mr, hWq, hif, mf, hdq, haq, hsq⟩ : GSel w τ2 g here r0 r1 r2 f0 f1 f2 (G.dd ⟨ps, a0, a1, a2, here⟩) FX := gsel_of hh0 hh2 (hFX ▸ md3 hr0) (hFX ▸ md3 hr1) (hFX ▸ md3 hr2) hW0 hW1 hW2 (hFX ▸ mm0) (hFX ▸ mm1) (hFX ▸ mm2) hc.i0 hc.i1 hc.i2 hc.a0 hc.a1 hc.a2 hc.s0 hc.s1 hc.s2
      rw [← hFX] at lN
      have hmem' := K.mem
      have hlw' := K.few
      have hwq := hWq.length
      have hpl3 := K.len
      have hwpos : 0 < (g.row here).length := List.length_pos_of_mem hmem'
      have hidx : (g.row here).idxOf (ps.getD here.toNat 0) < (g.row here).length := List.idxOf_lt_length_of_mem hmem'
      have hWW := hWq.append hWq
      have hsml := K.small
      k_steps
      · exact absurd (by assumption) h3
      rename_i tpx hpx1 hpx2
      refine Hold.mk ?_
      k_dflt (refine wpAny_tok ?_)
      with_unfolding_all refine (idxI_c w loose mean mg mb _ r kq vq (g.row here) (ps.getD here.toNat 0) _ τ2 ?_ hWq hpx1 hpx2 hsml hmem') _ _ _ _ _ _ _ _ _ _ _ _ _ _ _ _ _ (by assumption) (by assumption) (by assumption) (by assumption) (by assumption) rfl (by first | ((try dsimp only); omega) | with_unfolding_all decide) (by first | ((try dsimp only); omega) | with_unfolding_all decide) ?_
      (try dsimp only)
      · k_mem
      k_dflt (intro h10 tk10 t10 q1 q2 F10 N10 htk10)
      k_steps
      refine Hold.mk ?_
      k_dflt (refine wpAny_tok ?_)
      with_unfolding_all refine (iadd_c w loose mean mg mb _ _ _ _ _) _ _ _ _ _ _ _ _ _ _ _ _ _ _ _ _ _ (by assumption) (by assumption) (by assumption) (by assumption) (by assumption) rfl (by first | ((try dsimp only); omega) | with_unfolding_all decide) (by first | ((try dsimp only); omega) | with_unfolding_all decide) ?_
      (try dsimp only)
      k_dflt (intro h11 tk11 t11 F11 N11 htk11)
      k_steps
      refine Hold.mk ?_
      k_dflt (refine wpAny_tok ?_)
      with_unfolding_all refine (lhint_c w loose mean mg mb _ r kq vq ?_ ?_) _ _ _ _ _ _ _ _ _ _ _ _ _ _ _ _ _ (by assumption) (by assumption) (by assumption) (by assumption) (by assumption) rfl (by first | ((try dsimp only); omega) | with_unfolding_all decide) (by first | ((try dsimp only); omega) | with_unfolding_all decide) ?_
      (try dsimp only)
      · k_mem
      · omega
      k_dflt (intro h12 tk12 t12 F12 N12 htk12)
      k_steps
      refine Hold.mk ?_
      k_dflt (refine wpAny_tok ?_)
      with_unfolding_all refine (imod_c w loose mean mg mb _ _ _ _ _ ?_) _ _ _ _ _ _ _ _ _ _ _ _ _ _ _ _ _ (by assumption) (by assumption) (by assumption) (by assumption) (by assumption) rfl (by first | ((try dsimp only); omega) | with_unfolding_all decide) (by first | ((try dsimp only); omega) | with_unfolding_all decide) ?_
      (try dsimp only)
      · omega
      k_dflt (intro h13 tk13 t13 F13 N13 htk13)
      rw [hwq]
      have hf0 := fm_lo (((g.row here).idxOf (ps.getD here.toNat 0) : Nat) + 1 : Int) (n := ((g.row here).length : Int)) (by omega)
      have hf1 := fm_hi (((g.row here).idxOf (ps.getD here.toNat 0) : Nat) + 1 : Int) (n := ((g.row here).length : Int)) (by omega)
      have hsame0 := K.same
      have hneq0 := K.neq
      unfold newP at hneq0
      have e20 : (((g.row here).idxOf (ps.getD here.toNat 0) : Nat) + 1 : Int).toNat = (g.row here).idxOf (ps.getD here.toNat 0) + 1 := rfl
      rw [← e20] at hsame0
      generalize hsp : Int.fmod (((g.row here).idxOf (ps.getD here.toNat 0) : Nat) + 1 : Int) ((g.row here).length : Int) = sp at hf0 hf1 hsame0 hneq0
      k_steps
      · exact absurd hsame0 (by assumption)
      rename_i tn hn1 hn2
      (rename News _ _ _ _ => N14)
      have hps' := hps.set here.toNat hn1 hn2
      have N15 := news_sub N14 (b := (pl, W.listOf pv'.toArray pk') :: (I, oI) :: (cl, W.listOf #[.ref f0, .ref f1, .ref f2] kc') :: FX) (fa_cons (by k_mem) (fa_cons (by k_mem) (fa_cons (by k_mem) (fun p hp => by k_mem))))
      refine Hold.mk ?_
      k_dflt (refine wpAny_tok ?_)
      with_unfolding_all refine (setitem_c w loose mean mg mb ((I, oI) :: (cl, W.listOf #[.ref f0, .ref f1, .ref f2] kc') :: FX) pl pk' pv' ps _ _ _ _ hps.are ?_ ?_ ?_ (fa_cons hIpl (fa_cons hplcl.symm hFpl))) _ _ _ _ _ _ _ _ _ _ _ _ _ _ _ _ _ (by assumption) (by assumption) (by assumption) (by assumption) (by assumption) rfl (by first | ((try dsimp only); omega) | with_unfolding_all decide) (by first | ((try dsimp only); omega) | with_unfolding_all decide) ?_
      (try dsimp only)
      · omega
      · omega
      · omega
      k_dflt (intro h14 tk14 n14 F14 N16 htk14)
      clear N14 N15
      have hpl3' : (ps.set here.toNat ((g.row here).getD sp.toNat 0)).length = 3 := by rw [List.length_set]; exact hpl3
      k_steps
      rename_i dn hx1 ox1 Fx1 Nx1 lx1 lox hdx1 tky hk1 hk2 tl hx2 onew Fx2 Nx2 hdnew
      have e0 : (ps.set here.toNat ((g.row here).getD sp.toNat 0)).getD here.toNat 0 = (g.row here).getD sp.toNat 0 := by
        rw [List.getD, List.getElem?_set_self (by omega)]; rfl
      refine Hold.mk ?_
      k_dflt (refine wpAny_tok ?_)
      with_unfolding_all refine (add_c w loose mean mg mb _ f dn p onew wq _ (G.dd ⟨ps, a0, a1, a2, here⟩) [((g.row here).getD sp.toNat 0, g.lv here)] ?_ hdq haq hsq ?_ hdnew ?_ lox (Nat.le_trans K.dl (by decide)) (Nat.le_of_ble_eq_true rfl)) _ _ _ _ _ _ _ _ _ _ _ _ _ _ _ _ _ (by assumption) (by assumption) (by assumption) (by assumption) (by assumption) rfl (by first | ((try dsimp only); omega) | with_unfolding_all decide) (by first | ((try dsimp only); omega) | with_unfolding_all decide) ?_
      (try dsimp only)
      · k_mem
      · k_mem
      · rw [e0, lv_item hh0 hh2]; exact DAre.cons _ _ _ .nil
      k_dflt (intro h15 tk15 nd od kvn F15 N17 lo15 hdd hda hdlo htk15)
      k_steps
      refine Hold.mk ?_
      (rename News _ _ _ _ => N18); (rename Fr _ _ _ _ => F18)
      have hndcl : nd ≠ cl := Nat.ne_of_gt (lo15 (cl, W.listOf #[.ref f0, .ref f1, .ref f2] kc') (by k_mem))
      have hndpl : nd ≠ pl := Nat.ne_of_gt (lo15 (pl, _) (by k_mem))
      have hndI : nd ≠ I := Nat.ne_of_gt (lo15 (I, oI) (by k_mem))
      have N19 := news_sub N18 (b := (cl, W.listOf [.ref f0, .ref f1, .ref f2].toArray kc') :: (nd, od) :: (pl, _) :: (I, oI) :: FX) (fa_cons (by k_mem) (fa_cons (by k_mem) (fa_cons (by k_mem) (fa_cons (by k_mem) (fun p hp => by k_mem)))))
      refine set_anyL F18 N19 (fa_cons hndcl (fa_cons hplcl (fa_cons hIcl hFcl))) hh0 (by simp only [List.length_cons, List.length_nil]; omega) (by omega) ?_
      intro h20 F20 N20
      rw [set_three hh0 hh2] at N20
      clear N18 N19 F18
      k_steps
      rename_i tz hz1 hz2 hx21 F21 N21 tkz htkz
      rw [e0] at F21
      subst hsp
      have mnews : ∀ p ∈ news, p ∈ FX := fun p hp => hFX ▸ md3 hp
      have mf0 : (f0, p0) ∈ FX := hFX ▸ mm0
      have mf1 : (f1, p1) ∈ FX := hFX ▸ mm1
      have mf2 : (f2, p2) ∈ FX := hFX ▸ mm2
      refine TEnd.intro (⟨stepG g ⟨ps, a0, a1, a2, here⟩, pv'.set here.toNat (Value.int ((g.row here).getD (Int.fmod (((g.row here).idxOf (ps.getD here.toNat 0) : Nat) + 1 : Int) ((g.row here).length : Int)).toNat 0) tn), n14, tz, if here = 0 then nd else f0, if here = 1 then nd else f1, if here = 2 then nd else f2, if here = 0 then od else p0, if here = 1 then od else p1, if here = 2 then od else p2, if here = 0 then kvn else w0, if here = 1 then kvn else w1, if here = 2 then kvn else w2, kc'⟩ : GS) F21 N21 (fa_one (by k_mem))
        (fa_cons (by k_mem) (fa_cons (by k_mem) (fa_cons (ite_mem (by k_mem) (by k_mem)) (fa_cons (ite_mem (by k_mem) (by k_mem)) (fa_cons (ite_mem (by k_mem) (by k_mem)) (fun p hp => by have := mnews p hp; k_mem))))))
        (off1 (fa_cons hIcl.symm (fa_cons hIpl.symm (fa_cons (ite_ne hndI (ho _ mm2)) (fa_cons (ite_ne hndI (ho _ mm3)) (fa_cons (ite_ne hndI (ho _ mm4)) (nes1 (nes1 (nes1 (nes1 (nes1 ho)))))))))))
        (fa_cons (by with_unfolding_all rfl) (fa_cons (by with_unfolding_all rfl) (fa_cons (by with_unfolding_all rfl) (fa_cons (by with_unfolding_all rfl) (fa_one (by with_unfolding_all rfl))))))
        { run := hrn2, ps := hps', i0 := ite_idict hdd hc.i0, i1 := ite_idict hdd hc.i1, i2 := ite_idict hdd hc.i2, a0 := ite_dare hda hc.a0, a1 := ite_dare hda hc.a1, a2 := ite_dare hda hc.a2, s0 := ite_sys hdlo hc.s0, s1 := ite_sys hdlo hc.s1, s2 := ite_sys hdlo hc.s2, c0 := ite_ne hndcl hc.c0, c1 := ite_ne hndcl hc.c1, c2 := ite_ne hndcl hc.c2, q0 := ite_ne hndpl hc.q0, q1 := ite_ne hndpl hc.q1, q2 := ite_ne hndpl hc.q2, sep := ?sep }
      intro p hp
      have hpF := mnews p hp
      have hlt := lo15 p (by k_mem)
      exact ⟨ite_nx (Nat.ne_of_lt hlt) (hc.sep p hp).1, ite_nx (Nat.ne_of_lt hlt) (hc.sep p hp).2.1, ite_nx (Nat.ne_of_lt hlt) (hc.sep p hp).2.2⟩
  case done =>
    rintro ⟨⟨ps, a0, a1, a2, here⟩, pv', pk', ht, f0, f1, f2, p0, p1, p2, w0, w1, w2, kc'⟩ m₁ h tk hc lF lN
    dsimp only [ledG, psG] at lF lN
    have hps : IntsT τ2 (fun t => t ≠ 0) pv' ps := hc.ps
    have e9 := run_end hc.run
    have e9p : ps = gF.ps := congrArg G.ps e9
    clear F2 N2 hrg hpv hPV
    k_steps
    refine Hold.mk ?_
    k_dflt (refine wpAny_tok ?_)
    with_unfolding_all refine (namesT_c w loose mean mg mb _ pl pk' pv' ps ?_ hps.are (e9p ▸ hInR)) _ _ _ _ _ _ _ _ _ _ _ _ _ _ _ _ _ (by assumption) (by assumption) (by assumption) (by assumption) (by assumption) rfl (by first | ((try dsimp only); omega) | with_unfolding_all decide) (by first | ((try dsimp only); omega) | with_unfolding_all decide) ?_
    (try dsimp only)
    · k_mem
    k_dflt (intro h8 tk8 r us kk τr F8 N8 lo8 hus8 htk8)
    k_steps
    (rename Fr _ _ _ _ => F22); (rename News _ _ _ _ => N22); rename_i tkY htkY
    refine hret _ _ r us kk τr f0 f1 f2 p0 p1 p2 kc' w0 w1 w2 F22 (news_sub N22 (fa_cons mm0 (fa_cons mm1 (fun _ hp => md3 hp)))) (fa_cons hc.c0 (fa_cons hc.c1 (fa_cons hc.c2 hneN))) (fun p hp => lo8 p (md5 hp)) (lo8 _ mm0) ?_ hc.i0 hc.i1 hc.i2 ?_ ?_ ?_ hc.s0 hc.s1 hc.s2 hc.sep
    · rw [← e9p]; exact hus8.mono fun z hz => ⟨⟨hz.1, Nat.lt_of_lt_of_le hz.2 (by first | exact htkY | omega)⟩, rfl⟩
    · rw [← e9]; exact hc.a0
    · rw [← e9]; exact hc.a1
    · rw [← e9]; exact hc.a2
end
inductive RowsA : List (Addr × List Value × Nat) → List (List Int) → Prop
  | nil : RowsA [] []
  | cons {q : Addr × List Value × Nat} {r : List Int} {qs R} : IntsAre q.2.1 r → RowsA qs R → RowsA (q :: qs) (r :: R)
theorem RowsA.length {qs R} (h : RowsA qs R) : qs.length = R.length := by
  induction h with
  | nil => rfl
  | cons _ _ ih => exact congrArg Nat.succ ih
theorem RowsA.snoc {qs R} (h : RowsA qs R) {q : Addr × List Value × Nat} {r : List Int} (h' : IntsAre q.2.1 r) : RowsA (qs ++ [q]) (R ++ [r]) := by
  induction h with
  | nil => exact .cons h' .nil
  | cons a _ ih => exact .cons a ih
theorem RowsA.get {qs R} (h : RowsA qs R) : ∀ {i : Nat} {q : Addr × List Value × Nat}, qs[i]? = some q → ∃ r, R[i]? = some r ∧ IntsAre q.2.1 r := by
  induction h with
  | nil => intro i q e; cases e
  | cons a _ ih =>
    intro i q e
    cases i with
    | zero => cases e; exact ⟨_, rfl, a⟩
    | succ i => exact ih e
noncomputable def expand (o : List Int) (R : List (List Int)) : List (List Int) := R.flatMap fun r => o.map fun x => r ++ [x]
theorem expand_snoc (o : List Int) (R : List (List Int)) (r : List Int) : expand o (R ++ [r]) = expand o R ++ o.map fun x => r ++ [x] := by simp [expand]
theorem expand_take {o : List Int} {R : List (List Int)} {i : Nat} {r : List Int} (h : R[i]? = some r) : expand o (R.take (i + 1)) = expand o (R.take i) ++ o.map fun x => r ++ [x] := by
  rw [List.take_add_one, h]; exact expand_snoc ..
theorem map_take {o : List Int} {r : List Int} {j : Nat} {z : Int} (h : o[j]? = some z) : (o.take (j + 1)).map (fun x => r ++ [x]) = (o.take j).map (fun x => r ++ [x]) ++ [r ++ [z]] := by
  rw [List.take_add_one, h]; simp
noncomputable def optS (WW : Nat → List Int) (root : Int) (p : Nat) : List Int := if (p : Int) = root then [root] else WW p
noncomputable def expN (WW : Nat → List Int) (root : Int) : Nat → List (List Int)
  | 0 => [[]]
  | i + 1 => expand (optS WW root i) (expN WW root i)
noncomputable def badK (root : Int) (r : List Int) (k : Nat) : List Int := ((List.range k).map fun p : Nat => (p : Int)).filter fun p => !decide (endS r p = root ∨ endS r p = 3)
theorem badK_true {root : Int} {r : List Int} {k : Nat} (h : ¬ (endS r (k : Int) = root ∨ endS r (k : Int) = 3)) : badK root r (k + 1) = badK root r k ++ [(k : Int)] := by
  have e : (!decide (endS r (k : Int) = root ∨ endS r (k : Int) = 3)) = true := by rw [decide_eq_false h]; rfl
  unfold badK; rw [List.range_succ, List.map_append, List.filter_append]; simp only [List.map_cons, List.map_nil, List.filter_cons, e, if_true, List.filter_nil]
theorem badK_false {root : Int} {r : List Int} {k : Nat} (h : endS r (k : Int) = root ∨ endS r (k : Int) = 3) : badK root r (k + 1) = badK root r k := by
  have e : (!decide (endS r (k : Int) = root ∨ endS r (k : Int) = 3)) = false := by rw [decide_eq_true h]; rfl
  unfold badK; rw [List.range_succ, List.map_append, List.filter_append]; simp only [List.map_cons, List.map_nil, List.filter_cons, e, List.filter_nil, List.append_nil, Bool.false_eq_true, if_false]
noncomputable def okRow (root : Int) (r : List Int) : Bool := (badK root r 3).isEmpty
noncomputable def forestsS (WW : Nat → List Int) (root : Int) : List (List Int) := (expN WW root 3).filter (okRow root)
theorem expand_length (o : List Int) : ∀ (R : List (List Int)), (expand o R).length = R.length * o.length
  | [] => by simp [expand]
  | r :: R => by
    have := expand_length o R
    simp only [expand, List.flatMap_cons, List.length_append, List.length_map, List.length_cons] at this ⊢
    rw [this, Nat.succ_mul, Nat.add_comm]
theorem expand_take_length (o : List Int) (R : List (List Int)) (i : Nat) : (expand o (R.take i)).length ≤ R.length * o.length := by
  rw [expand_length]; exact Nat.mul_le_mul_right _ (by rw [List.length_take]; omega)
theorem expN_length {WW : Nat → List Int} {root : Int} (h : ∀ i, i < 3 → (WW i).length ≤ 4) : ∀ i, i ≤ 3 → (expN WW root i).length ≤ 4 ^ i
  | 0, _ => by simp [expN]
  | i + 1, hi => by
    have := expN_length (root := root) h i (by omega)
    have h4 : (optS WW root i).length ≤ 4 := by unfold optS; split; · simp
                                                · exact h i (by omega)
    rw [expN, expand_length, Nat.pow_succ]
    exact Nat.mul_le_mul this h4
theorem expN_in {WW : Nat → List Int} {root : Int} (h0 : 0 ≤ root) (h3 : root ≤ 3) (h : ∀ i, i < 3 → ∀ x ∈ WW i, 0 ≤ x ∧ x ≤ 3) : ∀ i, i ≤ 3 → ∀ r ∈ expN WW root i, r.length = i ∧ ∀ x ∈ r, 0 ≤ x ∧ x ≤ 3
  | 0, _, r, hr => by simp [expN] at hr; subst hr; simp
  | i + 1, hi, r, hr => by
    simp only [expN, expand, List.mem_flatMap, List.mem_map] at hr
    obtain ⟨r0, hr0, x, hx, rfl⟩ := hr
    have := expN_in h0 h3 h i (by omega) r0 hr0
    refine ⟨by simp [this.1], fun y hy => ?_⟩
    rcases List.mem_append.mp hy with hy | hy
    · exact this.2 y hy
    · rw [List.mem_singleton.mp hy]
      unfold optS at hx
      split at hx
      · rw [List.mem_singleton.mp hx]; exact ⟨h0, h3⟩
      · exact h i (by omega) x hx
theorem inR_of {r : List Int} (h : r.length = 3 ∧ ∀ x ∈ r, 0 ≤ x ∧ x ≤ 3) : InR r := ⟨h.1, fun i => by
  rw [List.getD_eq_getElem?_getD]
  cases e : r[i]? with
  | none => simp
  | some x => exact h.2 x (List.mem_of_getElem? e)⟩
theorem rowsL_mem {rs : List (Addr × List Value × Nat)} {q : Addr × List Value × Nat} (h : q ∈ rs) : (q.1, W.listOf q.2.1.toArray q.2.2) ∈ rowsL rs := List.mem_map.mpr ⟨q, h, rfl⟩
structure FS where
  oP : Obj
  rl : Addr
  k : Nat
  rs : List (Addr × List Value × Nat)
section
local macro_rules | `(tactic| walk_at "exec Assign cons ListComp") => `(tactic| walk_at "y0")
local macro_rules | `(tactic| walk_at "eval ListComp") => `(tactic| walk_at "y0")
local macro_rules | `(tactic| walk_at "call ref") => `(tactic| walk_at "y0")
local macro_rules | `(tactic| walk_at "compareOp Eq ref ref") => `(tactic| walk_at "y0")
local macro_rules | `(tactic| walk_at "KIn2") => `(tactic| walk_at "y0")
local macro_rules | `(tactic| walk_at "KOut2") => `(tactic| walk_at "y0")
local macro_rules | `(tactic| walk_at "subscriptTail") => `(tactic| k_dflt (k_here; (with_reducible show wpAny _ _ (subscriptTail _ _ (Value.ref _) (Value.int _ _)) _ _ _); (with_unfolding_all refine item_litX (by assumption) (by k_mem) (by omega) (by omega) (by with_reducible assumption) ?_)))
set_option maxHeartbeats 4000000 in
theorem forests_c (w : World) (loose : List Str) (mean : ExcName → Option Value) (mg mb : Str → Option Value) (news : List (Addr × Obj)) (wl : Addr) (kw : Nat) (rr : Nat → Addr) (vv : Nat → List Value) (kk : Nat → Nat) (WW : Nat → List Int) (root : Int) (tr : Tok)
   (hwl : (wl, W.listOf #[.ref (rr 0), .ref (rr 1), .ref (rr 2)] kw) ∈ news) (hrr : ∀ i, i < 3 → (rr i, W.listOf (vv i).toArray (kk i)) ∈ news) (hvv : ∀ i, i < 3 → IntsAre (vv i) (WW i)) (hW4 : ∀ i, i < 3 → (WW i).length ≤ 4) (hWin : ∀ i, i < 3 → ∀ x ∈ WW i, 0 ≤ x ∧ x ≤ 3) (h0 : 0 ≤ root) (h3' : root ≤ 3) :
   C w loose mean mg mb 246 [.ref wl, .int root tr] news 12 (fun h₀ L m Q => ∀ h' tk' D k rs, Fr h₀ L h' m → News h₀ L h' ((D, W.listOf (rs.map fun q : Addr × List Value × Nat => Value.ref q.1).toArray k) :: (rowsL rs ++ news)) → RowsA rs (forestsS WW root) → (∀ p ∈ news, p.1 < D ∧ ∀ q ∈ rs, p.1 < q.1) → Q (.ref D) h' tk') := by
  unfold C
  intro dp un gd cn cs a ccd cl outer A₀ base h₀ L m s Q E hB hF hK hN hT hk hd hu hret
  refine wpAny_call ?_
  k_dflt cell_enter
  k_steps
  refine Hold.mk ?_
  rename_i g1 L' hA1 tkA FG B1 X1 T1 lw oP oR oW dP dR dW e0 hA2 l1 rl hA3 l2 hA4 F1 N1 tkB htkB hh tkr t1 u1 v1 hrg F2 N2 hke htkC
  have dP' : ∃ z, oP.data = .cell z := ⟨_, dP⟩
  have dR' : oR.data = .cell (some (.int root tr)) := by with_unfolding_all exact dR
  have dW' : oW.data = .cell (some (.ref wl)) := by with_unfolding_all exact dW
  have lw3 : ∀ p ∈ news, p.1 < L' + 1 + 1 + 1 := fun p hp => Nat.lt_of_lt_of_le (lw p hp) (Nat.le_add_right L' 3)
  refine' x_rangeG (n := 3) (σ := FS) (fun c => (c.rl, W.listOf (c.rs.map fun q => Value.ref q.1).toArray c.k) :: (L' + 1 + 1 + 1, c.oP) :: (L' + 1 + 1, oR) :: (L' + 1, oW) :: (rowsL c.rs ++ news)) (fun c => [("rows", .ref c.rl)])
    (fun i c tk => (∃ z, c.oP.data = .cell z) ∧ RowsA c.rs (expN WW root i) ∧ (∀ q ∈ c.rs, L' + 1 + 1 + 1 < q.1) ∧ L' + 1 + 1 + 1 < c.rl) ⟨oP, rl, 0, [(e0, [], 0)]⟩ (by rfl) hrg (by decide) (by decide) F2 ?hN ?hk ?hP ?turn ?done
  case hN =>
    refine news_sub N2 ?_
    intro p hp
    simp only [List.mem_cons, rowsL, List.map_cons, List.map_nil, List.cons_append, List.nil_append] at hp ⊢
    rcases hp with h | h | h | h | h | h
    · exact .inl h
    · exact .inr (.inr (.inl h))
    · exact .inr (.inr (.inr (.inl h)))
    · exact .inr (.inr (.inr (.inr (.inl h))))
    · exact .inr (.inl h)
    · exact .inr (.inr (.inr (.inr (.inr h))))
  case hk => exact fa_one (by with_unfolding_all rfl)
  case hP => exact ⟨dP', .cons .nil .nil, fun q hq => by rw [List.mem_singleton.mp hq]; exact lt_in l1 (by k_mem), lt_in l2 (by k_mem)⟩
  case turn =>
    rintro ⟨oP', rl, k, rs⟩ i t m₁ h lo tk I oI hi hc hlt htt hcl ho lF lN
    dsimp only at hc lN lF ho
    obtain ⟨⟨z, hz⟩, hrs, hrl, hr3⟩ := hc
    have hw3 : rl ≠ L' + 1 + 1 + 1 := Nat.ne_of_gt hr3
    have hI3 : I ≠ L' + 1 + 1 + 1 := (ho (L' + 1 + 1 + 1, oP') (by k_mem)).symm
    have ht3 : ∀ p ∈ rowsL rs ++ news, p.1 ≠ L' + 1 + 1 + 1 := by
      intro p hp
      rcases List.mem_append.mp hp with hp | hp
      · obtain ⟨q, hq, rfl⟩ := List.mem_map.mp hp; exact Nat.ne_of_gt (hrl q hq)
      · exact Nat.ne_of_lt (lw3 p hp)
    clear F2 N2 hke hrg dP dR dW
    refine wpAny_assign_Name ?_
    refine storeX_C lF lN (by rfl) (UpdF.tail hI3 (UpdF.tail hw3 (UpdF.head ?_))) hz ?_
    · intro p hp
      rcases List.mem_cons.mp hp with rfl | hp
      · exact Nat.ne_of_lt (Nat.lt_succ_self _)
      rcases List.mem_cons.mp hp with rfl | hp
      · exact Nat.ne_of_lt (Nat.lt_succ_of_lt (Nat.lt_succ_self _))
      exact ht3 p hp
    intro h3 o3 F3 N3 d3
    (try dsimp only at N3)
    clear lF lN hz
    k_steps
    refine Hold.mk ?_
    (rename Fr _ _ _ _ => F4); (rename News _ _ _ _ => N4)
    refine x_comp2A F4 (by rfl) (by with_unfolding_all rfl) (by rfl) (by rfl) (by rfl) (by decide) (by rfl) (by decide) (by rfl) (by rfl) (by decide) (by rfl) ?_
    k_steps
    refine Hold.mk ?_
    (rename Fr _ _ _ _ => F5); (rename News _ _ _ _ => N5)
    have hRl := hrs.length
    have hRn := expN_length (root := root) hW4 i (by omega)
    have h4i : 4 ^ i ≤ 16 := by
      obtain rfl | rfl | rfl : i = 0 ∨ i = 1 ∨ i = 2 := by omega
      · decide
      · decide
      · decide
    have e0i : (0 : Int) + (i : Int) = (i : Int) := Int.zero_add _
    refine ⟨List (Addr × List Value × Nat), rl, rs.map fun q => Value.ref q.1, k, fun u => (I, oI) :: (rl, W.listOf (rs.map fun q => Value.ref q.1).toArray k) :: (L' + 1 + 1 + 1, o3) :: (L' + 1 + 1, oR) :: (L' + 1, oW) :: (rowsL u ++ (rowsL rs ++ news)),
      fun i' u ys tk => ys = u.map (fun q => Value.ref q.1) ∧ RowsA u (expand (optS WW root i) ((expN WW root i).take i')) ∧ ∀ q ∈ u, L' + 1 + 1 + 1 < q.1 ∧ I < q.1, [], rfl, fun u => by k_mem, F5, N5, ⟨rfl, by simp [expand]; exact .nil, fun q hq => nomatch hq⟩, ?turn2, ?done2⟩
    case turn2 =>
      intro u i' v ys I2 oI2 C2 oC2 D2 m2 h6 lo6 tk6 E6 hv hInv hl6 hcI2 hC6 hm6 F6 N6 hoff6 hne6
      (try dsimp only)
      clear F5 N5
      obtain ⟨rfl, hu, hua⟩ := hInv
      obtain ⟨q, hq, rfl⟩ : ∃ q, rs[i']? = some q ∧ v = .ref q.1 := by
        rw [List.getElem?_map] at hv
        cases e : rs[i']? with
        | none => rw [e] at hv; cases hv
        | some q => rw [e] at hv; exact ⟨q, rfl, (Option.some.inj hv).symm⟩
      obtain ⟨r, hr, hqr⟩ := hrs.get hq
      have hqm : (q.1, W.listOf q.2.1.toArray q.2.2) ∈ rowsL u ++ (rowsL rs ++ news) := List.mem_append_right _ (List.mem_append_left _ (rowsL_mem (List.mem_of_getElem? hq)))
      have hwm : (wl, W.listOf #[.ref (rr 0), .ref (rr 1), .ref (rr 2)] kw) ∈ rowsL u ++ (rowsL rs ++ news) := List.mem_append_right _ (List.mem_append_right _ hwl)
      have hrm : (rr i, W.listOf (vv i).toArray (kk i)) ∈ rowsL u ++ (rowsL rs ++ news) := List.mem_append_right _ (List.mem_append_right _ (hrr i hi))
      have hsel : (#[Value.ref (rr 0), Value.ref (rr 1), Value.ref (rr 2)] : Array Value).toList[((0 : Int) + (i : Int)).toNat]? = some (.ref (rr i)) := by
        obtain rfl | rfl | rfl : i = 0 ∨ i = 1 ∨ i = 2 := by omega
        · rfl
        · rfl
        · rfl
      have hrin := expN_in (root := root) h0 h3' hWin i (by omega) r (List.mem_of_getElem? hr)
      have hql := hqr.length
      have hrl3 := hrin.1
      have hoff6' := hoff6
      (try dsimp only at N6 hoff6)
      have hoffm := hoff6.mem
      generalize hTl : rowsL u ++ (rowsL rs ++ news) = tail at N6 hqm hwm hrm hoff6 hoffm
      have hopt : (optS WW root i).length ≤ 4 := by unfold optS; split; · simp
                                                    · exact hW4 i hi
      k_steps
      · (rename Fr _ _ _ _ => F7); (rename News _ _ _ _ => N7)
        rename_i heq lA h7 hl1
        refine Hold.mk ?_
        refine ⟨lA, [Value.int root tr], 0, fun j u ys tk => ys = u.map (fun q => Value.ref q.1) ∧ RowsA u (expand (optS WW root i) ((expN WW root i).take i') ++ ((optS WW root i).take j).map fun x => r ++ [x]) ∧ ∀ q ∈ u, L' + 1 + 1 + 1 < q.1 ∧ I < q.1, u, _, rfl, F7, N7, ?sub, hoff6', ⟨ne_ltR hl1 (by k_mem), ne_ltR hl1 (by k_mem), ne_ltR hl1 (by k_mem)⟩, ?len, ⟨rfl, by simpa using hu, hua⟩, ?turn3, ?fin⟩
        case sub =>
          intro p hp
          dsimp only at hp
          rw [hTl] at hp
          simp only [List.mem_cons] at hp ⊢
          rcases hp with h | h | h | h | h
          · exact .inr (.inl h)
          · exact .inr (.inr (.inl h))
          · exact .inr (.inr (.inr (.inl h)))
          · exact .inl h
          · exact .inr (.inr (.inr (.inr h)))
        case len =>
          rintro j u ys tk ⟨rfl, hu, _⟩
          rw [List.length_map, hu.length, List.length_append, List.length_map, PySem.sizeLine_eq]
          have hx1 := expand_take_length (optS WW root i) (expN WW root i) i'
          have hx2 : ((optS WW root i).take j).length ≤ 4 := by rw [List.length_take]; omega
          have hx3 : (expN WW root i).length * (optS WW root i).length ≤ 16 * 4 := Nat.mul_le_mul (Nat.le_trans hRn h4i) hopt
          omega
        case turn3 =>
          intro u3 j z ys3 I3 oI3 oC3 mC3 h8 lo8 tk8 E8 hz hInv3 hl8 hcI3 hC8 hmx8 hmy8 F8 N8 hoff8 hne8
          obtain ⟨rfl, hu3, hua3⟩ := hInv3
          obtain ⟨zi, tz, hzi, rfl⟩ : ∃ zi tz, (optS WW root i)[j]? = some zi ∧ z = .int zi tz := by
            have hvs : IntsAre ([Value.int root tr]) (optS WW root i) := (by unfold optS; rw [if_pos (by omega)]; exact .cons _ _ .nil)
            have hl9 := hvs.length
            obtain ⟨hlt9, e9⟩ := List.getElem?_eq_some_iff.mp hz
            obtain ⟨t9, ht9⟩ := hvs.get j _ (List.getElem?_eq_getElem (by omega))
            rw [hz] at ht9
            exact ⟨_, t9, List.getElem?_eq_getElem (by omega), Option.some.inj ht9⟩
          have hqm3 : (q.1, W.listOf q.2.1.toArray q.2.2) ∈ rowsL u3 ++ (rowsL rs ++ news) := List.mem_append_right _ (List.mem_append_left _ (rowsL_mem (List.mem_of_getElem? hq)))
          dsimp only [List.cons_append, List.nil_append] at N8 hoff8
          clear N7 F7 hoff6' hqm hwm hrm hTl hoff6 hoffm
          generalize hTl3 : rowsL u3 ++ (rowsL rs ++ news) = tail3 at N8 hqm3 hoff8
          clear hm6 hC6
          k_steps
          refine Hold.mk ?_
          (rename Fr _ _ _ _ => F9); (rename News _ _ _ _ => N9)
          rename_i d1 ah1 aF aN al ah2 Dn lo9
          refine KOut2.intro (u3 ++ [(Dn, q.2.1 ++ [.int zi tz], 0)]) F9 N9 ?_ ?_ ⟨by simp, ?_, ?_⟩
          · intro p hp
            dsimp only [List.cons_append, List.nil_append] at hp
            simp only [List.mem_cons] at hp
            rcases hp with rfl | rfl | rfl | rfl | rfl | rfl | rfl | rfl | rfl | rfl | hp
            iterate 10 (first | k_mem | skip)
            rcases rowsL_snoc_mem hp with rfl | hp
            · k_mem
            rw [hTl3] at hp
            (repeat (first | exact hp | apply List.mem_cons_of_mem))
          · intro p hp y hy
            (try dsimp only at hp)
            rcases List.mem_cons.mp hp with rfl | hp
            · simp only [List.mem_cons, List.not_mem_nil, or_false] at hy
              rcases hy with rfl | rfl | rfl | rfl
              · exact hne8.2.2.2.2.2.2.1
              · exact hne8.2.2.2.2.2.2.2.1
              · exact hne8.2.2.2.2.2.2.2.2.1
              · exact hne8.2.2.2.2.2.2.2.2.2
            simp only [List.mem_cons] at hp
            rcases hp with h | h | h | h | h | h
            · exact hoff8 p (by rw [h]; simp) y hy
            · exact hoff8 p (by rw [h]; simp) y hy
            · exact hoff8 p (by rw [h]; simp) y hy
            · exact hoff8 p (by rw [h]; simp) y hy
            · exact hoff8 p (by rw [h]; simp) y hy
            rcases rowsL_snoc_mem h with rfl | h
            · simp only [List.mem_cons, List.not_mem_nil, or_false] at hy
              rcases hy with rfl | rfl | rfl | rfl
              · exact Nat.ne_of_gt (lo9 (I3, oI3) (by k_mem))
              · exact Nat.ne_of_gt (lo9 (I2, oI2) (by k_mem))
              · exact Nat.ne_of_gt (lo9 (C2, oC3) (by k_mem))
              · exact Nat.ne_of_gt (lo9 (D2, _) (by k_mem))
            · rw [hTl3] at h; exact hoff8 p (by simp [h]) y hy
          · rw [map_take hzi, ← List.append_assoc]
            exact hu3.snoc (intsAre_snoc hqr zi tz)
          · intro q9 hq9
            rcases List.mem_append.mp hq9 with hq9 | hq9
            · exact hua3 q9 hq9
            · rw [List.mem_singleton.mp hq9]; exact ⟨lo9 (L' + 1 + 1 + 1, o3) (by k_mem), lo9 (I, oI) (by k_mem)⟩
        case fin =>
          rintro u ys tk ⟨rfl, hu, hua⟩
          refine ⟨rfl, ?_, hua⟩
          have hvl : ([Value.int root tr]).length = (optS WW root i).length := ((by unfold optS; rw [if_pos (by omega)]; exact .cons _ _ .nil) : IntsAre ([Value.int root tr]) (optS WW root i)).length
          rw [expand_take hr]
          rw [hvl, List.take_length] at hu
          exact hu
      · rename_i hneq
        (rename Fr _ _ _ _ => F7); (rename News _ _ _ _ => N7)
        refine Hold.mk ?_
        refine ⟨rr i, vv i, kk i, fun j u ys tk => ys = u.map (fun q => Value.ref q.1) ∧ RowsA u (expand (optS WW root i) ((expN WW root i).take i') ++ ((optS WW root i).take j).map fun x => r ++ [x]) ∧ ∀ q ∈ u, L' + 1 + 1 + 1 < q.1 ∧ I < q.1, u, _, rfl, F7, N7, ?sub, hoff6', (hoffm (rr i, W.listOf (vv i).toArray (kk i)) (by simp [hrm])), ?len, ⟨rfl, by simpa using hu, hua⟩, ?turn3, ?fin⟩
        case sub =>
          intro p hp
          dsimp only at hp
          rw [hTl] at hp
          simp only [List.mem_cons] at hp ⊢
          rcases hp with h | h | h | h | h
          · exact .inl h
          · exact .inr (.inl h)
          · exact .inr (.inr (.inl h))
          · rw [h]; simp [hrm]
          · exact .inr (.inr (.inr h))
        case len =>
          rintro j u ys tk ⟨rfl, hu, _⟩
          rw [List.length_map, hu.length, List.length_append, List.length_map, PySem.sizeLine_eq]
          have hx1 := expand_take_length (optS WW root i) (expN WW root i) i'
          have hx2 : ((optS WW root i).take j).length ≤ 4 := by rw [List.length_take]; omega
          have hx3 : (expN WW root i).length * (optS WW root i).length ≤ 16 * 4 := Nat.mul_le_mul (Nat.le_trans hRn h4i) hopt
          omega
        case turn3 =>
          intro u3 j z ys3 I3 oI3 oC3 mC3 h8 lo8 tk8 E8 hz hInv3 hl8 hcI3 hC8 hmx8 hmy8 F8 N8 hoff8 hne8
          obtain ⟨rfl, hu3, hua3⟩ := hInv3
          obtain ⟨zi, tz, hzi, rfl⟩ : ∃ zi tz, (optS WW root i)[j]? = some zi ∧ z = .int zi tz := by
            have hvs : IntsAre (vv i) (optS WW root i) := (by unfold optS; rw [if_neg (by omega)]; exact hvv i hi)
            have hl9 := hvs.length
            obtain ⟨hlt9, e9⟩ := List.getElem?_eq_some_iff.mp hz
            obtain ⟨t9, ht9⟩ := hvs.get j _ (List.getElem?_eq_getElem (by omega))
            rw [hz] at ht9
            exact ⟨_, t9, List.getElem?_eq_getElem (by omega), Option.some.inj ht9⟩
          have hqm3 : (q.1, W.listOf q.2.1.toArray q.2.2) ∈ rowsL u3 ++ (rowsL rs ++ news) := List.mem_append_right _ (List.mem_append_left _ (rowsL_mem (List.mem_of_getElem? hq)))
          dsimp only [List.cons_append, List.nil_append] at N8 hoff8
          clear N7 F7 hoff6' hqm hwm hrm hTl hoff6 hoffm
          generalize hTl3 : rowsL u3 ++ (rowsL rs ++ news) = tail3 at N8 hqm3 hoff8
          clear hm6 hC6
          k_steps
          refine Hold.mk ?_
          (rename Fr _ _ _ _ => F9); (rename News _ _ _ _ => N9)
          rename_i d1 ah1 aF aN al ah2 Dn lo9
          refine KOut2.intro (u3 ++ [(Dn, q.2.1 ++ [.int zi tz], 0)]) F9 N9 ?_ ?_ ⟨by simp, ?_, ?_⟩
          · intro p hp
            dsimp only [List.cons_append, List.nil_append] at hp
            simp only [List.mem_cons] at hp
            rcases hp with rfl | rfl | rfl | rfl | rfl | rfl | rfl | rfl | rfl | rfl | hp
            iterate 10 (first | k_mem | skip)
            rcases rowsL_snoc_mem hp with rfl | hp
            · k_mem
            rw [hTl3] at hp
            (repeat (first | exact hp | apply List.mem_cons_of_mem))
          · intro p hp y hy
            (try dsimp only at hp)
            rcases List.mem_cons.mp hp with rfl | hp
            · simp only [List.mem_cons, List.not_mem_nil, or_false] at hy
              rcases hy with rfl | rfl | rfl | rfl
              · exact hne8.2.2.2.2.2.2.1
              · exact hne8.2.2.2.2.2.2.2.1
              · exact hne8.2.2.2.2.2.2.2.2.1
              · exact hne8.2.2.2.2.2.2.2.2.2
            simp only [List.mem_cons] at hp
            rcases hp with h | h | h | h | h | h
            · exact hoff8 p (by rw [h]; simp) y hy
            · exact hoff8 p (by rw [h]; simp) y hy
            · exact hoff8 p (by rw [h]; simp) y hy
            · exact hoff8 p (by rw [h]; simp) y hy
            · exact hoff8 p (by rw [h]; simp) y hy
            rcases rowsL_snoc_mem h with rfl | h
            · simp only [List.mem_cons, List.not_mem_nil, or_false] at hy
              rcases hy with rfl | rfl | rfl | rfl
              · exact Nat.ne_of_gt (lo9 (I3, oI3) (by k_mem))
              · exact Nat.ne_of_gt (lo9 (I2, oI2) (by k_mem))
              · exact Nat.ne_of_gt (lo9 (C2, oC3) (by k_mem))
              · exact Nat.ne_of_gt (lo9 (D2, _) (by k_mem))
            · rw [hTl3] at h; exact hoff8 p (by simp [h]) y hy
          · rw [map_take hzi, ← List.append_assoc]
            exact hu3.snoc (intsAre_snoc hqr zi tz)
          · intro q9 hq9
            rcases List.mem_append.mp hq9 with hq9 | hq9
            · exact hua3 q9 hq9
            · rw [List.mem_singleton.mp hq9]; exact ⟨lo9 (L' + 1 + 1 + 1, o3) (by k_mem), lo9 (I, oI) (by k_mem)⟩
        case fin =>
          rintro u ys tk ⟨rfl, hu, hua⟩
          refine ⟨rfl, ?_, hua⟩
          have hvl : (vv i).length = (optS WW root i).length := ((by unfold optS; rw [if_neg (by omega)]; exact hvv i hi) : IntsAre (vv i) (optS WW root i)).length
          rw [expand_take hr]
          rw [hvl, List.take_length] at hu
          exact hu
    case done2 =>
      intro D u ys h7 lo7 tk7 hInv hl7 F7 N7 hneD hltD
      (try dsimp only)
      clear F5 N5
      obtain ⟨rfl, hu, hua⟩ := hInv
      (try dsimp only at N7 hneD hltD)
      rw [List.length_map, hrs.length, List.take_length] at hu
      k_steps
      refine TEndT.intro (⟨o3, D, (u.map fun q => Value.ref q.1).length, u⟩ : FS) F7 (news_sub N7 (b := (I, oI) :: (D, LCg.lst (u.map fun q => Value.ref q.1)) :: (L' + 1 + 1 + 1, o3) :: (L' + 1 + 1, oR) :: (L' + 1, oW) :: (rowsL u ++ news)) ?_) ?_ ?_ ?_ ?_ ?_
      · intro p hp
        simp only [List.mem_cons, List.mem_append] at hp ⊢
        rcases hp with h | h | h | h | h | h | h
        · exact .inr (.inl h)
        · exact .inl h
        · exact .inr (.inr (.inr (.inl h)))
        · exact .inr (.inr (.inr (.inr (.inl h))))
        · exact .inr (.inr (.inr (.inr (.inr (.inl h)))))
        · exact .inr (.inr (.inr (.inr (.inr (.inr (.inl h))))))
        · exact .inr (.inr (.inr (.inr (.inr (.inr (.inr (.inr h)))))))
      · intro q hq; rw [List.mem_singleton.mp hq]; k_mem
      · intro p hp; exact List.mem_cons_of_mem _ hp
      · intro p hp q hq
        rw [List.mem_singleton.mp hq]
        refine .inl ?_
        rcases List.mem_cons.mp hp with rfl | hp
        · exact Nat.ne_of_gt (hltD (I, oI) (by k_mem))
        rcases List.mem_cons.mp hp with rfl | hp
        · exact hI3.symm
        rcases List.mem_cons.mp hp with rfl | hp
        · exact ho (L' + 1 + 1, oR) (by k_mem)
        rcases List.mem_cons.mp hp with rfl | hp
        · exact ho (L' + 1, oW) (by k_mem)
        rcases List.mem_append.mp hp with hp | hp
        · obtain ⟨q, hq, rfl⟩ := List.mem_map.mp hp; exact Nat.ne_of_gt (hua q hq).2
        · exact ho p (by simp only [List.mem_cons, List.mem_append]; exact .inr (.inr (.inr (.inr (.inr hp)))))
      · exact fa_one (by with_unfolding_all rfl)
      · exact ⟨⟨_, d3⟩, hu, fun q hq => (hua q hq).1, hltD (L' + 1 + 1 + 1, o3) (by k_mem)⟩
  case done =>
    rintro ⟨oP', rl, k, rs⟩ m₁ h lo tk hc hle lF lN
    dsimp only at hc lN lF
    obtain ⟨⟨z, hz⟩, hrs, hrl, hr3⟩ := hc
    clear F2 N2 hke hrg dP dR dW
    have hRl := hrs.length
    have hRn := expN_length (root := root) hW4 3 (by omega)
    k_steps
    refine Hold.mk ?_
    (rename Fr _ _ _ _ => F4); (rename News _ _ _ _ => N4)
    refine x_compLEC F4 (by with_unfolding_all rfl) (by intro _; rfl) (by intro _; rfl) (by rfl) (by decide) (by intro _ _; rfl) (by rfl) ?_
    k_steps
    refine Hold.mk ?_
    (rename Fr _ _ _ _ => F5); (rename News _ _ _ _ => N5)
    refine ⟨List (Addr × List Value × Nat), rl, rs.map fun q => Value.ref q.1, k, fun u => (rl, W.listOf (rs.map fun q => Value.ref q.1).toArray k) :: (L' + 1 + 1 + 1, oP') :: (L' + 1 + 1, oR) :: (L' + 1, oW) :: (rowsL rs ++ news),
      fun i u ys tk => ys = u.map (fun q => Value.ref q.1) ∧ RowsA u (((expN WW root 3).take i).filter (okRow root)) ∧ ∀ q ∈ u, q ∈ rs, [], rfl, by rw [PySem.sizeLine_eq, List.length_map]; omega, fun u => by k_mem, F5, N5, ⟨rfl, by simp; exact .nil, fun q hq => nomatch hq⟩, ?turn, ?done⟩
    case turn =>
      intro u i v ys I oI C oC c oc D h6 tk6 E6 hv hInv hcI hoc F6 N6 hoff6 hne6
      obtain ⟨rfl, hu, hua⟩ := hInv
      obtain ⟨q, hq, rfl⟩ : ∃ q, rs[i]? = some q ∧ v = .ref q.1 := by
        rw [List.getElem?_map] at hv
        cases e : rs[i]? with
        | none => rw [e] at hv; cases hv
        | some q => rw [e] at hv; exact ⟨q, rfl, (Option.some.inj hv).symm⟩
      obtain ⟨r, hr, hqr⟩ := hrs.get hq
      have hqm : (q.1, W.listOf q.2.1.toArray q.2.2) ∈ rowsL rs ++ news := List.mem_append_left _ (rowsL_mem (List.mem_of_getElem? hq))
      have hrin := inR_of (expN_in (root := root) h0 h3' hWin 3 (by omega) r (List.mem_of_getElem? hr))
      (try dsimp only at N6 hoff6)
      clear F5 N5
      generalize hTl : rowsL rs ++ news = tail at N6 hqm hoff6
      k_steps
      refine Hold.mk ?_
      refine x_compR (n := 3) (fun k ys tk => IntsAre ys (badK root r k)) F6 N6 (by with_unfolding_all rfl) (by decide) (by rfl) (by decide) (by rfl) (by rfl) (by rw [PySem.sizeLine_eq]; decide) ?_ (by intro _; with_unfolding_all rfl)
      k_steps
      refine Hold.mk ?_
      (rename Fr _ _ _ _ => F7); (rename News _ _ _ _ => N7); (rename IsRange _ _ _ _ _ _ _ _ => hrg7)
      refine ⟨_, _, _, _, _, rfl, F7, N7, hrg7, by decide, by decide, .nil, ?_, ?_⟩
      · intro j ys tj I2 oI2 C2 oC2 D2 m2 h8 lo8 tk8 E8 hj hInv hl8 ht8 hC8 hm8 F8 N8 hoff8 hne8
        (try dsimp only)
        clear F7 N7 hrg7
        k_steps
        refine Hold.mk ?_
        k_dflt (refine wpAny_tok ?_)
        with_unfolding_all refine (end_c w loose mean mg mb _ q.1 q.2.2 q.2.1 r (j : Int) _ ?_ hqr hrin (by omega) (by omega)) _ _ _ _ _ _ _ _ _ _ _ _ _ _ _ _ _ (by assumption) (by assumption) (by assumption) (by assumption) (by assumption) rfl (by first | ((try dsimp only); omega) | with_unfolding_all decide) (by first | ((try dsimp only); omega) | with_unfolding_all decide) ?_
        (try dsimp only)
        · k_mem
        k_dflt (intro h9 tk9 t9 F9 N9 htk9)
        k_steps
        all_goals (rename Fr _ _ _ _ => F10); (rename News _ _ _ _ => N10)
        · rename_i hb
          refine CEnd.intro F10 N10 _ (fun p hp => List.mem_cons_of_mem _ hp) hoff8 ⟨rfl, ?_⟩
          rw [badK_false (by simp at hb; omega)]
          exact hInv
        · rename_i hb
          refine CEnd.intro F10 N10 _ (fun p hp => List.mem_cons_of_mem _ hp) hoff8 ⟨rfl, ?_⟩
          rw [badK_true (by simp at hb; rintro (h | h) <;> omega)]
          exact intsAre_snoc hInv _ _
      · intro D7 ys h8 lo8 tk8 hInv hle8 F8 N8 hneD
        (try dsimp only)
        clear F7 N7 hrg7
        k_steps
        refine Hold.mk ?_
        (rename Fr _ _ _ _ => F9); (rename News _ _ _ _ => N9)
        k_dflt (refine eq_intsK (PySem.IsL.isList (n := ys.length) (N9 (D7, _) (by k_mem)).1) hInv (PySem.IsL.isList (n := 0) (N9 (_, W.listOf #[] 0) (List.mem_cons_self ..)).1) (show IntsAre [] [] from .nil) (by simp only [Around.deeper_units, ktrTop]; omega) ?_)
        have hoffq : ∀ p ∈ (rl, W.listOf (rs.map fun q => Value.ref q.1).toArray k) :: (L' + 1 + 1 + 1, oP') :: (L' + 1 + 1, oR) :: (L' + 1, oW) :: tail, ∀ y ∈ [(I, oI), (C, oC), (c, oc), (D, LCg.lst (u.map fun q => Value.ref q.1))], p.1 ≠ y.1 := by
          intro p hp y hy
          simp only [List.mem_cons, List.not_mem_nil, or_false] at hy
          rcases hy with rfl | rfl | rfl | rfl
          · exact (hoff6 p hp).1
          · exact (hoff6 p hp).2.1
          · exact (hoff6 p hp).2.2.1
          · exact (hoff6 p hp).2.2.2
        k_steps
        · rename_i hb
          refine Hold.mk ?_
          refine KOut2.intro (u ++ [q]) F9 N9 (fun p hp => List.mem_cons_of_mem _ (List.mem_cons_of_mem _ hp)) hoffq ⟨by simp, ?_, ?_⟩
          · have hok : okRow root r = true := by rw [okRow, of_decide_eq_true hb]; rfl
            rw [List.take_add_one, hr, List.filter_append]
            simp only [Option.toList_some, List.filter_cons, hok, if_true, List.filter_nil]
            exact hu.snoc hqr
          · intro q9 hq9
            rcases List.mem_append.mp hq9 with hq9 | hq9
            · exact hua q9 hq9
            · rw [List.mem_singleton.mp hq9]; exact List.mem_of_getElem? hq
        · rename_i hb
          refine Hold.mk ?_
          refine KOut2.intro u F9 N9 (fun p hp => List.mem_cons_of_mem _ (List.mem_cons_of_mem _ hp)) hoffq ⟨rfl, ?_, hua⟩
          have hok : okRow root r = false := by
            have h9 := of_decide_eq_false hb
            rw [okRow, List.isEmpty_eq_false_iff]; exact h9
          rw [List.take_add_one, hr, List.filter_append]
          simp only [Option.toList_some, List.filter_cons, hok, List.filter_nil, List.append_nil, Bool.false_eq_true, if_false]
          exact hu
    case done =>
      intro D u ys h6 tk6 hInv F6 N6 hneD hltD
      obtain ⟨rfl, hu, hua⟩ := hInv
      (try dsimp only at N6 hneD hltD)
      clear F5 N5
      rw [List.length_map, hrs.length, List.take_length] at hu
      k_steps
      (rename Fr _ _ _ _ => F12); (rename News _ _ _ _ => N12)
      refine hret _ _ D (u.map fun q => Value.ref q.1).length u F12 (news_sub N12 ?_) hu ?_
      · intro p hp
        rcases List.mem_cons.mp hp with rfl | hp
        · exact List.mem_cons_self ..
        refine List.mem_cons_of_mem _ (List.mem_cons_of_mem _ (List.mem_cons_of_mem _ (List.mem_cons_of_mem _ (List.mem_cons_of_mem _ ?_))))
        rcases List.mem_append.mp hp with hp | hp
        · obtain ⟨q, hq, rfl⟩ := List.mem_map.mp hp
          exact List.mem_append_left _ (rowsL_mem (hua q hq))
        · exact List.mem_append_right _ hp
      · intro p hp
        refine ⟨hltD p (by simp only [List.mem_cons, List.mem_append]; exact .inr (.inr (.inr (.inr (.inr hp))))), fun q hq => Nat.lt_trans (lw3 p hp) (hrl q (hua q hq))⟩
end
section
noncomputable def leadFin (P : Str → Bool) : Bool := (List.range 4).all fun a => (List.range 5).all fun b => (List.range 2).all fun c => P (leadS (a : Int) (b : Int) (c : Int))
theorem leadFin_of {P : Str → Bool} (h : leadFin P = true) (x : Int) : P (leadOf x) = true := by
  unfold leadFin at h
  unfold leadOf
  have a0 := fm_lo x (n := 4) (by decide)
  have a1 := fm_hi x (n := 4) (by decide)
  have b0 := fm_lo (x.fdiv 4) (n := 5) (by decide)
  have b1 := fm_hi (x.fdiv 4) (n := 5) (by decide)
  have c0 := fm_lo (x.fdiv 20) (n := 2) (by decide)
  have c1 := fm_hi (x.fdiv 20) (n := 2) (by decide)
  generalize x.fmod 4 = a at *
  generalize (x.fdiv 4).fmod 5 = b at *
  generalize (x.fdiv 20).fmod 2 = c at *
  have h1 := List.all_eq_true.mp h a.toNat (List.mem_range.mpr (by omega))
  have h2 := List.all_eq_true.mp h1 b.toNat (List.mem_range.mpr (by omega))
  have h3 := List.all_eq_true.mp h2 c.toNat (List.mem_range.mpr (by omega))
  rw [Int.toNat_of_nonneg a0, Int.toNat_of_nonneg b0, Int.toNat_of_nonneg c0] at h3
  exact h3
noncomputable def colL (x : Str) (z : Int) : Int := colS z (Txt.slice x none (some (Txt.find x (Str.ofString "x")))).cps.toList
noncomputable def leadOk (x : Str) : Bool :=
  decide (x.length ≤ 100) && decide (0 ≤ Txt.find x (Str.ofString "x")) && decide ((wsOf x).cs.length ≤ 100) && (wsOf x).cs.all (fun y => decide (0 ≤ y) && decide (y ≤ 100)) && decide (0 ≤ (wsOf x).nt) && decide ((wsOf x).nt ≤ 100) &&
    [1, 2, 3, 4].all fun z => indS x z == colL x z && decide (0 < colL x z) && decide (colL x z ≤ 1000)
theorem lead_ok (x : Int) : leadOk (leadOf x) = true := leadFin_of (P := leadOk) (by decide +kernel) x
theorem getD_all {P : Int → Prop} (h0 : P 0) : ∀ {l : List Int}, (∀ y ∈ l, P y) → ∀ i : Nat, P (l.getD i 0)
  | [], _, _ => by simpa using h0
  | a :: l, h, 0 => h a (List.mem_cons_self ..)
  | a :: l, h, i + 1 => by simpa using getD_all h0 (fun y hy => h y (List.mem_cons_of_mem _ hy)) i
theorem lead_facts (x : Int) : (leadOf x).length ≤ 100 ∧ 0 ≤ Txt.find (leadOf x) (Str.ofString "x") ∧ (wsOf (leadOf x)).cs.length ≤ 100 ∧ (∀ i : Nat, 0 ≤ (wsOf (leadOf x)).cs.getD i 0 ∧ (wsOf (leadOf x)).cs.getD i 0 ≤ 100) ∧ 0 ≤ (wsOf (leadOf x)).nt ∧ (wsOf (leadOf x)).nt ≤ 100 := by
  have h := lead_ok x
  simp only [leadOk, Bool.and_eq_true, decide_eq_true_eq] at h
  obtain ⟨⟨⟨⟨⟨⟨h1, h2⟩, h3⟩, h4⟩, h5⟩, h6⟩, _⟩ := h
  refine ⟨h1, h2, h3, fun i => ?_, h5, h6⟩
  refine getD_all (P := fun y => 0 ≤ y ∧ y ≤ 100) ⟨by omega, by omega⟩ (fun y hy => ?_) i
  have := List.all_eq_true.mp h4 y hy
  simpa using this
theorem lead_told (x : Int) {z : Int} (h1 : 1 ≤ z) (h4 : z ≤ 4) : indS (leadOf x) z = colL (leadOf x) z ∧ 0 < colL (leadOf x) z ∧ colL (leadOf x) z ≤ 1000 := by
  have h := lead_ok x
  simp only [leadOk, Bool.and_eq_true] at h
  have hz : z ∈ [1, 2, 3, 4] := by
    obtain rfl | rfl | rfl | rfl : z = 1 ∨ z = 2 ∨ z = 3 ∨ z = 4 := by omega
    all_goals simp
  have := List.all_eq_true.mp h.2 z hz
  simp only [Bool.and_eq_true, beq_iff_eq, decide_eq_true_eq] at this
  exact ⟨this.1.1, this.1.2, this.2⟩
end
section
noncomputable def treesL : List (List Int) := [[1, 2, 3], [1, 3, 0], [1, 3, 1], [1, 3, 3], [2, 0, 3], [2, 2, 3], [2, 3, 1], [2, 3, 3], [3, 0, 0], [3, 0, 1], [3, 0, 3], [3, 2, 0], [3, 2, 3], [3, 3, 0], [3, 3, 1], [3, 3, 3]]
theorem posts_mem (x : Int) : postsS x ∈ treesL := by
  unfold postsS
  have a0 := fm_lo x (n := 6) (by decide)
  have a1 := fm_hi x (n := 6) (by decide)
  have b0 := fm_lo (x.fdiv 6) (n := 2) (by decide)
  have b1 := fm_hi (x.fdiv 6) (n := 2) (by decide)
  have c0 := fm_lo (x.fdiv 12) (n := 3) (by decide)
  have c1 := fm_hi (x.fdiv 12) (n := 3) (by decide)
  generalize x.fmod 6 = a at *
  generalize (x.fdiv 6).fmod 2 = b at *
  generalize (x.fdiv 12).fmod 3 = c at *
  have h : ((List.range 6).all fun a => (List.range 2).all fun b => (List.range 3).all fun c => treesL.contains (posts0 (a : Int) (b : Int) (c : Int))) = true := by decide +kernel
  have h1 := List.all_eq_true.mp h a.toNat (List.mem_range.mpr (by omega))
  have h2 := List.all_eq_true.mp h1 b.toNat (List.mem_range.mpr (by omega))
  have h3 := List.all_eq_true.mp h2 c.toNat (List.mem_range.mpr (by omega))
  rw [Int.toNat_of_nonneg a0, Int.toNat_of_nonneg b0, Int.toNat_of_nonneg c0] at h3
  simpa using h3
noncomputable def goodB (x : Str) : Bool := decide (x.cps.size ≤ 1000) && match driveP 200 (Sre.forSearch theCode x.cps 0 0 x.cps.size false) with
  | some m' => match m'.outcome with
    | some .failed => true
    | some .matched => decide ((Txt.slice x none (some (m'.start : Int))).length ≠ 0) && decide ((Txt.slice x (some (m'.handed : Int)) none).length ≠ 0) && decide ((cutS x m').length ≤ 1000)
    | _ => false
  | none => false
theorem goodN_of {x : Str} (h : goodB x = true) : GoodN x := by
  unfold goodB at h
  rw [Bool.and_eq_true, decide_eq_true_eq] at h
  obtain ⟨h1, h2⟩ := h
  refine ⟨h1, ?_⟩
  cases hd : driveP 200 (Sre.forSearch theCode x.cps 0 0 x.cps.size false) with
  | none => rw [hd] at h2; cases h2
  | some m' =>
    rw [hd] at h2
    dsimp only at h2
    refine ⟨m', rfl, ?_⟩
    cases ho : m'.outcome with
    | none => rw [ho] at h2; cases h2
    | some o =>
      rw [ho] at h2
      cases o with
      | failed => exact .inl ⟨rfl, by unfold up; rw [hd]; dsimp only; rw [ho]⟩
      | matched =>
        dsimp only at h2
        simp only [Bool.and_eq_true, decide_eq_true_eq] at h2
        exact .inr ⟨rfl, by unfold up; rw [hd]; dsimp only; rw [ho], h2.1.1, h2.1.2, h2.2⟩
      | _ => cases h2
noncomputable def treeB (t : List Int) : Bool := decide (t.length = 3) && t.all (fun x => decide (0 ≤ x) && decide (x ≤ 3)) && (readS (namesS t) == t) && (namesS t).all goodB && (namesS t).all (fun x => (longN (namesS t)).contains (up x)) && !((namesS t).contains (Str.ofString "")) && ((namesS t).all fun x => decide (x.length ≠ 0))
theorem trees_ok : treesL.all treeB = true := by decide +kernel
structure TreeF (t : List Int) : Prop where
  inR : InR t
  read : readS (namesS t) = t
  good : ∀ x ∈ namesS t, GoodN x
  isIn : ∀ x ∈ namesS t, up x ∈ longN (namesS t)
  full : ¬ Str.ofString "" ∈ namesS t
  long : ∀ x ∈ namesS t, x.length ≠ 0
theorem tree_f {t : List Int} (h : t ∈ treesL) : TreeF t := by
  have h1 := List.all_eq_true.mp trees_ok t h
  unfold treeB at h1
  simp only [Bool.and_eq_true, decide_eq_true_eq, beq_iff_eq, Bool.not_eq_true'] at h1
  obtain ⟨⟨⟨⟨⟨⟨h1, h2⟩, h3⟩, h4⟩, h5⟩, h6⟩, h7⟩ := h1
  refine ⟨⟨h1, fun i => ?_⟩, h3, fun x hx => goodN_of (List.all_eq_true.mp h4 x hx), fun x hx => ?_, fun hx => ?_, fun x hx => by simpa using List.all_eq_true.mp h7 x hx⟩
  · rw [List.getD_eq_getElem?_getD]
    cases e : t[i]? with
    | none => simp
    | some y =>
      have := List.all_eq_true.mp h2 y (List.mem_of_getElem? e)
      simpa using this
  · have := List.all_eq_true.mp h5 x hx
    simpa using this
  · have : (namesS t).contains (Str.ofString "") = true := by simpa using hx
    rw [this] at h6; cases h6
end
section
noncomputable def sel3 {α : Type} (a b c : α) (i : Nat) : α := if i = 0 then a else if i = 1 then b else c
theorem idict_cls {w : World} {o : Obj} {kvs : List (Int × Value)} (h : IDict w o kvs) : o.cls = .type "dict" := by
  obtain ⟨_, _, h1, _⟩ := h
  exact h1.1
theorem idict_nocell {w : World} {o : Obj} {kvs : List (Int × Value)} (h : IDict w o kvs) : ∀ z, o.data ≠ .cell z := by
  obtain ⟨_, _, _, h2, _⟩ := h
  intro z e; rw [h2] at e; cases e
theorem ne_cell {h₀ h : Heap} {L c : Addr} {oc : Obj} {all : List (Addr × Obj)} {z : Option Value} (N : News h₀ L h all) (h1 : (c, oc) ∈ all) (hd : oc.data = .cell z) {p : Addr × Obj} (h2 : p ∈ all) (hn : ∀ z, p.2.data ≠ .cell z) : p.1 ≠ c := by
  intro e
  have e1 := (N _ h1).1
  have e2 := (N _ h2).1
  rw [e] at e2
  rw [e2] at e1
  exact hn z (by rw [Option.some.inj e1]; exact hd)
noncomputable def WF (ps ls : List Int) (num : Int) (i : Nat) : List Int := wayS ps ls num (i : Int)
noncomputable def gdS (ps ls : List Int) (num : Int) : Gd := ⟨WF ps ls num 0, WF ps ls num 1, WF ps ls num 2, ls.getD 0 0, ls.getD 1 0, ls.getD 2 0⟩
noncomputable def cntS (WW : Nat → List Int) (s : Int) (p : Nat) : Nat := ((forestsS WW s).filter fun r => endS r (p : Int) == s).length
noncomputable def treesN (ps ls : List Int) (num : Int) : Nat := (forestsS (WF ps ls num) 3).length
noncomputable def dOf (g : G) (p : Nat) : List (Int × Int) := if p = 0 then g.d0 else if p = 1 then g.d1 else g.d2
noncomputable def passS (ps ls : List Int) (num s : Int) (p : Nat) : Int := ls.getD p 0 * (cntS (WF ps ls num) s p : Int)
noncomputable def mkD (W : List Int) (y : Int) : List (Int × Int) := if 0 < y then W.foldl (fun a k => putS a k y) [] else []
noncomputable def totS (g : G) : Nat → List (Int × Int)
  | 0 => []
  | p + 1 => addS (totS g p) (dOf g p)
noncomputable def smStep (y : Int) (a : List (Int × Int)) (k : Int) : List (Int × Int) := putS a k ((getS a k).getD 0 + y)
noncomputable def smS (ps ls : List Int) (num s : Int) : Nat → List (Int × Int)
  | 0 => []
  | p + 1 => if 0 < passS ps ls num s p then (WF ps ls num p).foldl (smStep (passS ps ls num s p)) (smS ps ls num s p) else smS ps ls num s p
structure PLaw (ps ls : List Int) (num s : Int) (gst : Nat → G) : Prop where
  g0 : gst 0 = ⟨ps, [], [], [], 3⟩
  run : ∀ i, i < treesN ps ls num → runG (gdS ps ls num) 64 ⟨(gst i).ps, (gst i).d0, (gst i).d1, (gst i).d2, s⟩ = some (gst (i + 1))
  tree : ∀ i, i ≤ treesN ps ls num → (gst i).ps ∈ treesL
  back : (gst (treesN ps ls num)).ps = ps
  count : ∀ p, p < 3 → sumS (dOf (gst (treesN ps ls num)) p) = passS ps ls num s p * (WF ps ls num p).length
  same : ∀ p, p < 3 → eqS (dOf (gst (treesN ps ls num)) p) (mkD (WF ps ls num p) (passS ps ls num s p)) = true
  few : ∀ p, p < 3 → (dOf (gst (treesN ps ls num)) p).length ≤ 4
  total : sumS (totS (gst (treesN ps ls num)) 3) = sumS (smS ps ls num s 3)
  totEq : eqS (totS (gst (treesN ps ls num)) 3) (smS ps ls num s 3) = true
theorem WF_in (ps ls : List Int) (num : Int) (i : Nat) : (WF ps ls num i).length ≤ 4 ∧ ∀ x ∈ WF ps ls num i, 0 ≤ x ∧ x ≤ 3 := by
  have h : (rowK ps ls (i : Int) 4).length ≤ 4 ∧ ∀ x ∈ rowK ps ls (i : Int) 4, 0 ≤ x ∧ x ≤ 3 := by
    unfold rowK
    refine ⟨Nat.le_trans (List.length_filter_le _ _) (by simp), fun x hx => ?_⟩
    have := (List.mem_filter.mp hx).1
    obtain ⟨k, hk, rfl⟩ := List.mem_map.mp this
    have := List.mem_range.mp hk
    omega
  unfold WF wayS
  split
  · exact h
  · exact ⟨by rw [List.length_reverse]; exact h.1, fun x hx => h.2 x (List.mem_reverse.mp hx)⟩
end
section
/-! the graph by its six edges -/
structure Gr where
  b01 : Bool
  b02 : Bool
  b12 : Bool
  b03 : Bool
  b13 : Bool
  b23 : Bool
noncomputable def Gr.row (g : Gr) (p : Nat) : List Int :=
  if p = 0 then (if g.b01 then [1] else []) ++ ((if g.b02 then [2] else []) ++ (if g.b03 then [3] else []))
  else if p = 1 then (if g.b01 then [0] else []) ++ ((if g.b12 then [2] else []) ++ (if g.b13 then [3] else []))
  else (if g.b02 then [0] else []) ++ ((if g.b12 then [1] else []) ++ (if g.b23 then [3] else []))
noncomputable def rev (r : Bool) (l : List Int) : List Int := if r then l.reverse else l
/-! numbers made plain before they are handed on: the check is run by the kernel -/
noncomputable def force {α : Type} (n : Nat) (f : Nat → α) : α := match n with
  | 0 => f 0
  | 1 => f 1
  | 2 => f 2
  | 3 => f 3
  | k => f k
theorem force_eq {α : Type} (n : Nat) (f : Nat → α) : force n f = f n := by unfold force; split <;> rfl
noncomputable def forceB {α : Type} : Nat → Nat → (Nat → α) → α
  | 0, n, f => f n
  | m + 1, n, f => if n = m + 1 then f (m + 1) else if n = 0 then f 0 else forceB m n f
theorem forceB_eq {α : Type} : ∀ (m n : Nat) (f : Nat → α), forceB m n f = f n
  | 0, _, _ => rfl
  | m + 1, n, f => by
    unfold forceB
    split
    · rename_i h; rw [h]
    · split
      · rename_i h; rw [h]
      · exact forceB_eq m n f
noncomputable def mk4 (a b c d : Nat) (n : Nat) : Nat := match n with
  | 0 => a
  | 1 => b
  | 2 => c
  | _ => d
noncomputable def succW (W : List Int) (c : Nat) : Nat := (newP W (c : Int)).toNat
noncomputable def tabW (W : List Int) (k : (Nat → Nat) → Bool) : Bool := force (succW W 0) fun a => force (succW W 1) fun b => force (succW W 2) fun c => force (succW W 3) fun d => k (mk4 a b c d)
noncomputable def pw (k : Nat) : Nat := mk4 1 256 65536 16777216 k
noncomputable def walkF (t0 t1 t2 : Nat → Nat) : Nat → Nat → Nat → Nat → Nat → Nat → Nat → Nat → (Nat → Nat → Nat → Nat → Nat → Nat → Bool) → Bool
  | 0, p0, p1, p2, h, a, b, c, k => match h with
    | 0 => false
    | 1 => false
    | 2 => false
    | _ => k p0 p1 p2 a b c
  | n + 1, p0, p1, p2, h, a, b, c, k => match h with
    | 0 => force (t0 p0) fun x => walkF t0 t1 t2 n x p1 p2 x (a + pw x) b c k
    | 1 => force (t1 p1) fun x => walkF t0 t1 t2 n p0 x p2 x a (b + pw x) c k
    | 2 => force (t2 p2) fun x => walkF t0 t1 t2 n p0 p1 x x a b (c + pw x) k
    | _ => k p0 p1 p2 a b c
noncomputable def treeN (p0 p1 p2 : Nat) : Bool := Nat.testBit 13333935877160697856 (16 * p0 + 4 * p1 + p2)
noncomputable def guestsF (t0 t1 t2 : Nat → Nat) (s : Nat) : Nat → Nat → Nat → Nat → Nat → Nat → Nat → (Nat → Nat → Nat → Nat → Nat → Nat → Bool) → Bool
  | 0, p0, p1, p2, a, b, c, k => k p0 p1 p2 a b c
  | n + 1, p0, p1, p2, a, b, c, k => walkF t0 t1 t2 12 p0 p1 p2 s a b c fun q0 q1 q2 a' b' c' => treeN q0 q1 q2 && guestsF t0 t1 t2 s n q0 q1 q2 a' b' c' k
noncomputable def packW (W : List Int) (y : Nat) : Nat := (if W.contains 0 then y else 0) + 256 * (if W.contains 1 then y else 0) + 65536 * (if W.contains 2 then y else 0) + 16777216 * (if W.contains 3 then y else 0)
noncomputable def chkF (t0 t1 t2 : Nat → Nat) (T s K0 K1 K2 p0 p1 p2 : Nat) : Bool :=
  guestsF t0 t1 t2 s T p0 p1 p2 0 0 0 fun q0 q1 q2 a b c => q0 == p0 && (q1 == p1 && (q2 == p2 && (a == K0 && (b == K1 && c == K2))))
noncomputable def treesN4 : List (Nat × Nat × Nat) := [(1, 2, 3), (1, 3, 0), (1, 3, 1), (1, 3, 3), (2, 0, 3), (2, 2, 3), (2, 3, 1), (2, 3, 3), (3, 0, 0), (3, 0, 1), (3, 0, 3), (3, 2, 0), (3, 2, 3), (3, 3, 0), (3, 3, 1), (3, 3, 3)]
noncomputable def allB (f : Bool → Bool) : Bool := f false && f true
noncomputable def inG (g : Gr) (p0 p1 p2 : Nat) : Bool := (g.row 0).contains (p0 : Int) && ((g.row 1).contains (p1 : Int) && (g.row 2).contains (p2 : Int))
noncomputable def cntG (g : Gr) (s : Nat) (p : Nat) : Nat := cntS g.row (s : Int) p
noncomputable def chkG (g : Gr) : Bool :=
  tabW (g.row 0) fun t0 => tabW (g.row 0).reverse fun t0' => tabW (g.row 1) fun t1 => tabW (g.row 1).reverse fun t1' => tabW (g.row 2) fun t2 => tabW (g.row 2).reverse fun t2' =>
  forceB 16 (forestsS g.row 3).length fun T => Nat.ble T 16 &&
  [0, 1, 2].all fun s =>
    forceB 16 (cntG g s 0) fun k0 => forceB 16 (cntG g s 1) fun k1 => forceB 16 (cntG g s 2) fun k2 =>
    Nat.ble k0 16 && Nat.ble k1 16 && Nat.ble k2 16 && treesN4.all fun t => if inG g t.1 t.2.1 t.2.2 then
      allB fun r0 => allB fun r1 => allB fun r2 => chkF (if r0 then t0' else t0) (if r1 then t1' else t1) (if r2 then t2' else t2) T s (packW (g.row 0) k0) (packW (g.row 1) k1) (packW (g.row 2) k2) t.1 t.2.1 t.2.2 else true
end
section
theorem nodup_len : ∀ {l m : List Int}, l.Nodup → (∀ x ∈ l, x ∈ m) → l.length ≤ m.length
  | [], _, _, _ => Nat.zero_le _
  | a :: l, m, nd, h => by
    rw [List.nodup_cons] at nd
    have ha := h a (List.mem_cons_self ..)
    have := nodup_len (m := m.erase a) nd.2 fun x hx => (List.mem_erase_of_ne (show x ≠ a from fun e => nd.1 (e ▸ hx))).mpr (h x (List.mem_cons_of_mem _ hx))
    rw [List.length_erase_of_mem ha] at this
    have hp := List.length_pos_of_mem ha
    rw [List.length_cons]; omega
/-! tables by what they give back -/
theorem getS_nil (k : Int) : getS [] k = none := rfl
theorem getS_cons (a x : Int) (d : List (Int × Int)) (k : Int) : getS ((a, x) :: d) k = if a = k then some x else getS d k := by
  unfold getS
  by_cases h : a = k
  · simp [h]
  · simp [h]
theorem getS_none {d : List (Int × Int)} {k : Int} : getS d k = none ↔ k ∉ d.map (·.1) := by
  induction d with
  | nil => simp [getS_nil]
  | cons p d ih =>
    obtain ⟨a, x⟩ := p
    rw [getS_cons]
    by_cases h : a = k
    · simp [h]
    · simp only [h, if_false, ih, List.map_cons, List.mem_cons, not_or]
      exact ⟨fun h2 => ⟨fun e => h e.symm, h2⟩, fun h2 => h2.2⟩
theorem mem_of_getS {d : List (Int × Int)} {k x : Int} (h : getS d k = some x) : (k, x) ∈ d := by
  induction d with
  | nil => simp [getS_nil] at h
  | cons p d ih =>
    obtain ⟨a, y⟩ := p
    rw [getS_cons] at h
    by_cases e : a = k
    · rw [if_pos e] at h; cases h; rw [e]; exact List.mem_cons_self ..
    · rw [if_neg e] at h; exact List.mem_cons_of_mem _ (ih h)
theorem getS_of_mem {d : List (Int × Int)} {k x : Int} (nd : (d.map (·.1)).Nodup) (h : (k, x) ∈ d) : getS d k = some x := by
  induction d with
  | nil => cases h
  | cons p d ih =>
    obtain ⟨a, y⟩ := p
    rw [List.map_cons, List.nodup_cons] at nd
    rw [getS_cons]
    rcases List.mem_cons.mp h with e | h
    · cases e; rw [if_pos rfl]
    · rw [if_neg (fun e => nd.1 (by rw [e]; exact List.mem_map.mpr ⟨_, h, rfl⟩))]; exact ih nd.2 h
theorem any_key {d : List (Int × Int)} {k : Int} : (d.any fun p => p.1 = k) = true ↔ k ∈ d.map (·.1) := by
  simp only [List.any_eq_true, List.mem_map, decide_eq_true_eq]
theorem putS_keys (d : List (Int × Int)) (k x : Int) : (putS d k x).map (·.1) = if k ∈ d.map (·.1) then d.map (·.1) else d.map (·.1) ++ [k] := by
  unfold putS
  by_cases h : k ∈ d.map (·.1)
  · rw [if_pos (any_key.mpr h), if_pos h, List.map_map]
    apply List.map_congr_left
    intro p _
    show (if p.1 = k then (p.1, x) else p).1 = p.1
    split <;> rfl
  · rw [if_neg (fun e => h (any_key.mp e)), if_neg h, List.map_append]; rfl
theorem putS_nodup {d : List (Int × Int)} (nd : (d.map (·.1)).Nodup) (k x : Int) : ((putS d k x).map (·.1)).Nodup := by
  rw [putS_keys]
  split
  · exact nd
  · rename_i h
    rw [List.nodup_append]
    exact ⟨nd, by simp, fun a ha b hb e => h (by rw [List.mem_singleton.mp hb] at e; exact e ▸ ha)⟩
theorem getS_append {d : List (Int × Int)} {a x k : Int} : getS (d ++ [(a, x)]) k = match getS d k with | some y => some y | none => if a = k then some x else none := by
  induction d with
  | nil => rw [List.nil_append, getS_cons, getS_nil]
  | cons p d ih =>
    obtain ⟨b, y⟩ := p
    rw [List.cons_append, getS_cons, getS_cons]
    by_cases h : b = k
    · rw [if_pos h, if_pos h]
    · rw [if_neg h, if_neg h, ih]
theorem getS_map {d : List (Int × Int)} {a x k : Int} : getS (d.map fun p => if p.1 = a then (p.1, x) else p) k = if a = k then (getS d k).map (fun _ => x) else getS d k := by
  induction d with
  | nil => simp [getS_nil]
  | cons p d ih =>
    obtain ⟨b, y⟩ := p
    rw [List.map_cons]
    by_cases h : b = a
    · subst h
      rw [if_pos rfl, getS_cons, getS_cons, ih]
      by_cases e : b = k <;> simp [e]
    · rw [if_neg h, getS_cons, getS_cons, ih]
      by_cases e : a = k
      · subst e; simp [h]
      · simp only [e, if_false]
theorem getS_putS (d : List (Int × Int)) (k x j : Int) : getS (putS d k x) j = if k = j then some x else getS d j := by
  unfold putS
  by_cases h : k ∈ d.map (·.1)
  · rw [if_pos (any_key.mpr h), getS_map]
    by_cases e : k = j
    · subst e
      rw [if_pos rfl, if_pos rfl]
      cases hg : getS d k with
      | none => exact absurd h (getS_none.mp hg)
      | some y => rfl
    · rw [if_neg e, if_neg e]
  · rw [if_neg (fun e => h (any_key.mp e)), getS_append]
    by_cases e : k = j
    · subst e; rw [getS_none.mpr h, if_pos rfl]
    · rw [if_neg e, if_neg e]
      cases getS d j <;> rfl
/-- a table with these numbers, none of them naught -/
structure Tab (d : List (Int × Int)) (f : Int → Int) : Prop where
  nd : (d.map (·.1)).Nodup
  get : ∀ k, getS d k = if f k = 0 then none else some (f k)
  pos : ∀ k, 0 ≤ f k
  low : ∀ k, f k ≠ 0 → 0 ≤ k ∧ k ≤ 3
theorem Tab.nil : Tab [] (fun _ => 0) := ⟨by simp, fun k => rfl, fun _ => Int.le_refl 0, fun _ h => absurd rfl h⟩
theorem Tab.congr {d : List (Int × Int)} {f g : Int → Int} (h : Tab d f) (e : ∀ k, f k = g k) : Tab d g := by
  have : f = g := funext e
  exact this ▸ h
theorem Tab.keys {d : List (Int × Int)} {f : Int → Int} (h : Tab d f) (k : Int) : k ∈ d.map (·.1) ↔ f k ≠ 0 := by
  have h1 := h.get k
  constructor
  · intro hm e
    rw [if_pos e] at h1
    exact getS_none.mp h1 hm
  · intro hf
    rw [if_neg hf] at h1
    exact List.mem_map.mpr ⟨_, mem_of_getS h1, rfl⟩
theorem Tab.put {d : List (Int × Int)} {f : Int → Int} (h : Tab d f) {k x : Int} (hx : 0 < x) (h0 : 0 ≤ k) (h3 : k ≤ 3) : Tab (putS d k x) (fun j => if j = k then x else f j) where
  nd := putS_nodup h.nd k x
  get := fun j => by
    rw [getS_putS, h.get j]
    by_cases e : k = j
    · subst e; simp; omega
    · have e' : ¬ j = k := fun q => e q.symm
      simp [e, e']
  pos := fun j => by
    show 0 ≤ if j = k then x else f j
    split
    · omega
    · exact h.pos j
  low := fun j hj => by
    have hj' : (if j = k then x else f j) ≠ 0 := hj
    by_cases e : j = k
    · subst e; exact ⟨h0, h3⟩
    · rw [if_neg e] at hj'; exact h.low j hj'
theorem Tab.few {d : List (Int × Int)} {f : Int → Int} (h : Tab d f) : d.length ≤ 4 := by
  have hs : d.map (·.1) ⊆ [0, 1, 2, 3] := fun k hk => by
    have := h.low k ((h.keys k).mp hk)
    have : k = 0 ∨ k = 1 ∨ k = 2 ∨ k = 3 := by omega
    simp; omega
  have := nodup_len h.nd fun x hx => hs hx
  simpa using this
theorem copyS_self : ∀ {d : List (Int × Int)}, (d.map (·.1)).Nodup → copyS d = d := by
  have key : ∀ (l a : List (Int × Int)), ((a ++ l).map (·.1)).Nodup → l.foldl (fun a p => putS a p.1 p.2) a = a ++ l := by
    intro l
    induction l with
    | nil => intro a _; simp
    | cons p l ih =>
      intro a nd
      obtain ⟨k, x⟩ := p
      have hk : k ∉ a.map (·.1) := by
        rw [List.map_append, List.map_cons, List.nodup_append] at nd
        intro hm
        exact nd.2.2 k hm k (List.mem_cons_self ..) rfl
      rw [List.foldl_cons]
      have : putS a k x = a ++ [(k, x)] := by
        unfold putS; rw [if_neg (fun e => hk (any_key.mp e))]
      show l.foldl _ (putS a k x) = _
      rw [this, ih (a ++ [(k, x)]) (by simpa using nd)]
      simp
  intro d nd
  exact (key d [] (by simpa using nd)).trans (by simp)
theorem addStep_get (a : List (Int × Int)) (k x j : Int) : getS (addStep a (k, x)) j = if k = j then some ((getS a k).getD 0 + x) else getS a j := by
  unfold addStep
  cases h : getS a k with
  | none => dsimp only; rw [getS_putS]; simp
  | some y => dsimp only; rw [getS_putS]; simp
theorem addStep_nodup {a : List (Int × Int)} (nd : (a.map (·.1)).Nodup) (p : Int × Int) : ((addStep a p).map (·.1)).Nodup := by
  unfold addStep; split <;> exact putS_nodup nd _ _
theorem Tab.getD {d : List (Int × Int)} {f : Int → Int} (h : Tab d f) (k : Int) : (getS d k).getD 0 = f k := by
  rw [h.get k]; split
  · rename_i e; rw [e]; rfl
  · rfl
theorem Tab.add1 {d : List (Int × Int)} {f : Int → Int} (h : Tab d f) {k x : Int} (hx : 0 < x) (h0 : 0 ≤ k) (h3 : k ≤ 3) : Tab (addStep d (k, x)) (fun j => if j = k then f k + x else f j) where
  nd := addStep_nodup h.nd _
  get := fun j => by
    rw [addStep_get, h.getD, h.get j]
    have := h.pos k
    by_cases e : k = j
    · subst e; simp; omega
    · have e' : ¬ j = k := fun q => e q.symm
      simp [e, e']
  pos := fun j => by
    show 0 ≤ if j = k then f k + x else f j
    have := h.pos k
    split
    · omega
    · exact h.pos j
  low := fun j hj => by
    have hj' : (if j = k then f k + x else f j) ≠ 0 := hj
    by_cases e : j = k
    · subst e; exact ⟨h0, h3⟩
    · rw [if_neg e] at hj'; exact h.low j hj'
theorem Tab.addS1 {d : List (Int × Int)} {f : Int → Int} (h : Tab d f) {k x : Int} (hx : 0 < x) (h0 : 0 ≤ k) (h3 : k ≤ 3) : Tab (addS d [(k, x)]) (fun j => if j = k then f k + x else f j) := by
  show Tab ([(k, x)].foldl addStep (copyS d)) _
  rw [copyS_self h.nd]
  exact h.add1 hx h0 h3
/-- the sum of two tables -/
theorem Tab.addS {d e : List (Int × Int)} {f g : Int → Int} (h : Tab d f) (h' : Tab e g) : Tab (addS d e) (fun k => f k + g k) := by
  have key : ∀ (l : List (Int × Int)) (a : List (Int × Int)) (φ : Int → Int), Tab a φ → (l.map (·.1)).Nodup → (∀ p ∈ l, 0 < p.2 ∧ 0 ≤ p.1 ∧ p.1 ≤ 3) → Tab (l.foldl addStep a) (fun k => φ k + (getS l k).getD 0) := by
    intro l
    induction l with
    | nil => intro a φ ha _ _; exact ha.congr fun k => by simp [getS_nil]
    | cons p l ih =>
      intro a φ ha nd hp
      obtain ⟨k, x⟩ := p
      have h1 := hp (k, x) (List.mem_cons_self ..)
      rw [List.map_cons, List.nodup_cons] at nd
      have := ih _ _ (ha.add1 h1.1 h1.2.1 h1.2.2) nd.2 fun q hq => hp q (List.mem_cons_of_mem _ hq)
      refine this.congr fun j => ?_
      rw [getS_cons]
      by_cases e : j = k
      · subst e
        rw [if_pos rfl, if_pos rfl, getS_none.mpr nd.1]; simp
      · have e' : ¬ k = j := fun q => e q.symm
        rw [if_neg e, if_neg e']
  show Tab (e.foldl addStep (copyS d)) _
  rw [copyS_self h.nd]
  refine (key e d f h h'.nd fun p hp => ?_).congr fun k => by rw [h'.getD]
  have hg := getS_of_mem h'.nd (show (p.1, p.2) ∈ e from hp)
  have h2 := h'.get p.1
  rw [hg] at h2
  split at h2
  · cases h2
  · rename_i hne
    have h3 := h'.low p.1 hne
    have h4 := h'.pos p.1
    have h5 : p.2 = g p.1 := Option.some.inj h2
    exact ⟨by omega, h3.1, h3.2⟩
/-- one table, two ways to write it -/
theorem hits_true {e : List (Int × Int)} : ∀ {d : List (Int × Int)}, (∀ k x, (k, x) ∈ d → getS e k = some x) → hitsS e d = true
  | [], _ => rfl
  | (k, x) :: d, h => by
    rw [hitsS, h k x (List.mem_cons_self ..)]
    simp only [beq_self_eq_true, Bool.true_and]
    exact hits_true fun a b hab => h a b (List.mem_cons_of_mem _ hab)
theorem hits_get {e : List (Int × Int)} : ∀ {d : List (Int × Int)}, hitsS e d = true → ∀ k x, (k, x) ∈ d → getS e k = some x
  | [], _, _, _, h => nomatch h
  | (a, y) :: d, h, k, x, hm => by
    rw [hitsS] at h
    cases hg : getS e a with
    | none => rw [hg] at h; cases h
    | some z =>
      rw [hg] at h
      simp only [Bool.and_eq_true, beq_iff_eq] at h
      rcases List.mem_cons.mp hm with q | hm
      · cases q; rw [hg, h.1]
      · exact hits_get h.2 k x hm
theorem Tab.eq {d e : List (Int × Int)} {f : Int → Int} (h : Tab d f) (h' : Tab e f) : eqS d e = true := by
  unfold eqS
  rw [Bool.and_eq_true, beq_iff_eq]
  have hk : ∀ k, k ∈ d.map (·.1) ↔ k ∈ e.map (·.1) := fun k => (h.keys k).trans (h'.keys k).symm
  have h1 := nodup_len h.nd (fun k hk1 => (hk k).mp hk1)
  have h2 := nodup_len h'.nd (fun k hk1 => (hk k).mpr hk1)
  rw [List.length_map, List.length_map] at h1 h2
  exact ⟨by omega, hits_true fun k x hm => by rw [h'.get, ← h.get]; exact getS_of_mem h.nd hm⟩
theorem Tab.ne {d e : List (Int × Int)} {f g : Int → Int} (h : Tab d f) (h' : Tab e g) {k : Int} (hk : f k ≠ g k) (hf : f k ≠ 0) : eqS d e = false := by
  cases hq : eqS d e with
  | false => rfl
  | true =>
    unfold eqS at hq
    rw [Bool.and_eq_true] at hq
    have h1 : getS d k = some (f k) := by rw [h.get, if_neg hf]
    have h2 := hits_get hq.2 k _ (mem_of_getS h1)
    rw [h'.get] at h2
    split at h2
    · cases h2
    · exact absurd (Option.some.inj h2).symm hk
theorem sumS_cons (a x : Int) (d : List (Int × Int)) : sumS ((a, x) :: d) = x + sumS d := by
  have key : ∀ (l : List (Int × Int)) (z : Int), l.foldl (fun s p => s + p.2) z = z + l.foldl (fun s p => s + p.2) 0 := by
    intro l
    induction l with
    | nil => intro z; simp
    | cons p l ih => intro z; rw [List.foldl_cons, List.foldl_cons, ih (z + p.2), ih (0 + p.2)]; omega
  unfold sumS
  rw [List.foldl_cons, key d (0 + x)]; omega
/-- the sum over a table -/
theorem getS_none_of {d : List (Int × Int)} {k : Int} (h : k ∉ d.map (·.1)) : getS d k = none := getS_none.mpr h
theorem sumS_four : ∀ {d : List (Int × Int)}, (d.map (·.1)).Nodup → (∀ k ∈ d.map (·.1), 0 ≤ k ∧ k ≤ 3) → sumS d = (getS d 0).getD 0 + (getS d 1).getD 0 + (getS d 2).getD 0 + (getS d 3).getD 0
  | [], _, _ => rfl
  | (a, x) :: d, nd, h => by
    rw [List.map_cons, List.nodup_cons] at nd
    have ih := sumS_four nd.2 fun k hk => h k (List.mem_cons_of_mem _ hk)
    have ha := h a (List.mem_cons_self ..)
    have hn := getS_none_of nd.1
    rw [sumS_cons, ih]
    simp only [getS_cons]
    obtain rfl | rfl | rfl | rfl : a = 0 ∨ a = 1 ∨ a = 2 ∨ a = 3 := by omega
    · rw [hn]; simp; omega
    · rw [hn]; simp; omega
    · rw [hn]; simp; omega
    · rw [hn]; simp; omega
theorem Tab.sum {d : List (Int × Int)} {f : Int → Int} (h : Tab d f) : sumS d = f 0 + f 1 + f 2 + f 3 := by
  rw [sumS_four h.nd fun k hk => h.low k ((h.keys k).mp hk), h.getD, h.getD, h.getD, h.getD]
end
section
theorem newP_mem {W : List Int} {x : Int} (h : x ∈ W) : newP W x ∈ W := by
  have hl := List.length_pos_of_mem h
  have h0 := fm_lo (((W.idxOf x : Nat) : Int) + 1) (n := (W.length : Int)) (by omega)
  have h1 := fm_hi (((W.idxOf x : Nat) : Int) + 1) (n := (W.length : Int)) (by omega)
  unfold newP
  generalize Int.fmod (((W.idxOf x : Nat) : Int) + 1) (W.length : Int) = j at *
  have hj : j.toNat < W.length := by omega
  rw [List.getD_eq_getElem?_getD, List.getElem?_eq_getElem hj]
  exact List.getElem_mem hj
noncomputable def bump (u : Nat → Int → Nat) (p : Nat) (k : Int) (q : Nat) (x : Int) : Nat := if q = p ∧ x = k then u q x + 1 else u q x
/-- a guest's walk -/
inductive Wk (W : Nat → List Int) : Nat → List Int → Int → (Nat → Int → Nat) → List Int → (Nat → Int → Nat) → Prop
  | done {n ps u} : Wk W n ps 3 u ps u
  | step {n ps u ps' u'} (p : Nat) : p < 3 → Wk W n (ps.set p (newP (W p) (ps.getD p 0))) (newP (W p) (ps.getD p 0)) (bump u p (newP (W p) (ps.getD p 0))) ps' u' → Wk W (n + 1) ps (p : Int) u ps' u'
noncomputable def packU (f : Int → Nat) : Nat := f 0 + 256 * f 1 + 65536 * f 2 + 16777216 * f 3
theorem packU_bump (u : Nat → Int → Nat) (p : Nat) {x : Nat} (hx : x ≤ 3) : packU (bump u p (x : Int) p) = packU (u p) + pw x := by
  obtain rfl | rfl | rfl | rfl : x = 0 ∨ x = 1 ∨ x = 2 ∨ x = 3 := by omega
  all_goals simp [packU, bump, pw, mk4]; omega
theorem packU_other (u : Nat → Int → Nat) {p q : Nat} (x : Int) (h : q ≠ p) : packU (bump u p x q) = packU (u q) := by
  simp [packU, bump, h]
theorem tabW_eq (W : List Int) (k : (Nat → Nat) → Bool) : tabW W k = k (mk4 (succW W 0) (succW W 1) (succW W 2) (succW W 3)) := by
  simp only [tabW, force_eq]
theorem mk4_succ (W : List Int) {c : Nat} (h : c ≤ 3) : mk4 (succW W 0) (succW W 1) (succW W 2) (succW W 3) c = succW W c := by
  obtain rfl | rfl | rfl | rfl : c = 0 ∨ c = 1 ∨ c = 2 ∨ c = 3 := by omega
  all_goals rfl
theorem succ_mem {W : List Int} (hW : ∀ x ∈ W, 0 ≤ x ∧ x ≤ 3) {c : Nat} (h : (c : Int) ∈ W) : newP W (c : Int) = ((succW W c : Nat) : Int) ∧ ((succW W c : Nat) : Int) ∈ W ∧ succW W c ≤ 3 := by
  have hm := newP_mem h
  have hb := hW _ hm
  have he : newP W (c : Int) = ((succW W c : Nat) : Int) := by unfold succW; omega
  exact ⟨he, he ▸ hm, by have := hW _ (he ▸ hm); omega⟩
section
variable {W : Nat → List Int} {t0 t1 t2 : Nat → Nat}
theorem walkF_sound (hW : ∀ p, ∀ x ∈ W p, 0 ≤ x ∧ x ≤ 3) (h0 : ∀ c, c ≤ 3 → t0 c = succW (W 0) c) (h1 : ∀ c, c ≤ 3 → t1 c = succW (W 1) c) (h2 : ∀ c, c ≤ 3 → t2 c = succW (W 2) c) :
    ∀ (n p0 p1 p2 h a b c : Nat) (k : Nat → Nat → Nat → Nat → Nat → Nat → Bool) (u : Nat → Int → Nat), walkF t0 t1 t2 n p0 p1 p2 h a b c k = true → (p0 : Int) ∈ W 0 → (p1 : Int) ∈ W 1 → (p2 : Int) ∈ W 2 → h ≤ 3 →
      a = packU (u 0) → b = packU (u 1) → c = packU (u 2) →
      ∃ (q0 q1 q2 : Nat) (u' : Nat → Int → Nat), Wk W n [(p0 : Int), (p1 : Int), (p2 : Int)] (h : Int) u [(q0 : Int), (q1 : Int), (q2 : Int)] u' ∧ ((q0 : Int) ∈ W 0 ∧ (q1 : Int) ∈ W 1 ∧ (q2 : Int) ∈ W 2) ∧ k q0 q1 q2 (packU (u' 0)) (packU (u' 1)) (packU (u' 2)) = true := by
  intro n
  induction n with
  | zero =>
    intro p0 p1 p2 h a b c k u hr m0 m1 m2 hh ha hb hc
    obtain rfl | rfl | rfl | rfl : h = 0 ∨ h = 1 ∨ h = 2 ∨ h = 3 := by omega
    · simp [walkF] at hr
    · simp [walkF] at hr
    · simp [walkF] at hr
    · simp only [walkF] at hr
      exact ⟨p0, p1, p2, u, .done, ⟨m0, m1, m2⟩, by rw [← ha, ← hb, ← hc]; exact hr⟩
  | succ n ih =>
    intro p0 p1 p2 h a b c k u hr m0 m1 m2 hh ha hb hc
    have le3 : ∀ {p x : Nat}, (x : Int) ∈ W p → x ≤ 3 := fun hm => by have := hW _ _ hm; omega
    obtain rfl | rfl | rfl | rfl : h = 0 ∨ h = 1 ∨ h = 2 ∨ h = 3 := by omega
    · simp only [walkF, force_eq] at hr
      rw [h0 p0 (le3 m0)] at hr
      obtain ⟨s1, s2, s3⟩ := succ_mem (hW 0) m0
      obtain ⟨q0, q1, q2, u', hwk, hm, hk⟩ := ih _ _ _ _ _ _ _ k (bump u 0 (succW (W 0) p0 : Int)) hr s2 m1 m2 s3 (by rw [packU_bump u 0 s3, ha]) (by rw [packU_other u _ (by decide), hb]) (by rw [packU_other u _ (by decide), hc])
      exact ⟨q0, q1, q2, u', .step (ps := [(p0 : Int), (p1 : Int), (p2 : Int)]) 0 (by decide) (by show Wk W n ([(p0 : Int), (p1 : Int), (p2 : Int)].set 0 (newP (W 0) (p0 : Int))) (newP (W 0) (p0 : Int)) (bump u 0 (newP (W 0) (p0 : Int))) _ _; rw [s1]; exact hwk), hm, hk⟩
    · simp only [walkF, force_eq] at hr
      rw [h1 p1 (le3 m1)] at hr
      obtain ⟨s1, s2, s3⟩ := succ_mem (hW 1) m1
      obtain ⟨q0, q1, q2, u', hwk, hm, hk⟩ := ih _ _ _ _ _ _ _ k (bump u 1 (succW (W 1) p1 : Int)) hr m0 s2 m2 s3 (by rw [packU_other u _ (by decide), ha]) (by rw [packU_bump u 1 s3, hb]) (by rw [packU_other u _ (by decide), hc])
      exact ⟨q0, q1, q2, u', .step (ps := [(p0 : Int), (p1 : Int), (p2 : Int)]) 1 (by decide) (by show Wk W n ([(p0 : Int), (p1 : Int), (p2 : Int)].set 1 (newP (W 1) (p1 : Int))) (newP (W 1) (p1 : Int)) (bump u 1 (newP (W 1) (p1 : Int))) _ _; rw [s1]; exact hwk), hm, hk⟩
    · simp only [walkF, force_eq] at hr
      rw [h2 p2 (le3 m2)] at hr
      obtain ⟨s1, s2, s3⟩ := succ_mem (hW 2) m2
      obtain ⟨q0, q1, q2, u', hwk, hm, hk⟩ := ih _ _ _ _ _ _ _ k (bump u 2 (succW (W 2) p2 : Int)) hr m0 m1 s2 s3 (by rw [packU_other u _ (by decide), ha]) (by rw [packU_other u _ (by decide), hb]) (by rw [packU_bump u 2 s3, hc])
      exact ⟨q0, q1, q2, u', .step (ps := [(p0 : Int), (p1 : Int), (p2 : Int)]) 2 (by decide) (by show Wk W n ([(p0 : Int), (p1 : Int), (p2 : Int)].set 2 (newP (W 2) (p2 : Int))) (newP (W 2) (p2 : Int)) (bump u 2 (newP (W 2) (p2 : Int))) _ _; rw [s1]; exact hwk), hm, hk⟩
    · simp only [walkF] at hr
      exact ⟨p0, p1, p2, u, .done, ⟨m0, m1, m2⟩, by rw [← ha, ← hb, ← hc]; exact hr⟩
/-- guests, one by one -/
inductive Gs (W : Nat → List Int) (s : Int) : Nat → List Int → (Nat → Int → Nat) → List Int → (Nat → Int → Nat) → Prop
  | nil {ps u} : Gs W s 0 ps u ps u
  | cons {n ps u ps1 u1 ps' u'} : Wk W 12 ps s u ps1 u1 → ps1 ∈ treesL → (∀ p, p < 3 → ps1.getD p 0 ∈ W p) → Gs W s n ps1 u1 ps' u' → Gs W s (n + 1) ps u ps' u'
theorem treeN_mem {q0 q1 q2 : Nat} (h0 : q0 ≤ 3) (h1 : q1 ≤ 3) (h2 : q2 ≤ 3) (h : treeN q0 q1 q2 = true) : [(q0 : Int), (q1 : Int), (q2 : Int)] ∈ treesL := by
  have key : ((List.range 4).all fun a => (List.range 4).all fun b => (List.range 4).all fun c => !(treeN a b c) || treesL.contains [(a : Int), (b : Int), (c : Int)]) = true := by decide +kernel
  have k1 := List.all_eq_true.mp key q0 (List.mem_range.mpr (by omega))
  have k2 := List.all_eq_true.mp k1 q1 (List.mem_range.mpr (by omega))
  have k3 := List.all_eq_true.mp k2 q2 (List.mem_range.mpr (by omega))
  rw [h] at k3
  simpa using k3
theorem guestsF_sound (hW : ∀ p, ∀ x ∈ W p, 0 ≤ x ∧ x ≤ 3) (h0 : ∀ c, c ≤ 3 → t0 c = succW (W 0) c) (h1 : ∀ c, c ≤ 3 → t1 c = succW (W 1) c) (h2 : ∀ c, c ≤ 3 → t2 c = succW (W 2) c) {s : Nat} (hs : s ≤ 3) :
    ∀ (n p0 p1 p2 a b c : Nat) (k : Nat → Nat → Nat → Nat → Nat → Nat → Bool) (u : Nat → Int → Nat), guestsF t0 t1 t2 s n p0 p1 p2 a b c k = true → (p0 : Int) ∈ W 0 → (p1 : Int) ∈ W 1 → (p2 : Int) ∈ W 2 →
      a = packU (u 0) → b = packU (u 1) → c = packU (u 2) →
      ∃ (q0 q1 q2 : Nat) (u' : Nat → Int → Nat), Gs W (s : Int) n [(p0 : Int), (p1 : Int), (p2 : Int)] u [(q0 : Int), (q1 : Int), (q2 : Int)] u' ∧ k q0 q1 q2 (packU (u' 0)) (packU (u' 1)) (packU (u' 2)) = true := by
  intro n
  induction n with
  | zero =>
    intro p0 p1 p2 a b c k u hr m0 m1 m2 ha hb hc
    simp only [guestsF] at hr
    exact ⟨p0, p1, p2, u, .nil, by rw [← ha, ← hb, ← hc]; exact hr⟩
  | succ n ih =>
    intro p0 p1 p2 a b c k u hr m0 m1 m2 ha hb hc
    simp only [guestsF] at hr
    obtain ⟨q0, q1, q2, u1, hwk, ⟨w0, w1, w2⟩, hk⟩ := walkF_sound hW h0 h1 h2 12 p0 p1 p2 s a b c _ u hr m0 m1 m2 hs ha hb hc
    rw [Bool.and_eq_true] at hk
    have le3 : ∀ {p x : Nat}, (x : Int) ∈ W p → x ≤ 3 := fun hm => by have := hW _ _ hm; omega
    obtain ⟨r0, r1, r2, u', hg, hk'⟩ := ih q0 q1 q2 _ _ _ k u1 hk.2 w0 w1 w2 rfl rfl rfl
    refine ⟨r0, r1, r2, u', .cons hwk (treeN_mem (le3 w0) (le3 w1) (le3 w2) hk.1) (fun p hp => ?_) hg, hk'⟩
    obtain rfl | rfl | rfl : p = 0 ∨ p = 1 ∨ p = 2 := by omega
    · exact w0
    · exact w1
    · exact w2
theorem chkF_sound (hW : ∀ p, ∀ x ∈ W p, 0 ≤ x ∧ x ≤ 3) (h0 : ∀ c, c ≤ 3 → t0 c = succW (W 0) c) (h1 : ∀ c, c ≤ 3 → t1 c = succW (W 1) c) (h2 : ∀ c, c ≤ 3 → t2 c = succW (W 2) c) {s : Nat} (hs : s ≤ 3) {T K0 K1 K2 p0 p1 p2 : Nat}
    (h : chkF t0 t1 t2 T s K0 K1 K2 p0 p1 p2 = true) (m0 : (p0 : Int) ∈ W 0) (m1 : (p1 : Int) ∈ W 1) (m2 : (p2 : Int) ∈ W 2) :
    ∃ u, Gs W (s : Int) T [(p0 : Int), (p1 : Int), (p2 : Int)] (fun _ _ => 0) [(p0 : Int), (p1 : Int), (p2 : Int)] u ∧ packU (u 0) = K0 ∧ packU (u 1) = K1 ∧ packU (u 2) = K2 := by
  obtain ⟨q0, q1, q2, u', hg, hk⟩ := guestsF_sound hW h0 h1 h2 hs T p0 p1 p2 0 0 0 _ (fun _ _ => 0) h m0 m1 m2 rfl rfl rfl
  simp only [Bool.and_eq_true, beq_iff_eq] at hk
  obtain ⟨rfl, rfl, rfl, e0, e1, e2⟩ := hk
  exact ⟨u', hg, e0, e1, e2⟩
end
end
section
theorem next_same {W : List Int} {i : Nat} (h : i < W.length) : W.getD (Int.fmod ((i : Nat) + 1) W.length).toNat 0 = (W ++ W).getD (i + 1) 0 := by
  rw [Int.fmod_eq_emod_of_nonneg _ (by omega)]
  by_cases e : i + 1 < W.length
  · rw [Int.emod_eq_of_lt (by omega) (by omega)]
    have : ((i : Int) + 1).toNat = i + 1 := by omega
    rw [this, List.getD_eq_getElem?_getD, List.getD_eq_getElem?_getD, List.getElem?_append_left e]
  · have e1 : (i : Int) + 1 = W.length := by omega
    rw [e1, Int.emod_self]
    have e2 : i + 1 = W.length := by omega
    rw [e2, List.getD_eq_getElem?_getD, List.getD_eq_getElem?_getD, List.getElem?_append_right (Nat.le_refl _), Nat.sub_self]
    rfl
theorem okG_of {g : Gd} {c : G} {f : Int → Int} (hps : c.ps.length = 3) (h0 : 0 ≤ c.here) (h2 : c.here ≤ 2) (hm : c.pp ∈ g.row c.here) (hl : (g.row c.here).length ≤ 4) (hb : ∀ x ∈ g.row c.here, 0 ≤ x ∧ x ≤ 3) (hT : Tab c.dd f) (hv : 0 < g.lv c.here) : okG g c = true := by
  have hk := hb _ (newP_mem hm)
  have hne := (hT.addS1 hv hk.1 hk.2).ne hT (k := newP (g.row c.here) c.pp) (by simp; omega) (by have := hT.pos (newP (g.row c.here) c.pp); simp; omega)
  have hi := List.idxOf_lt_length_of_mem hm
  have hs := next_same hi
  have hf := hT.few
  unfold okG
  simp only [Bool.and_eq_true, beq_iff_eq, decide_eq_true_eq, Bool.not_eq_true', List.contains_iff_mem]
  refine ⟨⟨⟨⟨⟨⟨⟨⟨hps, h0⟩, h2⟩, hm⟩, hl⟩, ?_⟩, by omega⟩, hne⟩, hs⟩
  rw [List.all_eq_true]
  intro x hx
  have := hb x hx
  simp only [Bool.and_eq_true, decide_eq_true_eq]
  exact this
structure Fit (gd : Gd) (W : Nat → List Int) : Prop where
  w0 : gd.W0 = W 0
  w1 : gd.W1 = W 1
  w2 : gd.W2 = W 2
  len : ∀ p, (W p).length ≤ 4
  rng : ∀ p, ∀ x ∈ W p, 0 ≤ x ∧ x ≤ 3
  l0 : 0 < gd.L0
  l1 : 0 < gd.L1
  l2 : 0 < gd.L2
noncomputable def TabsU (gd : Gd) (u : Nat → Int → Nat) (d0 d1 d2 : List (Int × Int)) : Prop :=
  Tab d0 (fun k => gd.L0 * (u 0 k : Int)) ∧ Tab d1 (fun k => gd.L1 * (u 1 k : Int)) ∧ Tab d2 (fun k => gd.L2 * (u 2 k : Int))
theorem tab_bump {d : List (Int × Int)} {l : Int} {u : Nat → Int → Nat} {p : Nat} {k : Int} (h : Tab d (fun k => l * (u p k : Int))) (hl : 0 < l) (h0 : 0 ≤ k) (h3 : k ≤ 3) : Tab (addS d [(k, l)]) (fun j => l * (bump u p k p j : Int)) := by
  refine (h.addS1 hl h0 h3).congr fun j => ?_
  unfold bump
  by_cases e : j = k
  · subst e; simp [Int.mul_add]
  · simp [e]
theorem tab_other {d : List (Int × Int)} {l : Int} {u : Nat → Int → Nat} {p q : Nat} {k : Int} (h : Tab d (fun k => l * (u q k : Int))) (hq : q ≠ p) : Tab d (fun j => l * (bump u p k q j : Int)) := by
  refine h.congr fun j => ?_
  unfold bump
  simp [hq]
theorem getD_set (ps : List Int) (p q : Nat) (k : Int) (h : p < ps.length) : (ps.set p k).getD q 0 = if q = p then k else ps.getD q 0 := by
  rw [List.getD_eq_getElem?_getD, List.getD_eq_getElem?_getD, List.getElem?_set]
  by_cases e : p = q
  · subst e; simp [h]
  · have e' : ¬ q = p := fun x => e x.symm
    simp [e, e']
theorem runG_of {gd : Gd} {W : Nat → List Int} (F : Fit gd W) {n : Nat} {ps : List Int} {h : Int} {u : Nat → Int → Nat} {ps' : List Int} {u' : Nat → Int → Nat} (hw : Wk W n ps h u ps' u') :
    ps.length = 3 → (∀ p, p < 3 → ps.getD p 0 ∈ W p) → (∀ p x, u p x ≠ 0 → x ∈ W p) → ∀ d0 d1 d2, TabsU gd u d0 d1 d2 → ∀ m, n ≤ m →
      ∃ d0' d1' d2', runG gd m ⟨ps, d0, d1, d2, h⟩ = some ⟨ps', d0', d1', d2', 3⟩ ∧ TabsU gd u' d0' d1' d2' ∧ ps'.length = 3 ∧ (∀ p, p < 3 → ps'.getD p 0 ∈ W p) ∧ (∀ p x, u' p x ≠ 0 → x ∈ W p) ∧ ∀ p x, u' p x ≤ u p x + n := by
  induction hw with
  | @done n ps u =>
    intro hl hm hs d0 d1 d2 hT m _
    refine ⟨d0, d1, d2, ?_, hT, hl, hm, hs, fun p x => Nat.le_add_right _ _⟩
    cases m with
    | zero => rfl
    | succ m => rfl
  | @step n ps u ps' u' p hp hw ih =>
    intro hl hm hs d0 d1 d2 hT m hnm
    obtain ⟨m, rfl⟩ : ∃ k, m = k + 1 := ⟨m - 1, by omega⟩
    have hmp := hm p hp
    have hk := F.rng p _ (newP_mem hmp)
    have hkm := newP_mem hmp
    generalize hkk : newP (W p) (ps.getD p 0) = k at *
    have hps2 : ∀ q, q < 3 → (ps.set p k).getD q 0 ∈ W q := fun q hq => by
      rw [getD_set ps p q k (by omega)]
      split
      · rename_i e; subst e; exact hkm
      · exact hm q hq
    have hs2 : ∀ q x, bump u p k q x ≠ 0 → x ∈ W q := fun q x hx => by
      unfold bump at hx
      split at hx
      · rename_i e; rw [e.1, e.2]; exact hkm
      · exact hs q x hx
    obtain ⟨T0, T1, T2⟩ := hT
    have fin : ∀ e0 e1 e2, TabsU gd (bump u p k) e0 e1 e2 → stepG gd ⟨ps, d0, d1, d2, (p : Int)⟩ = ⟨ps.set p k, e0, e1, e2, k⟩ → okG gd ⟨ps, d0, d1, d2, (p : Int)⟩ = true →
        ∃ d0' d1' d2', runG gd (m + 1) ⟨ps, d0, d1, d2, (p : Int)⟩ = some ⟨ps', d0', d1', d2', 3⟩ ∧ TabsU gd u' d0' d1' d2' ∧ ps'.length = 3 ∧ (∀ p, p < 3 → ps'.getD p 0 ∈ W p) ∧ (∀ p x, u' p x ≠ 0 → x ∈ W p) ∧ ∀ q x, u' q x ≤ u q x + (n + 1) := by
      intro e0 e1 e2 hT2 hst hok
      obtain ⟨d0', d1', d2', hr, hT', hl', hm', hs', hu'⟩ := ih (by rw [List.length_set]; exact hl) hps2 hs2 e0 e1 e2 hT2 m (by omega)
      refine ⟨d0', d1', d2', ?_, hT', hl', hm', hs', fun q x => ?_⟩
      · rw [runG, if_neg (by show ¬ (p : Int) = 3; omega), if_pos hok, hst]; exact hr
      · have := hu' q x
        have hb : bump u p k q x ≤ u q x + 1 := by unfold bump; split <;> omega
        omega
    obtain rfl | rfl | rfl : p = 0 ∨ p = 1 ∨ p = 2 := by omega
    · refine fin (addS d0 [(k, gd.L0)]) d1 d2 ⟨tab_bump T0 F.l0 hk.1 hk.2, tab_other T1 (by decide), tab_other T2 (by decide)⟩ ?_ ?_
      · show stepG gd ⟨ps, d0, d1, d2, 0⟩ = _
        rw [← hkk, ← F.w0]; rfl
      · refine okG_of (f := fun k => gd.L0 * (u 0 k : Int)) hl (by show (0 : Int) ≤ 0; omega) (by show (0 : Int) ≤ 2; omega) (by show _ ∈ gd.W0; rw [F.w0]; exact hmp) (by show gd.W0.length ≤ 4; rw [F.w0]; exact F.len 0) (by show ∀ x ∈ gd.W0, _; rw [F.w0]; exact F.rng 0) T0 F.l0
    · refine fin d0 (addS d1 [(k, gd.L1)]) d2 ⟨tab_other T0 (by decide), tab_bump T1 F.l1 hk.1 hk.2, tab_other T2 (by decide)⟩ ?_ ?_
      · show stepG gd ⟨ps, d0, d1, d2, 1⟩ = _
        rw [← hkk, ← F.w1]; rfl
      · refine okG_of (f := fun k => gd.L1 * (u 1 k : Int)) hl (by show (0 : Int) ≤ 1; omega) (by show (1 : Int) ≤ 2; omega) (by show _ ∈ gd.W1; rw [F.w1]; exact hmp) (by show gd.W1.length ≤ 4; rw [F.w1]; exact F.len 1) (by show ∀ x ∈ gd.W1, _; rw [F.w1]; exact F.rng 1) T1 F.l1
    · refine fin d0 d1 (addS d2 [(k, gd.L2)]) ⟨tab_other T0 (by decide), tab_other T1 (by decide), tab_bump T2 F.l2 hk.1 hk.2⟩ ?_ ?_
      · show stepG gd ⟨ps, d0, d1, d2, 2⟩ = _
        rw [← hkk, ← F.w2]; rfl
      · refine okG_of (f := fun k => gd.L2 * (u 2 k : Int)) hl (by show (0 : Int) ≤ 2; omega) (by show (2 : Int) ≤ 2; omega) (by show _ ∈ gd.W2; rw [F.w2]; exact hmp) (by show gd.W2.length ≤ 4; rw [F.w2]; exact F.len 2) (by show ∀ x ∈ gd.W2, _; rw [F.w2]; exact F.rng 2) T2 F.l2
theorem guests_seq {gd : Gd} {W : Nat → List Int} (F : Fit gd W) {s : Int} {n : Nat} {ps : List Int} {u : Nat → Int → Nat} {psT : List Int} {uT : Nat → Int → Nat} (hg : Gs W s n ps u psT uT) :
    ps.length = 3 → (∀ p, p < 3 → ps.getD p 0 ∈ W p) → (∀ p x, u p x ≠ 0 → x ∈ W p) → ∀ d0 d1 d2 h, TabsU gd u d0 d1 d2 →
      ∃ seq : Nat → G, seq 0 = ⟨ps, d0, d1, d2, h⟩ ∧ (∀ i, i < n → runG gd 64 ⟨(seq i).ps, (seq i).d0, (seq i).d1, (seq i).d2, s⟩ = some (seq (i + 1))) ∧ (seq n).ps = psT ∧ TabsU gd uT (seq n).d0 (seq n).d1 (seq n).d2 ∧
        (∀ i, i < n → (seq (i + 1)).ps ∈ treesL) ∧ (∀ p x, uT p x ≠ 0 → x ∈ W p) ∧ ∀ p x, uT p x ≤ u p x + 12 * n := by
  induction hg with
  | @nil ps u =>
    intro hl hm hs d0 d1 d2 h hT
    exact ⟨fun _ => ⟨ps, d0, d1, d2, h⟩, rfl, fun i hi => absurd hi (Nat.not_lt_zero _), rfl, hT, fun i hi => absurd hi (Nat.not_lt_zero _), hs, fun p x => Nat.le_add_right _ _⟩
  | @cons n ps u ps1 u1 ps' u' hw htr hm1 hg ih =>
    intro hl hm hs d0 d1 d2 h hT
    obtain ⟨e0, e1, e2, hr, hT1, hl1, hm1', hs1, hu1⟩ := runG_of F hw hl hm hs d0 d1 d2 hT 64 (by decide)
    obtain ⟨seq, h0, hrun, hps, hTT, htrs, hsT, huT⟩ := ih hl1 hm1 hs1 e0 e1 e2 3 hT1
    refine ⟨fun i => match i with | 0 => ⟨ps, d0, d1, d2, h⟩ | i + 1 => seq i, rfl, fun i hi => ?_, hps, hTT, fun i hi => ?_, hsT, fun p x => ?_⟩
    · cases i with
      | zero => show runG gd 64 ⟨ps, d0, d1, d2, s⟩ = some (seq 0); rw [h0]; exact hr
      | succ i => exact hrun i (by omega)
    · cases i with
      | zero => show (seq 0).ps ∈ treesL; rw [h0]; exact htr
      | succ i => exact htrs i (by omega)
    · have a := huT p x
      have b := hu1 p x
      omega
end
section
theorem allB_of {f : Bool → Bool} (h : allB f = true) (b : Bool) : f b = true := by
  unfold allB at h
  rw [Bool.and_eq_true] at h
  cases b
  · exact h.1
  · exact h.2
theorem chk0 : allB (fun b => allB fun c => allB fun d => chkG ⟨false, false, false, b, c, d⟩) = true := by decide +kernel
theorem chk1 : allB (fun b => allB fun c => allB fun d => chkG ⟨true, false, false, b, c, d⟩) = true := by decide +kernel
theorem chk2 : allB (fun b => allB fun c => allB fun d => chkG ⟨false, true, false, b, c, d⟩) = true := by decide +kernel
theorem chk3 : allB (fun b => allB fun c => allB fun d => chkG ⟨true, true, false, b, c, d⟩) = true := by decide +kernel
theorem chk4 : allB (fun b => allB fun c => allB fun d => chkG ⟨false, false, true, b, c, d⟩) = true := by decide +kernel
theorem chk5 : allB (fun b => allB fun c => allB fun d => chkG ⟨true, false, true, b, c, d⟩) = true := by decide +kernel
theorem chk6 : allB (fun b => allB fun c => allB fun d => chkG ⟨false, true, true, b, c, d⟩) = true := by decide +kernel
theorem chk7 : allB (fun b => allB fun c => chkG ⟨true, true, true, b, c, false⟩) = true := by decide +kernel
theorem chk8 : allB (fun b => allB fun c => chkG ⟨true, true, true, b, c, true⟩) = true := by decide +kernel
theorem chk_all (g : Gr) : chkG g = true := by
  obtain ⟨b01, b02, b12, b03, b13, b23⟩ := g
  cases b01 <;> cases b02 <;> cases b12
  · exact allB_of (allB_of (allB_of chk0 b03) b13) b23
  · exact allB_of (allB_of (allB_of chk4 b03) b13) b23
  · exact allB_of (allB_of (allB_of chk2 b03) b13) b23
  · exact allB_of (allB_of (allB_of chk6 b03) b13) b23
  · exact allB_of (allB_of (allB_of chk1 b03) b13) b23
  · exact allB_of (allB_of (allB_of chk5 b03) b13) b23
  · exact allB_of (allB_of (allB_of chk3 b03) b13) b23
  · cases b23
    · exact allB_of (allB_of chk7 b03) b13
    · exact allB_of (allB_of chk8 b03) b13
end
section
theorem expand_perm {o o' : List Int} {R R' : List (List Int)} (ho : o.Perm o') (hR : R.Perm R') : (expand o R).Perm (expand o' R') := by
  unfold expand
  induction hR with
  | nil => exact .nil
  | cons x _ ih => simp only [List.flatMap_cons]; exact (ho.map _).append ih
  | swap x y l =>
    simp only [List.flatMap_cons]
    have h1 : ∀ l : List (List Int), (l.flatMap fun r => o.map fun x => r ++ [x]).Perm (l.flatMap fun r => o'.map fun x => r ++ [x]) := by
      intro l
      induction l with
      | nil => exact .nil
      | cons a l ih => simp only [List.flatMap_cons]; exact (ho.map _).append ih
    refine ((ho.map _).append ((ho.map _).append (h1 l))).trans ?_
    rw [← List.append_assoc, ← List.append_assoc]
    exact List.perm_append_comm.append_right _
  | trans _ h2 ih1 ih2 =>
    have h1 : ∀ l : List (List Int), (l.flatMap fun r => o.map fun x => r ++ [x]).Perm (l.flatMap fun r => o'.map fun x => r ++ [x]) := by
      intro l
      induction l with
      | nil => exact .nil
      | cons a l ih => simp only [List.flatMap_cons]; exact (ho.map _).append ih
    exact (ih1.trans (h1 _).symm).trans ih2
theorem expN_perm {WW WW' : Nat → List Int} (h : ∀ p, (WW p).Perm (WW' p)) (root : Int) : ∀ n, (expN WW root n).Perm (expN WW' root n)
  | 0 => .refl _
  | n + 1 => by
    have ho : (optS WW root n).Perm (optS WW' root n) := by
      unfold optS; split
      · exact .refl _
      · exact h n
    exact expand_perm ho (expN_perm h root n)
theorem forests_perm {WW WW' : Nat → List Int} (h : ∀ p, (WW p).Perm (WW' p)) (root : Int) : (forestsS WW root).Perm (forestsS WW' root) := (expN_perm h root 3).filter _
theorem cntS_perm {WW WW' : Nat → List Int} (h : ∀ p, (WW p).Perm (WW' p)) (s : Int) (p : Nat) : cntS WW s p = cntS WW' s p := ((forests_perm h s).filter _).length_eq
theorem expN_congr {WW WW' : Nat → List Int} (h : ∀ p, p < 3 → WW p = WW' p) (root : Int) : ∀ n, n ≤ 3 → expN WW root n = expN WW' root n
  | 0, _ => rfl
  | n + 1, hn => by
    rw [expN, expN, expN_congr h root n (by omega)]
    unfold optS; rw [h n (by omega)]
theorem rev_perm (r : Bool) (l : List Int) : (rev r l).Perm l := by
  cases r
  · exact .refl _
  · exact List.reverse_perm l
noncomputable def bitR (num : Int) (p : Nat) : Bool := !decide (Builtin.bitAnd (num.fdiv (2 ^ p)) 1 = 0)
noncomputable def gOf (ps ls : List Int) : Gr := ⟨tieB ps ls 0 1, tieB ps ls 0 2, tieB ps ls 1 2, tieB ps ls 0 3, tieB ps ls 1 3, tieB ps ls 2 3⟩
theorem tie_sym (ps ls : List Int) {p t : Int} (hp : p < 3) (ht : t < 3) : tieB ps ls p t = tieB ps ls t p := by
  unfold tieB
  rw [decide_eq_decide]
  constructor
  · rintro ⟨h1, h2 | ⟨_, h2⟩ | h2⟩
    · exact ⟨fun e => h1 e.symm, .inr (.inl ⟨hp, h2⟩)⟩
    · exact ⟨fun e => h1 e.symm, .inl h2⟩
    · exact ⟨fun e => h1 e.symm, .inr (.inr h2.symm)⟩
  · rintro ⟨h1, h2 | ⟨_, h2⟩ | h2⟩
    · exact ⟨fun e => h1 e.symm, .inr (.inl ⟨ht, h2⟩)⟩
    · exact ⟨fun e => h1 e.symm, .inl h2⟩
    · exact ⟨fun e => h1 e.symm, .inr (.inr h2.symm)⟩
theorem tie_self (ps ls : List Int) (p : Int) : tieB ps ls p p = false := by unfold tieB; simp
theorem rowK_list (ps ls : List Int) (p : Int) : rowK ps ls p 4 = [0, 1, 2, 3].filter (tieB ps ls p) := rfl
theorem rowK_eq (ps ls : List Int) {p : Nat} (hp : p < 3) : rowK ps ls (p : Int) 4 = (gOf ps ls).row p := by
  rw [rowK_list]
  obtain rfl | rfl | rfl : p = 0 ∨ p = 1 ∨ p = 2 := by omega
  · have e0 := tie_self ps ls 0
    show [0, 1, 2, 3].filter (tieB ps ls 0) = (if tieB ps ls 0 1 then [1] else []) ++ ((if tieB ps ls 0 2 then [2] else []) ++ (if tieB ps ls 0 3 then [3] else []))
    simp only [List.filter_cons, List.filter_nil, e0]
    cases tieB ps ls 0 1 <;> cases tieB ps ls 0 2 <;> cases tieB ps ls 0 3 <;> rfl
  · have e1 := tie_self ps ls 1
    have s1 := tie_sym ps ls (p := 1) (t := 0) (by decide) (by decide)
    show [0, 1, 2, 3].filter (tieB ps ls 1) = (if tieB ps ls 0 1 then [0] else []) ++ ((if tieB ps ls 1 2 then [2] else []) ++ (if tieB ps ls 1 3 then [3] else []))
    simp only [List.filter_cons, List.filter_nil, e1, s1]
    cases tieB ps ls 0 1 <;> cases tieB ps ls 1 2 <;> cases tieB ps ls 1 3 <;> rfl
  · have e2 := tie_self ps ls 2
    have s1 := tie_sym ps ls (p := 2) (t := 0) (by decide) (by decide)
    have s2 := tie_sym ps ls (p := 2) (t := 1) (by decide) (by decide)
    show [0, 1, 2, 3].filter (tieB ps ls 2) = (if tieB ps ls 0 2 then [0] else []) ++ ((if tieB ps ls 1 2 then [1] else []) ++ (if tieB ps ls 2 3 then [3] else []))
    simp only [List.filter_cons, List.filter_nil, e2, s1, s2]
    cases tieB ps ls 0 2 <;> cases tieB ps ls 1 2 <;> cases tieB ps ls 2 3 <;> rfl
theorem WF_eq (ps ls : List Int) (num : Int) {p : Nat} (hp : p < 3) : WF ps ls num p = rev (bitR num p) ((gOf ps ls).row p) := by
  unfold WF wayS bitR rev
  rw [rowK_eq ps ls hp]
  have : ((p : Int)).toNat = p := by omega
  rw [this]
  by_cases h : Builtin.bitAnd (num.fdiv (2 ^ p)) 1 = 0
  · rw [if_pos h, decide_eq_true h]; rfl
  · rw [if_neg h, decide_eq_false h]; rfl
theorem tree_shape {t : List Int} (h : t ∈ treesL) : ∃ p0 p1 p2 : Nat, t = [(p0 : Int), (p1 : Int), (p2 : Int)] ∧ (p0, p1, p2) ∈ treesN4 ∧ p0 ≠ 0 ∧ p1 ≠ 1 ∧ p2 ≠ 2 ∧ p0 ≤ 3 ∧ p1 ≤ 3 ∧ p2 ≤ 3 := by
  have key : (treesL.all fun t => treesN4.any fun q => t == [(q.1 : Int), (q.2.1 : Int), (q.2.2 : Int)] && (q.1 != 0) && (q.2.1 != 1) && (q.2.2 != 2) && decide (q.1 ≤ 3) && decide (q.2.1 ≤ 3) && decide (q.2.2 ≤ 3)) = true := by decide +kernel
  have h1 := List.all_eq_true.mp key t h
  obtain ⟨⟨p0, p1, p2⟩, hm, h2⟩ := List.any_eq_true.mp h1
  simp only [Bool.and_eq_true, beq_iff_eq, bne_iff_ne, decide_eq_true_eq] at h2
  exact ⟨p0, p1, p2, h2.1.1.1.1.1.1, hm, h2.1.1.1.1.1.2, h2.1.1.1.1.2, h2.1.1.1.2, h2.1.1.2, h2.1.2, h2.2⟩
noncomputable def rowB (l : List Int) : Bool := decide ((l.length ≤ 4 ∧ l.Nodup ∧ (l.length : Int) = (if l.contains 0 then 1 else 0) + (if l.contains 1 then 1 else 0) + (if l.contains 2 then 1 else 0) + (if l.contains 3 then 1 else 0)) ∧ ∀ x ∈ l, 0 ≤ x ∧ x ≤ 3)
noncomputable def rowR (x y : Int) (a b c : Bool) : List Int := (if a then [x] else []) ++ ((if b then [y] else []) ++ (if c then [3] else []))
theorem rowB_all : ∀ a b c : Bool, (rowB (rowR 1 2 a b c) && rowB (rowR 0 2 a b c) && rowB (rowR 0 1 a b c)) = true := by decide +kernel
theorem row_good (g : Gr) (p : Nat) : rowB (g.row p) = true := by
  have k : ∀ {x y z : Bool}, (x && y && z) = true → x = true ∧ y = true ∧ z = true := by decide
  unfold Gr.row
  split
  · exact (k (rowB_all _ _ _)).1
  · split
    · exact (k (rowB_all _ _ _)).2.1
    · exact (k (rowB_all _ _ _)).2.2
theorem row_rng (g : Gr) (p : Nat) : ∀ x ∈ g.row p, 0 ≤ x ∧ x ≤ 3 := (of_decide_eq_true (row_good g p)).2
theorem row_len (g : Gr) (p : Nat) : (g.row p).length ≤ 4 ∧ (g.row p).Nodup ∧ ((g.row p).length : Int) = (if (g.row p).contains 0 then 1 else 0) + (if (g.row p).contains 1 then 1 else 0) + (if (g.row p).contains 2 then 1 else 0) + (if (g.row p).contains 3 then 1 else 0) := (of_decide_eq_true (row_good g p)).1
theorem row_mem {ps ls : List Int} {p x : Nat} (hp : p < 3) (hx : x ≤ 3) (hne : x ≠ p) (h : ps.getD p 0 = (x : Int)) : (x : Int) ∈ (gOf ps ls).row p := by
  rw [← rowK_eq ps ls hp, rowK_list, List.mem_filter]
  refine ⟨?_, ?_⟩
  · obtain rfl | rfl | rfl | rfl : x = 0 ∨ x = 1 ∨ x = 2 ∨ x = 3 := by omega
    all_goals simp
  · unfold tieB
    rw [decide_eq_true_eq]
    have : ((p : Int)).toNat = p := by omega
    exact ⟨by omega, .inl (by rw [this]; exact h)⟩
end
section
theorem fold_put {y : Int} (hy : 0 < y) : ∀ {W : List Int}, (∀ x ∈ W, 0 ≤ x ∧ x ≤ 3) → ∀ {a : List (Int × Int)} {f : Int → Int}, Tab a f → Tab (W.foldl (fun a k => putS a k y) a) (fun j => if j ∈ W then y else f j)
  | [], _, a, f, h => h.congr fun j => by simp
  | k :: W, hW, a, f, h => by
    have hk := hW k (List.mem_cons_self ..)
    have ih := fold_put hy (W := W) (fun x hx => hW x (List.mem_cons_of_mem _ hx)) (h.put hy hk.1 hk.2)
    rw [List.foldl_cons]
    refine ih.congr fun j => ?_
    by_cases e1 : j ∈ W
    · simp [e1]
    · by_cases e2 : j = k
      · simp [e2]
      · simp [e1, e2]
theorem mkD_tab {W : List Int} {y : Int} (hy : 0 ≤ y) (hW : ∀ x ∈ W, 0 ≤ x ∧ x ≤ 3) : Tab (mkD W y) (fun j => if j ∈ W then y else 0) := by
  unfold mkD
  split
  · exact fold_put (by assumption) hW Tab.nil
  · refine Tab.nil.congr fun j => ?_
    have : y = 0 := by omega
    rw [this]; simp
theorem fold_sm {y : Int} (hy : 0 < y) : ∀ {W : List Int}, (∀ x ∈ W, 0 ≤ x ∧ x ≤ 3) → W.Nodup → ∀ {a : List (Int × Int)} {f : Int → Int}, Tab a f → Tab (W.foldl (smStep y) a) (fun j => f j + if j ∈ W then y else 0)
  | [], _, _, a, f, h => h.congr fun j => by simp
  | k :: W, hW, nd, a, f, h => by
    have hk := hW k (List.mem_cons_self ..)
    rw [List.nodup_cons] at nd
    have hp := h.pos k
    have h1 : Tab (smStep y a k) (fun j => if j = k then f k + y else f j) := by
      unfold smStep
      rw [h.getD]
      exact h.put (by omega) hk.1 hk.2
    have ih := fold_sm hy (W := W) (fun x hx => hW x (List.mem_cons_of_mem _ hx)) nd.2 h1
    rw [List.foldl_cons]
    refine ih.congr fun j => ?_
    by_cases e2 : j = k
    · subst e2; simp [nd.1]
    · by_cases e1 : j ∈ W
      · simp [e1, e2]
      · simp [e1, e2]
theorem unpack {a0 a1 a2 a3 c0 c1 c2 c3 : Nat} (h : a0 + 256 * a1 + 65536 * a2 + 16777216 * a3 = c0 + 256 * c1 + 65536 * c2 + 16777216 * c3) (ha0 : a0 < 256) (ha1 : a1 < 256) (ha2 : a2 < 256) (hc0 : c0 < 256) (hc1 : c1 < 256) (hc2 : c2 < 256) :
    a0 = c0 ∧ a1 = c1 ∧ a2 = c2 ∧ a3 = c3 := by omega
theorem mem_rev {r : Bool} {l : List Int} {x : Int} : x ∈ rev r l ↔ x ∈ l := (rev_perm r l).mem_iff
theorem tab_rev (r : Bool) (l : List Int) {c : Nat} (h : c ≤ 3) : (if r = true then mk4 (succW l.reverse 0) (succW l.reverse 1) (succW l.reverse 2) (succW l.reverse 3) else mk4 (succW l 0) (succW l 1) (succW l 2) (succW l 3)) c = succW (rev r l) c := by
  cases r
  · exact mk4_succ l h
  · exact mk4_succ l.reverse h
theorem plaw {ps ls : List Int} (hps : ps ∈ treesL) (hl : ls.length = 4) (hpos : ∀ i, i < 4 → 0 < ls.getD i 0) (num : Int) {s : Int} (h0 : 0 ≤ s) (h3 : s < 3) : ∃ gst, PLaw ps ls num s gst := by
  have hps' := hps
  obtain ⟨p0, p1, p2, rfl, hm4, n0, n1, n2, l0, l1, l2⟩ := tree_shape hps
  obtain ⟨sn, rfl⟩ : ∃ n : Nat, s = (n : Int) := ⟨s.toNat, by omega⟩
  have hsn : sn < 3 := by omega
  generalize hP : [(p0 : Int), (p1 : Int), (p2 : Int)] = ps at *
  obtain ⟨g, hg⟩ : ∃ g, g = gOf ps ls := ⟨_, rfl⟩
  obtain ⟨W, hWd⟩ : ∃ W : Nat → List Int, W = fun p => rev (bitR num p) (g.row p) := ⟨_, rfl⟩
  have hWp : ∀ p, W p = rev (bitR num p) (g.row p) := fun p => by rw [hWd]
  have hWF : ∀ p, p < 3 → WF ps ls num p = W p := fun p hp => by rw [hWp, hg]; exact WF_eq ps ls num hp
  have hmem : ∀ p x, x ∈ W p ↔ x ∈ g.row p := fun p x => by rw [hWp]; exact mem_rev
  have hrng : ∀ p, ∀ x ∈ W p, 0 ≤ x ∧ x ≤ 3 := fun p x hx => row_rng g p x ((hmem p x).mp hx)
  have hlen : ∀ p, (W p).length = (g.row p).length := fun p => by rw [hWp]; exact (rev_perm _ _).length_eq
  have hnd : ∀ p, (W p).Nodup := fun p => by rw [hWp]; exact (rev_perm _ _).nodup_iff.mpr (row_len g p).2.1
  have m0 : (p0 : Int) ∈ g.row 0 := by rw [hg]; exact row_mem (by decide) l0 n0 (by rw [← hP]; rfl)
  have m1 : (p1 : Int) ∈ g.row 1 := by rw [hg]; exact row_mem (by decide) l1 n1 (by rw [← hP]; rfl)
  have m2 : (p2 : Int) ∈ g.row 2 := by rw [hg]; exact row_mem (by decide) l2 n2 (by rw [← hP]; rfl)
  -- the check
  have hc := chk_all g
  unfold chkG at hc
  simp only [tabW_eq, forceB_eq] at hc
  rw [Bool.and_eq_true] at hc
  obtain ⟨hT16, hc⟩ := hc
  have hT16' : (forestsS g.row 3).length ≤ 16 := Nat.le_of_ble_eq_true hT16
  have hc1 := List.all_eq_true.mp hc sn (by
    obtain rfl | rfl | rfl : sn = 0 ∨ sn = 1 ∨ sn = 2 := by omega
    all_goals simp)
  simp only [Bool.and_eq_true] at hc1
  obtain ⟨⟨⟨hk0, hk1⟩, hk2⟩, hc1⟩ := hc1
  have hk0' := Nat.le_of_ble_eq_true hk0
  have hk1' := Nat.le_of_ble_eq_true hk1
  have hk2' := Nat.le_of_ble_eq_true hk2
  have hc2 := List.all_eq_true.mp hc1 (p0, p1, p2) hm4
  have hin : inG g p0 p1 p2 = true := by
    unfold inG
    simp only [Bool.and_eq_true, List.contains_iff_mem]
    exact ⟨m0, m1, m2⟩
  dsimp only at hc2
  rw [if_pos hin] at hc2
  have hc3 := allB_of (allB_of (allB_of hc2 (bitR num 0)) (bitR num 1)) (bitR num 2)
  have ht0 := fun c (h : c ≤ 3) => tab_rev (bitR num 0) (g.row 0) h
  have ht1 := fun c (h : c ≤ 3) => tab_rev (bitR num 1) (g.row 1) h
  have ht2 := fun c (h : c ≤ 3) => tab_rev (bitR num 2) (g.row 2) h
  rw [← hWp 0] at ht0
  rw [← hWp 1] at ht1
  rw [← hWp 2] at ht2
  obtain ⟨u, hgs, e0, e1, e2⟩ := chkF_sound hrng ht0 ht1 ht2 (by omega : sn ≤ 3) hc3 ((hmem 0 _).mpr m0) ((hmem 1 _).mpr m1) ((hmem 2 _).mpr m2)
  rw [hP] at hgs
  have F : Fit (gdS ps ls num) W := ⟨hWF 0 (by decide), hWF 1 (by decide), hWF 2 (by decide), fun p => by rw [hlen]; exact (row_len g p).1, hrng, hpos 0 (by decide), hpos 1 (by decide), hpos 2 (by decide)⟩
  have hpl : ps.length = 3 := by rw [← hP]; rfl
  have hpm : ∀ p, p < 3 → ps.getD p 0 ∈ W p := fun p hp => by
    obtain rfl | rfl | rfl : p = 0 ∨ p = 1 ∨ p = 2 := by omega
    · rw [← hP]; exact (hmem 0 _).mpr m0
    · rw [← hP]; exact (hmem 1 _).mpr m1
    · rw [← hP]; exact (hmem 2 _).mpr m2
  have hz : TabsU (gdS ps ls num) (fun _ _ => 0) [] [] [] := ⟨Tab.nil.congr fun k => by simp, Tab.nil.congr fun k => by simp, Tab.nil.congr fun k => by simp⟩
  obtain ⟨seq, hs0, hrun, hpsT, hTT, htr, hsu, hub⟩ := guests_seq F hgs hpl hpm (fun p x h => absurd rfl h) [] [] [] 3 hz
  -- how many trees
  have hWFe : ∀ r n, n ≤ 3 → expN (WF ps ls num) r n = expN W r n := fun r n hn => expN_congr hWF r n hn
  have hfor : ∀ r, forestsS (WF ps ls num) r = forestsS W r := fun r => by unfold forestsS; rw [hWFe r 3 (Nat.le_refl 3)]
  have hperm : ∀ p, (W p).Perm (g.row p) := fun p => by rw [hWp]; exact rev_perm _ _
  have hT : treesN ps ls num = (forestsS g.row 3).length := by unfold treesN; rw [hfor]; exact (forests_perm hperm 3).length_eq
  have hcnt : ∀ p, cntS (WF ps ls num) (sn : Int) p = cntG g sn p := fun p => by
    have : cntS (WF ps ls num) (sn : Int) p = cntS W (sn : Int) p := by unfold cntS; rw [hfor]
    rw [this]; exact cntS_perm hperm _ p
  -- what was used
  have hu : ∀ p, p < 3 → ∀ k, (u p k : Int) = if k ∈ W p then (cntG g sn p : Int) else 0 := by
    have key : ∀ (f : Int → Nat) (p : Nat) (y : Nat), packU f = packW (g.row p) y → y ≤ 16 → (∀ x, f x ≠ 0 → x ∈ W p) → (∀ x, f x ≤ 192) → ∀ k, (f k : Int) = if k ∈ W p then (y : Int) else 0 := by
      intro f p y he hy hsup hb k
      have hb0 := hb 0
      have hb1 := hb 1
      have hb2 := hb 2
      have hif : ∀ (b : Bool), (if b = true then y else 0) ≤ 16 := fun b => by cases b <;> simp; exact hy
      have i0 := hif ((g.row p).contains 0)
      have i1 := hif ((g.row p).contains 1)
      have i2 := hif ((g.row p).contains 2)
      unfold packU packW at he
      obtain ⟨q0, q1, q2, q3⟩ := unpack he (by omega) (by omega) (by omega) (by omega) (by omega) (by omega)
      by_cases hk : k ∈ W p
      · have hr := hrng p k hk
        have hk' := (hmem p k).mp hk
        rw [if_pos hk]
        obtain rfl | rfl | rfl | rfl : k = 0 ∨ k = 1 ∨ k = 2 ∨ k = 3 := by omega
        · rw [q0, if_pos (List.contains_iff_mem.mpr hk')]
        · rw [q1, if_pos (List.contains_iff_mem.mpr hk')]
        · rw [q2, if_pos (List.contains_iff_mem.mpr hk')]
        · rw [q3, if_pos (List.contains_iff_mem.mpr hk')]
      · rw [if_neg hk]
        have : f k = 0 := Classical.byContradiction fun h => hk (hsup k h)
        rw [this]; rfl
    have hb : ∀ p x, u p x ≤ 192 := fun p x => by have := hub p x; omega
    intro p hp
    obtain rfl | rfl | rfl : p = 0 ∨ p = 1 ∨ p = 2 := by omega
    · exact key (u 0) 0 _ e0 hk0' (hsu 0) (hb 0)
    · exact key (u 1) 1 _ e1 hk1' (hsu 1) (hb 1)
    · exact key (u 2) 2 _ e2 hk2' (hsu 2) (hb 2)
  have hy : ∀ p, p < 3 → 0 ≤ passS ps ls num (sn : Int) p := fun p hp => by
    unfold passS
    exact Int.mul_nonneg (Int.le_of_lt (hpos p (by omega))) (Int.natCast_nonneg _)
  have htab : ∀ p, p < 3 → Tab (dOf (seq (forestsS g.row 3).length) p) (fun k => if k ∈ WF ps ls num p then passS ps ls num (sn : Int) p else 0) := by
    obtain ⟨T0, T1, T2⟩ := hTT
    intro p hp
    have hk : ∀ k, ls.getD p 0 * (u p k : Int) = if k ∈ WF ps ls num p then passS ps ls num (sn : Int) p else 0 := fun k => by
      rw [hu p hp k, hWF p hp]
      unfold passS
      rw [hcnt]
      split <;> simp
    obtain rfl | rfl | rfl : p = 0 ∨ p = 1 ∨ p = 2 := by omega
    · exact T0.congr hk
    · exact T1.congr hk
    · exact T2.congr hk
  have hWFr : ∀ p, p < 3 → ∀ x ∈ WF ps ls num p, 0 ≤ x ∧ x ≤ 3 := fun p hp => by rw [hWF p hp]; exact hrng p
  have hWFn : ∀ p, p < 3 → (WF ps ls num p).Nodup := fun p hp => by rw [hWF p hp]; exact hnd p
  have htot : Tab (totS (seq (forestsS g.row 3).length) 3) (fun k => (((0 + if k ∈ WF ps ls num 0 then passS ps ls num (sn : Int) 0 else 0) + if k ∈ WF ps ls num 1 then passS ps ls num (sn : Int) 1 else 0) + if k ∈ WF ps ls num 2 then passS ps ls num (sn : Int) 2 else 0)) :=
    ((Tab.nil.addS (htab 0 (by decide))).addS (htab 1 (by decide))).addS (htab 2 (by decide))
  have hsm1 : ∀ p, p < 3 → ∀ {f : Int → Int}, Tab (smS ps ls num (sn : Int) p) f → Tab (smS ps ls num (sn : Int) (p + 1)) (fun k => f k + if k ∈ WF ps ls num p then passS ps ls num (sn : Int) p else 0) := by
    intro p hp f hf
    rw [smS]
    split
    · exact fold_sm (by assumption) (hWFr p hp) (hWFn p hp) hf
    · have : passS ps ls num (sn : Int) p = 0 := by have := hy p hp; omega
      refine hf.congr fun k => ?_
      rw [this]; simp
  have hsm : Tab (smS ps ls num (sn : Int) 3) (fun k => (((0 + if k ∈ WF ps ls num 0 then passS ps ls num (sn : Int) 0 else 0) + if k ∈ WF ps ls num 1 then passS ps ls num (sn : Int) 1 else 0) + if k ∈ WF ps ls num 2 then passS ps ls num (sn : Int) 2 else 0)) :=
    hsm1 2 (by decide) (hsm1 1 (by decide) (hsm1 0 (by decide) Tab.nil))
  refine ⟨seq, ?_⟩
  refine
    { g0 := hs0
      run := fun i hi => hrun i (by rw [← hT]; exact hi)
      tree := fun i hi => ?_
      back := by rw [hT]; exact hpsT
      count := fun p hp => ?_
      same := fun p hp => by rw [hT]; exact (htab p hp).eq (mkD_tab (hy p hp) (hWFr p hp))
      few := fun p hp => by rw [hT]; exact (htab p hp).few
      total := by rw [hT, htot.sum, hsm.sum]
      totEq := by rw [hT]; exact htot.eq hsm }
  · cases i with
    | zero => rw [hs0]; exact hps'
    | succ i => exact htr i (by rw [← hT]; omega)
  · rw [hT, (htab p hp).sum]
    have hln : ((WF ps ls num p).length : Int) = ((g.row p).length : Int) := by rw [hWF p hp, hlen]
    rw [hln, (row_len g p).2.2]
    have hmm : ∀ k, (k ∈ WF ps ls num p) ↔ (g.row p).contains k = true := fun k => by rw [hWF p hp, hmem, List.contains_iff_mem]
    simp only [hmm]
    generalize passS ps ls num (sn : Int) p = y
    cases (g.row p).contains 0 <;> cases (g.row p).contains 1 <;> cases (g.row p).contains 2 <;> cases (g.row p).contains 3 <;> simp <;> omega
end
section
section
variable {prog : Program} {w : World} {A : Around} {E : Value → Shared → Prop} {s : Shared} {h₀ : Heap} {L : Addr} {m : Str → Option Value} {news : List (Addr × Obj)}
theorem preSum_vals : ∀ ds : List (Int × Int), preSum (fun i => ((ds[i]?).map (·.2)).getD 0) ds.length = sumS ds
  | [] => rfl
  | (a, x) :: r => by
    show preSum _ (r.length + 1) = _
    rw [kdu_shift, sumS_cons, ← preSum_vals r]
    rfl
theorem sum_values {d v : Addr} {o : Obj} {kvs : List (Int × Value)} {ds : List (Int × Int)} {Q : Value → Shared → Prop} (hh : A.handled = none) (F : Fr h₀ L s.heap m) (N : News h₀ L s.heap news)
    (hv : (v, { cls := .type "dict_values", data := .fields #[.ref d] }) ∈ news) (hd : (d, o) ∈ news) (hi : IDict w o kvs) (ha : DAre kvs ds)
    (h : ∀ h' (tk : Nat) (t : Tok), Fr h₀ L h' m → News h₀ L h' news → Q (.int (sumS ds) t) { s with heap := h', toks := tk }) :
    wpAny (model Challenge.rw_yf0033_01.row.prog w) A (call (.builtin "sum") [.ref v]) Q E s := by
  have hD : s.heap.DictOf (intKind Challenge.rw_yf0033_01.row.prog w) d kvs := Heap.dictOf_iff.mpr ⟨o, (N _ hd).1, hi⟩
  obtain ⟨ep, hat⟩ := hD.dictAt
  refine kdu_sum (kdl_values (knd := intKind Challenge.rw_yf0033_01.row.prog w) (kvs := kvs) (ep := ep)) hh F N ⟨⟨_, (N _ hv).1, rfl, rfl⟩, hat⟩ (fun i => ((ds[i]?).map (·.2)).getD 0) (fun i u hu => ?_) fun h' tk t F' N' => ?_
  · obtain ⟨k, hx⟩ := hu
    obtain ⟨x, t, h1, rfl⟩ := ha.get hx
    exact ⟨t, by simp [h1]⟩
  · rw [ha.length, preSum_vals]
    exact h h' tk t F' N'
theorem get_sum {d : Addr} {o : Obj} {kvs : List (Int × Value)} {ds : List (Int × Int)} {k c : Int} {t u : Tok} {Q : Value → Shared → Prop} (N : News h₀ L s.heap news) (hd : (d, o) ∈ news) (hi : IDict w o kvs) (ha : DAre kvs ds) (lo : (d == sysModules) = false)
    (h : ∀ (tk : Nat) (z : Tok), Q (.int ((getS ds k).getD c) z) { s with toks := tk }) :
    wpAny (model Challenge.rw_yf0033_01.row.prog w) A (call (.builtin "dict.get") [.ref d, .int k t, .int c u]) Q E s := by
  rcases ha.valueAt k with ⟨h1, h2⟩ | ⟨y, z, h1, h2⟩
  · refine kdg_get2 (knd := intKind Challenge.rw_yf0033_01.row.prog w) N hd hi lo (intKind_is _ _ _ _) none h1 ?_
    have := h (s.toks + 1) u
    rw [h2] at this
    exact this
  · refine kdg_get2 (knd := intKind Challenge.rw_yf0033_01.row.prog w) N hd hi lo (intKind_is _ _ _ _) (some _) h1 ?_
    have := h (s.toks + 1) z
    rw [h2] at this
    exact this
theorem eqv_strs : ∀ xs : List Str, PyData.eqvAll (xs.map PyData.str) (xs.map PyData.str) = true
  | [] => by simp [PyData.eqvAll]
  | x :: r => by simp [PyData.eqvAll, PyData.eqv, eqv_strs r]
theorem strs_carried {vs : List Value} {xs : List Str} (h : StrsAre vs xs) : CarriedAll vs (xs.map PyData.str) := by
  induction h with
  | nil => exact .nil
  | cons _ t _ ih => exact .cons (.str _ t) ih
theorem shaped_names {ps : List Int} (h : ps ∈ treesL) : SeqAt.shaped (.list ((namesS ps).map PyData.str)) = true := by
  have hc : (treesL.all fun t => SeqAt.shaped (.list ((namesS t).map PyData.str))) = true := by decide +kernel
  exact List.all_eq_true.mp hc ps h
theorem eq_names {a b : Addr} {va vb : List Value} {na nb : Nat} {ps : List Int} {Q : Value → Shared → Prop} (N : News h₀ L s.heap news) (pa : (a, W.listOf va.toArray na) ∈ news) (pb : (b, W.listOf vb.toArray nb) ∈ news)
    (ha : StrsAre va (namesS ps)) (hb : StrsAre vb (namesS ps)) (hp : ps ∈ treesL) (hu : A.units + 64 < cLine) (h : Q (.bool true) s) : wpAny (model prog w) A (compareOp .Eq (.ref a) (.ref b)) Q E s := by
  refine eq_dataH (reads_newData (PySem.IsL.isList (n := na) (N _ pa).1) (strs_carried ha)) (reads_newData (PySem.IsL.isList (n := nb) (N _ pb).1) (strs_carried hb)) (shaped_names hp) (shaped_names hp) hu ?_
  have e : PyData.eqv (.list ((namesS ps).map PyData.str)) (.list ((namesS ps).map PyData.str)) = true := by
    simp only [PyData.eqv]; exact eqv_strs _
  rw [e]; exact h
theorem ground_go : ∃ m', driveP 200 (Sre.forSearch theCode (Str.ofString ".7.x\n").cps 0 0 (Str.ofString ".7.x\n").cps.size false) = some m' ∧ m'.outcome = some .failed := by
  have h : (match driveP 200 (Sre.forSearch theCode (Str.ofString ".7.x\n").cps 0 0 (Str.ofString ".7.x\n").cps.size false) with
    | some m' => (match m'.outcome with | some .failed => true | _ => false)
    | none => false) = true := by decide +kernel
  cases e : driveP 200 (Sre.forSearch theCode (Str.ofString ".7.x\n").cps 0 0 (Str.ofString ".7.x\n").cps.size false) with
  | none => rw [e] at h; cases h
  | some m' =>
    rw [e] at h
    dsimp only at h
    refine ⟨m', rfl, ?_⟩
    cases o : m'.outcome with
    | none => rw [o] at h; cases h
    | some f =>
      rw [o] at h
      cases f with
      | failed => rfl
      | _ => cases h
theorem ground_size : (Str.ofString ".7.x\n").cps.size ≤ 1000 := by decide +kernel
end
theorem told3 {ys : List Value} {ls : List Int} (ps : List Int) (n : Int) (hl : ls.length = 4) (h : IntsAre ys ls) : ∃ lr, IntsAre ys ((gdS ps ls n).L0 :: (gdS ps ls n).L1 :: (gdS ps ls n).L2 :: lr) := by
  obtain ⟨l0, l1, l2, l3, rfl⟩ := len4 hl
  exact ⟨[l3], h⟩
end
section
section
variable {prog : Program} {w : World} {A : Around} {E : Value → Shared → Prop} {s : Shared} {h₀ : Heap} {L : Addr} {m : Str → Option Value} {news : List (Addr × Obj)}
theorem ne_dictsT {w : World} {a b : Addr} {oa ob : Obj} {ka kb : List (Int × Value)} {ds es : List (Int × Int)} {Q : Value → Shared → Prop} (N : News h₀ L s.heap news) (pa : (a, oa) ∈ news) (pb : (b, ob) ∈ news) (da : IDict w oa ka) (db : IDict w ob kb)
    (va : DAre ka ds) (vb : DAre kb es) (la : (a == sysModules) = false) (lb : (b == sysModules) = false) (hu : A.units < cLine) (he : eqS ds es = true) (h : Q (.bool false) s) : wpAny (model Challenge.rw_yf0033_01.row.prog w) A (compareOp .NotEq (.ref a) (.ref b)) Q E s := by
  refine ne_dicts N pa pb da db va vb la lb hu ?_
  rw [he]; exact h
end
end
structure PS2 where
  oP : Obj
  oQ : Obj
  dt : Addr
  ot : Obj
  kt : List (Int × Value)
  os : Obj
  ks : List (Int × Value)
structure TS where
  nl : Addr
  nv : List Value
  nk : Nat
  f0 : Addr
  f1 : Addr
  f2 : Addr
  p0 : Obj
  p1 : Obj
  p2 : Obj
  w0 : List (Int × Value)
  w1 : List (Int × Value)
  w2 : List (Int × Value)
  kc : Nat
structure TI (w : World) (gst : Nat → G) (tkW : Nat) (lc : Addr) (FX : List (Addr × Obj)) (i : Nat) (c : TS) (tk : Nat) : Prop where
  hW : tkW ≤ tk
  names : ∃ τ, StrsT τ (fun t => t ≠ 0 ∧ t < tk) c.nv (namesS (gst i).ps)
  i0 : IDict w c.p0 c.w0
  i1 : IDict w c.p1 c.w1
  i2 : IDict w c.p2 c.w2
  a0 : DAre c.w0 (gst i).d0
  a1 : DAre c.w1 (gst i).d1
  a2 : DAre c.w2 (gst i).d2
  s0 : (c.f0 == sysModules) = false
  s1 : (c.f1 == sysModules) = false
  s2 : (c.f2 == sysModules) = false
  c0 : c.f0 ≠ lc
  c1 : c.f1 ≠ lc
  c2 : c.f2 ≠ lc
  cn : c.nl ≠ lc
  v0 : c.nl ≠ c.f0
  v1 : c.nl ≠ c.f1
  v2 : c.nl ≠ c.f2
  sep : ∀ p ∈ FX, p.1 ≠ c.f0 ∧ p.1 ≠ c.f1 ∧ p.1 ≠ c.f2
abbrev ledT (lc : Addr) (FX : List (Addr × Obj)) (c : TS) : List (Addr × Obj) := (lc, W.listOf #[.ref c.f0, .ref c.f1, .ref c.f2] c.kc) :: (c.f0, c.p0) :: (c.f1, c.p1) :: (c.f2, c.p2) :: (c.nl, W.listOf c.nv.toArray c.nk) :: FX
abbrev psT (wl lc DD PP fl dl dt ds : Addr) (c : TS) : List (Str × Value) := [("ways", .ref wl), ("names", .ref c.nl), ("calls", .ref lc), ("told", .ref DD), ("plain", .ref PP), ("first", .ref fl), ("due", .ref dl), ("total", .ref dt), ("sums", .ref ds)]
structure PI (w : World) (GT : G) (P0 LV : List Int) (num s : Int) (cP cQ ds : Addr) (i : Nat) (c : PS2) : Prop where
  cellP : ∃ z, c.oP.data = .cell z
  cellQ : ∃ z, c.oQ.data = .cell z
  it : IDict w c.ot c.kt
  ia : DAre c.kt (totS GT i)
  ist : (c.dt == sysModules) = false
  is : IDict w c.os c.ks
  sa : DAre c.ks (smS P0 LV num s i)
  n1 : c.dt ≠ cP
  n2 : c.dt ≠ cQ
  n3 : c.dt ≠ ds
abbrev ledP (cP cQ ds : Addr) (FY : List (Addr × Obj)) (c : PS2) : List (Addr × Obj) := (ds, c.os) :: (c.dt, c.ot) :: (cQ, c.oQ) :: (cP, c.oP) :: FY
abbrev psP (PP fl dl ds lc nl ro : Addr) (c : PS2) : List (Str × Value) := [("plain", .ref PP), ("first", .ref fl), ("due", .ref dl), ("total", .ref c.dt), ("sums", .ref ds), ("calls", .ref lc), ("names", .ref nl), ("roots", .ref ro)]
theorem dict_ne_it {o oI : Obj} {T : String} (h : o.cls = .type "dict") (h' : oI.cls = .type T) (hT : "dict" ≠ T) : o.cls ≠ oI.cls := by rw [h, h']; intro e; exact hT (Value.type.inj e)
theorem list_ne_dict {its : Array Value} {n : Nat} {o : Obj} (h : o.cls = .type "dict") : (W.listOf its n).cls ≠ o.cls := by rw [h]; intro e; exact absurd (Value.type.inj e) (by decide)
theorem off2 {l : List (Addr × Obj)} {I : Addr} {oI : Obj} (h : ∀ p ∈ l, p.1 ≠ I ∨ p.2.cls ≠ oI.cls) : ∀ p ∈ l, ∀ q ∈ [(I, oI)], p.1 ≠ q.1 ∨ p.2.cls ≠ q.2.cls := fun p hp _ hq => List.mem_singleton.mp hq ▸ h p hp
theorem smFold_length (y : Int) : ∀ (W : List Int) (a : List (Int × Int)), (W.foldl (smStep y) a).length ≤ a.length + W.length
  | [], a => Nat.le_refl _
  | k :: W, a => by
    have h1 := smFold_length y W (smStep y a k)
    have h2 : (smStep y a k).length ≤ a.length + 1 := putS_length _ _ _
    rw [List.foldl_cons, List.length_cons]
    omega
theorem smS_length (ps ls : List Int) (num s : Int) : ∀ p, (smS ps ls num s p).length ≤ 4 * p
  | 0 => Nat.le_refl _
  | p + 1 => by
    have h1 := smS_length ps ls num s p
    have h2 := smFold_length (passS ps ls num s p) (WF ps ls num p) (smS ps ls num s p)
    have h3 := (WF_in ps ls num p).1
    unfold smS
    split <;> omega
section
local macro_rules | `(tactic| k_qdec) => `(tactic| first | exact vq1 | exact vq2)
local macro_rules | `(tactic| walk_at "storeName") => `(tactic| (k_here; (with_reducible show wpAny _ _ (storeName _ (Str.ofString "passed") _) _ _ _); refine Hold.out ?_))
local macro_rules | `(tactic| omega) => `(tactic| first | walk_at "yq" | omega (config := {}))
local macro_rules | `(tactic| walk_at "exec Assign cons ListComp") => `(tactic| walk_at "y0")
local macro_rules | `(tactic| walk_at "eval ListComp") => `(tactic| walk_at "y0")
local macro_rules | `(tactic| walk_at "eval DictComp") => `(tactic| walk_at "y0")
local macro_rules | `(tactic| walk_at "call ref") => `(tactic| walk_at "y0")
local macro_rules | `(tactic| walk_at "compareOp In str ref") => `(tactic| k_dflt (k_here; (refine in_list_strs (News.isList (by assumption) (by k_mem)) (StrsT.are (by assumption)) ?_)))
local macro_rules | `(tactic| walk_at "binaryOp Mult int int") => `(tactic| (k_here; (with_unfolding_all refine PyProof.Rows.mul_int ?_ (by first | exact PySem.IntMulOk.of_left (PySem.intBits_le_64 (by omega) (by omega)) | exact PySem.IntMulOk.of_right (PySem.intBits_le_64 (by omega) (by omega))))))
local macro_rules | `(tactic| walk_at "subscriptTail") => `(tactic| k_dflt (k_here; (with_reducible show wpAny _ _ (subscriptTail _ _ (Value.ref _) (Value.int _ _)) _ _ _); (with_unfolding_all refine item_litX (by assumption) (by k_mem) (by omega) (by omega) (by with_reducible assumption) ?_)))
local macro_rules | `(tactic| walk_at "And") => `(tactic| (k_here; (with_reducible show _ ∧ KPure _ _ _); refine Hold.out ?_))
local macro_rules | `(tactic| walk_at "KPure") => `(tactic| walk_at "y0")
local macro_rules | `(tactic| walk_at "compareOp NotEq ref ref") => `(tactic| k_dflt (k_here; (refine ne_dicts (by assumption) (by k_mem) (by k_mem) (by assumption) (by assumption) (by assumption) (by assumption) (by assumption) (by assumption) (by first | (simp only [Around.deeper_units, ktrTop]; omega) | with_unfolding_all decide) ?_)))
local macro_rules | `(tactic| walk_at "KOut") => `(tactic| walk_at "y0")
local macro_rules | `(tactic| walk_at "compareOp NotEq ref ref") => `(tactic| k_dflt (k_here; (refine ne_dictsT (by assumption) (by k_mem) (by k_mem) (by assumption) (by assumption) (by assumption) (by assumption) (by assumption) (by assumption) (by exact Nat.le_of_ble_eq_true rfl) (by assumption) ?_)))
local macro_rules | `(tactic| walk_at "call builtin:dict.get") => `(tactic| (k_here; (with_reducible show wpAny _ _ (call (Value.builtin "dict.get") [Value.ref _, Value.int _ _, Value.int _ _]) _ _ _); k_dflt (refine get_sum (by assumption) (by k_mem) (by assumption) (by assumption) (by assumption) ?_); intro tkg tg))
local macro_rules | `(tactic| walk_at "call builtin:sum") => `(tactic| (k_here; (with_reducible show wpAny _ _ (call (Value.builtin "sum") [Value.ref _]) _ _ _); k_dflt (refine sum_values (by rfl) (by assumption) (by assumption) (by k_mem) (by k_mem) (by assumption) (by assumption) ?_); intro hs1 tks1 ts1 Fs1 Ns1))
local macro_rules | `(tactic| walk_at "compareOp Eq ref ref") => `(tactic| (k_here; (with_reducible show wpAny _ _ (compareOp CmpOp.Eq (Value.ref _) (Value.ref _)) _ _ _); refine Hold.out ?_))
set_option maxHeartbeats 8000000 in
theorem law_holds : PySem.Challenge.rw_yf0033_01.Holds := Y33.hd (by
  k_go0
  (all_goals try k_fold)
  k_steps
  w_top off
  (rename Fr _ _ _ _ => F0); (rename News _ _ _ _ => N0)
  rename Top _ _ _ _ _ _ => T0
  rename Below _ _ _ _ => B0
  rename Frag.In _ _ => K0
  rename Heap.IsList _ _ _ => L0
  rename IntsAre _ _ => I0
  rename World => w
  rename Shared => sh1
  rename_i o4 o3 o2 o1 d4 d3 d2 d1 X0
  clear X0
  (try (rename Dflts _ _ _ => hx; clear hx))
  (try (rename Ground _ _ _ _ _ _ _ _ => hx; clear hx))
  (try (rename Flt.MathXP _ _ _ => hx; clear hx))
  (try (rename LooseAre _ _ _ => hx; clear hx))
  (try (rename Glob _ _ _ _ _ _ _ _ => hx; clear hx))
  (try (rename Tables _ _ _ _ => hx; clear hx))
  (try (rename TopE _ _ _ _ => hx; clear hx))
  (try (rename TopW _ _ _ => hx; clear hx))
  (try (rename BMod _ _ _ _ _ => hx; clear hx))
  (try (rename Heap.CodeRec _ _ _ => hx; clear hx))
  (rename (_ = #[] : Prop) => hgen)
  have hgood : ∀ (h' : Heap) (tk' : Nat) (m' : Str → Option Value), Fr sh1.heap sh1.heap.objs.size h' m' → qk (.ret (.bool true)) { sh1 with heap := h', toks := tk' } := by
    intro h' tk' m' F'
    exact ⟨.inl ⟨_, _, [], rfl, fun _ => rfl, ReadsW.bool true, (by first | rfl | wrow_post), fun _ => ⟨List.nodup_nil, fun _ hm => (nomatch hm)⟩⟩, F'.keep, rfl, hgen⟩
  obtain ⟨z4, g4⟩ : ∃ z, o4.data = .cell z := ⟨_, d4⟩
  obtain ⟨z3, g3⟩ : ∃ z, o3.data = .cell z := ⟨_, d3⟩
  obtain ⟨z2, g2⟩ : ∃ z, o2.data = .cell z := ⟨_, d2⟩
  obtain ⟨z1, g1⟩ : ∃ z, o1.data = .cell z := ⟨_, d1⟩
  clear d4 d3 d2 d1
  refine Hold.mk ?_
  k_dflt (refine wpAny_tok ?_)
  with_unfolding_all refine (cells_c w _ _ _ _ _ _ _ _ 0 I0 (by omega)) _ _ _ _ _ _ _ _ _ _ _ _ _ _ _ _ _ (by assumption) (by assumption) (by assumption) (by assumption) (by assumption) rfl (by first | ((try dsimp only); omega) | with_unfolding_all decide) (by first | ((try dsimp only); omega) | with_unfolding_all decide) ?_
  (try dsimp only)
  refine ⟨L0, ?_⟩
  k_dflt (intro h1 tk1 cl us ck cs F1 N1 lo1 hcs hc5 htk1 htk1')
  clear F0 N0
  obtain ⟨c0, c1, c2, c3, c4, rfl⟩ := len5 hc5
  obtain ⟨t0, t1, t2, t3, t4, rfl⟩ := ints5 hcs
  k_steps
  refine Hold.mk ?_
  (rename Fr _ _ _ _ => F2); (rename News _ _ _ _ => N2)
  refine x_compLA F2 (by rfl) (by with_unfolding_all rfl) (by rfl) (by rfl) (by with_unfolding_all rfl) (by decide) (by rfl) (by decide) (by rfl) (by rfl) ?_
  k_steps
  refine Hold.mk ?_
  (rename Fr _ _ _ _ => F3); (rename News _ _ _ _ => N3)
  rename_i h2 tk2 htk2 sl h3 lo3
  have hI4 : IntsAre [Value.int c0 t0, Value.int c1 t1, Value.int c2 t2, Value.int c3 t3] [c0, c1, c2, c3] := .cons _ _ (.cons _ _ (.cons _ _ (.cons _ _ .nil)))
  refine ⟨Unit, sl, _, _, fun _ => _, fun i _ ys _ => StrsAre ys (([c0, c1, c2, c3].take i).map leadOf), (), rfl, by rw [PySem.sizeLine_eq]; show (4 : Nat) ≤ _; decide, fun _ => List.mem_cons_self .., F3, N3, .nil, ?turn, ?done⟩
  case turn =>
    intro u i v ys I oI C oC D mC h lo tk E' hv hInv hlt hcI hoC hmC F4 N4 hoff hne
    obtain ⟨c, t, hc, rfl⟩ := intsAre_at hI4 hv
    clear F3 N3
    refine ktests0 ?_
    k_steps
    refine Hold.mk ?_
    k_dflt (refine wpAny_tok ?_)
    with_unfolding_all refine (lead_c w _ _ _ _ _ c t) _ _ _ _ _ _ _ _ _ _ _ _ _ _ _ _ _ (by assumption) (by assumption) (by assumption) (by assumption) (by assumption) rfl (by first | ((try dsimp only); omega) | with_unfolding_all decide) (by first | ((try dsimp only); omega) | with_unfolding_all decide) ?_
    (try dsimp only)
    k_dflt (intro h4 tk4 t4 F5 N5 htk4)
    k_steps
    refine Hold.mk ?_
    refine KOut.intro () F5 N5 (fun p hp => hp) hoff ?_
    rw [List.take_add_one, hc, List.map_append]
    exact strsAre_snoc hInv _ _
  case done =>
    intro D u ys h lo tk hInv hlt F4 N4 hne hltD
    clear F3 N3
    have hInv' : StrsAre ys ([c0, c1, c2, c3].map leadOf) := hInv
    clear hInv
    obtain ⟨s0, s1, s2, s3, rfl⟩ : ∃ s0 s1 s2 s3, ys = [.str (leadOf c0) s0, .str (leadOf c1) s1, .str (leadOf c2) s2, .str (leadOf c3) s3] := by
      cases hInv' with
      | cons _ s0 h => cases h with
        | cons _ s1 h => cases h with
          | cons _ s2 h => cases h with
            | cons _ s3 h => cases h with
              | nil => exact ⟨_, _, _, _, rfl⟩
    (try dsimp only at N4 hne hltD)
    clear hne
    k_lt hltD
    k_lt lo1
    have N5 := news_sub N4 (b := (D, LCg.lst [.str (leadOf c0) s0, .str (leadOf c1) s1, .str (leadOf c2) s2, .str (leadOf c3) s3]) :: _) (fun p hp => (List.mem_cons.mp hp).elim (fun h => h ▸ List.mem_cons_self ..) fun h => List.mem_cons_of_mem _ (List.mem_cons_of_mem _ h))
    clear N4
    k_steps
    refine Hold.mk ?_
    k_dflt (refine wpAny_tok ?_)
    with_unfolding_all refine (posts_c w _ _ _ _ _ c4 _) _ _ _ _ _ _ _ _ _ _ _ _ _ _ _ _ _ (by assumption) (by assumption) (by assumption) (by assumption) (by assumption) rfl (by first | ((try dsimp only); omega) | with_unfolding_all decide) (by first | ((try dsimp only); omega) | with_unfolding_all decide) ?_
    (try dsimp only)
    k_dflt (intro h5 tk5 fl fv fk F6 N6 lo6 hfv htk5)
    k_lt lo6
    k_steps
    refine Hold.mk ?_
    (rename Fr _ _ _ _ => F7); (rename News _ _ _ _ => N7x)
    have N7 := news_tail (news_tail N7x)
    clear N7x
    rename_i ta D1 hA1 lA1 hA2 hA3 hA4 tk6 htk6 tb tc D2 hA5 lA2 hA6 hA7 oSt dSt hA8 oSz dSz tk7 htk7
    have e4 : [c0, c1, c2, c3, c4].getD (Int.toNat 4) 0 = c4 := rfl
    rw [e4] at dSt dSz F7
    obtain ⟨z, hz⟩ : ∃ z, z = 1 + (1 + c4.fdiv 864).fmod 4 := ⟨_, rfl⟩
    have hz1 := fm_lo (1 + c4.fdiv 864) (n := 4) (by decide)
    have hz4 := fm_hi (1 + c4.fdiv 864) (n := 4) (by decide)
    have hzl : 1 ≤ z := by omega
    have hzh : z ≤ 4 := by omega
    rw [← hz] at dSz
    clear hz1 hz4
    refine x_compLA F7 (by rfl) (by with_unfolding_all rfl) (by rfl) (by rfl) (by with_unfolding_all rfl) (by decide) (by rfl) (by decide) (by rfl) (by rfl) ?_
    k_steps
    refine Hold.mk ?_
    (rename Fr _ _ _ _ => F8); (rename News _ _ _ _ => N8)
    refine ⟨Unit, D, [.str (leadOf c0) s0, .str (leadOf c1) s1, .str (leadOf c2) s2, .str (leadOf c3) s3], _, fun _ => _, fun i _ ys _ => IntsAre ys (([c0, c1, c2, c3].take i).map fun c => colL (leadOf c) z), (), rfl, by rw [PySem.sizeLine_eq]; show (4 : Nat) ≤ _; decide, fun _ => by k_mem, F8, N8, .nil, ?turn, ?done⟩
    case turn =>
      intro u i v ys I oI C oC DD mC h lo tk E' hv hInv hlt hcI hoC hmC F9 N9 hoff hne
      obtain ⟨c, t, hc, rfl⟩ := strsAre_at hInv' hv
      obtain ⟨x, hx, rfl⟩ : ∃ x, [c0, c1, c2, c3][i]? = some x ∧ c = leadOf x := by
        rw [List.getElem?_map] at hc
        cases e : [c0, c1, c2, c3][i]? with
        | none => rw [e] at hc; cases hc
        | some x => rw [e] at hc; exact ⟨x, rfl, (Option.some.inj hc).symm⟩
      obtain ⟨q1, q2, q3, q4, q5, q6⟩ := lead_facts x
      clear F8 N8
      refine ktests0 ?_
      k_steps
      refine Hold.mk ?_
      k_dflt (refine wpAny_tok ?_)
      with_unfolding_all refine (ws_c w _ _ _ _ _ (leadOf x) t q1) _ _ _ _ _ _ _ _ _ _ _ _ _ _ _ _ _ (by assumption) (by assumption) (by assumption) (by assumption) (by assumption) rfl (by first | ((try dsimp only); omega) | with_unfolding_all decide) (by first | ((try dsimp only); omega) | with_unfolding_all decide) ?_
      (try dsimp only)
      k_dflt (intro h5 tk5 ix dx T DT ws es kd tb F10 N10 hes hws hcl hb0 hb1 htk5)
      have hes' := hes
      obtain ⟨y1, y2, y3, y4, y5, yn, yt, ybs, rfl⟩ := hes
      k_steps
      refine Hold.mk ?_
      k_dflt (refine wpAny_tok ?_)
      with_unfolding_all refine (il_c w _ _ _ _ _ (leadOf x) t ix dx T DT ws _ kd tb z _ ?_ ?_ ?_ ?_ hes' hws hcl hb0 hb1 q4 q5 q6 hzl hzh) _ _ _ _ _ _ _ _ _ _ _ _ _ _ _ _ _ (by assumption) (by assumption) (by assumption) (by assumption) (by assumption) rfl (by first | ((try dsimp only); omega) | with_unfolding_all decide) (by first | ((try dsimp only); omega) | with_unfolding_all decide) ?_
      (try dsimp only)
      · k_mem
      · k_mem
      · k_mem
      · k_mem
      k_dflt (intro h6 tk6 t6 F11 N11 htk6)
      k_steps
      refine Hold.mk ?_
      refine KOut.intro () F11 N11 (fun p hp => List.mem_cons_of_mem _ (List.mem_cons_of_mem _ (List.mem_cons_of_mem _ (List.mem_cons_of_mem _ hp)))) hoff ?_
      rw [List.take_add_one, hx, List.map_append, (lead_told x hzl hzh).1]
      exact intsAre_snoc hInv _ _
    case done =>
      intro DD u ys h lo tk hInv hlt F9 N9 hne hltD
      clear F8 N8 hne
      have hTold : IntsAre ys ([c0, c1, c2, c3].map fun c => colL (leadOf c) z) := hInv
      clear hInv
      (try dsimp only at N9 hltD)
      k_lt hltD
      k_steps
      refine Hold.mk ?_
      (rename Fr _ _ _ _ => F7); (rename News _ _ _ _ => N7)
      refine x_compLA F7 (by rfl) (by with_unfolding_all rfl) (by rfl) (by rfl) (by with_unfolding_all rfl) (by decide) (by rfl) (by decide) (by rfl) (by rfl) ?_
      k_steps
      refine Hold.mk ?_
      (rename Fr _ _ _ _ => F8); (rename News _ _ _ _ => N8)
      refine ⟨Unit, D, [.str (leadOf c0) s0, .str (leadOf c1) s1, .str (leadOf c2) s2, .str (leadOf c3) s3], _, fun _ => _, fun i _ ys _ => IntsAre ys (([c0, c1, c2, c3].take i).map fun c => colL (leadOf c) z), (), rfl, by rw [PySem.sizeLine_eq]; show (4 : Nat) ≤ _; decide, fun _ => by k_mem, F8, N8, .nil, ?turn, ?done⟩
      case turn =>
        intro u i v ys I oI C oC DD mC h lo tk E' hv hInv hlt hcI hoC hmC F9 N9 hoff hne
        obtain ⟨c, t, hc, rfl⟩ := strsAre_at hInv' hv
        obtain ⟨x, hx, rfl⟩ : ∃ x, [c0, c1, c2, c3][i]? = some x ∧ c = leadOf x := by
          rw [List.getElem?_map] at hc
          cases e : [c0, c1, c2, c3][i]? with
          | none => rw [e] at hc; cases hc
          | some x => rw [e] at hc; exact ⟨x, rfl, (Option.some.inj hc).symm⟩
        obtain ⟨q1, q2, q3, q4, q5, q6⟩ := lead_facts x
        clear F8 N8
        refine ktests0 ?_
        k_steps
        refine Hold.mk ?_
        k_dflt (refine wpAny_tok ?_)
        with_unfolding_all refine (col_c w _ _ _ _ _ (leadOf x) t z _ (by omega) q2 hzl hzh) _ _ _ _ _ _ _ _ _ _ _ _ _ _ _ _ _ (by assumption) (by assumption) (by assumption) (by assumption) (by assumption) rfl (by first | ((try dsimp only); omega) | with_unfolding_all decide) (by first | ((try dsimp only); omega) | with_unfolding_all decide) ?_
        (try dsimp only)
        k_dflt (intro h6 tk6 t6 F11 N11 htk6)
        k_steps
        refine Hold.mk ?_
        refine KOut.intro () F11 N11 (fun p hp => hp) hoff ?_
        rw [List.take_add_one, hx, List.map_append]
        exact intsAre_snoc hInv _ _
      case done =>
        intro PP u ps h lo tk hInv hlt F9 N9 hne hltP
        clear F8 N8 hne
        have hPlain : IntsAre ps ([c0, c1, c2, c3].map fun c => colL (leadOf c) z) := hInv
        clear hInv
        (try dsimp only at N9 hltP)
        k_lt hltP
        have hpos : ∀ i, i < 4 → 0 < ([c0, c1, c2, c3].map fun c => colL (leadOf c) z).getD i 0 := by
          intro i hi
          obtain rfl | rfl | rfl | rfl : i = 0 ∨ i = 1 ∨ i = 2 ∨ i = 3 := by omega
          · exact (lead_told c0 hzl hzh).2.1
          · exact (lead_told c1 hzl hzh).2.1
          · exact (lead_told c2 hzl hzh).2.1
          · exact (lead_told c3 hzl hzh).2.1
        have hleL : ∀ i, i < 4 → ([c0, c1, c2, c3].map fun c => colL (leadOf c) z).getD i 0 ≤ 1000 := by
          intro i hi
          obtain rfl | rfl | rfl | rfl : i = 0 ∨ i = 1 ∨ i = 2 ∨ i = 3 := by omega
          · exact (lead_told c0 hzl hzh).2.2
          · exact (lead_told c1 hzl hzh).2.2
          · exact (lead_told c2 hzl hzh).2.2
          · exact (lead_told c3 hzl hzh).2.2
        have hLl : ([c0, c1, c2, c3].map fun c => colL (leadOf c) z).length = 4 := rfl
        generalize ([c0, c1, c2, c3].map fun c => colL (leadOf c) z) = LV at hTold hPlain hpos hleL hLl
        have hP0 := posts_mem c4
        generalize postsS c4 = P0 at hfv hP0
        k_steps
        have TF := tree_f hP0
        refine Hold.mk ?_
        k_dflt (refine wpAny_tok ?_)
        with_unfolding_all refine (namesT_c w _ _ _ _ _ fl fk fv P0 ?_ hfv TF.inR) _ _ _ _ _ _ _ _ _ _ _ _ _ _ _ _ _ (by assumption) (by assumption) (by assumption) (by assumption) (by assumption) rfl (by first | ((try dsimp only); omega) | with_unfolding_all decide) (by first | ((try dsimp only); omega) | with_unfolding_all decide) ?_
        (try dsimp only)
        · k_mem
        k_dflt (intro hB1 tkN nl nv nk τn F10 N10 loN hnv htkN)
        k_lt loN
        k_steps
        (rename Fr _ _ _ _ => FN); (rename News _ _ _ _ => NN)
        rename_i hN1 tkN1 htkN1
        refine Hold.mk ?_
        k_dflt (refine wpAny_tok ?_)
        with_unfolding_all refine (read_c w _ _ _ _ _ nl nk nv (namesS P0) τn tkN ?_ hnv (Nat.le_refl 3) TF.good TF.isIn) _ _ _ _ _ _ _ _ _ _ _ _ _ _ _ _ _ (by assumption) (by assumption) (by assumption) (by assumption) (by assumption) rfl (by first | ((try dsimp only); omega) | with_unfolding_all decide) (by first | ((try dsimp only); omega) | with_unfolding_all decide) ?_
        (try dsimp only)
        · k_mem
        refine ⟨by (try dsimp only); omega, ?_⟩
        k_dflt (intro hB2 tkR rl rv rk τr F11 N11 loR hrv htkR)
        k_lt loR
        rw [TF.read] at hrv
        k_steps
        refine Hold.mk ?_
        k_dflt (refine wpAny_tok ?_)
        with_unfolding_all refine (ways_c w _ _ _ _ _ rl DD rk ys.length rv ys P0 LV (c4.fdiv 36) _ ?_ ?_ hrv.are hTold TF.inR.1 hLl) _ _ _ _ _ _ _ _ _ _ _ _ _ _ _ _ _ (by assumption) (by assumption) (by assumption) (by assumption) (by assumption) rfl (by first | ((try dsimp only); omega) | with_unfolding_all decide) (by first | ((try dsimp only); omega) | with_unfolding_all decide) ?_
        (try dsimp only)
        · k_mem
        · show (DD, LCg.lst ys) ∈ _
          k_mem
        k_dflt (intro hB3 tkW wl kw r0 r1 r2 k0 k1 k2 v0 v1 v2 τw F12 N12 hw0 hw1 hw2 htkW)
        k_steps
        refine Hold.mk ?_
        k_dflt (refine wpAny_tok ?_)
        with_unfolding_all refine (ways_c w _ _ _ _ _ fl PP fk ps.length fv ps P0 LV (c4.fdiv 36) _ ?_ ?_ hfv hPlain TF.inR.1 hLl) _ _ _ _ _ _ _ _ _ _ _ _ _ _ _ _ _ (by assumption) (by assumption) (by assumption) (by assumption) (by assumption) rfl (by first | ((try dsimp only); omega) | with_unfolding_all decide) (by first | ((try dsimp only); omega) | with_unfolding_all decide) ?_
        (try dsimp only)
        · k_mem
        · show (PP, LCg.lst ps) ∈ _
          k_mem
        k_dflt (intro hB4 tkD dl kd u0 u1 u2 j0 j1 j2 x0 x1 x2 τd F13 N13 hx0 hx1 hx2 htkD)
        k_steps
        (rename Fr _ _ _ _ => FA); (rename News _ _ _ _ => NA)
        rename_i e0 hC0 q0 lE0 sm0 is0 if0 ii0 fi0 e1 hC1 q1 lE1 sm1 is1 if1 ii1 fi1 e2 hC2 q2 lE2 sm2 is2 if2 ii2 fi2 lc hC3 lE3 dt hC4 qt lE4 smt ist ift iit fit ds hC5 qs lE5 sms iss ifs' iis fis tp hC6 lE6 hC7 hC8 hC9 hC10 tkE htkE
        refine Hold.mk ?_
        k_dflt (refine wpAny_tok ?_)
        with_unfolding_all refine (forests_c w _ _ _ _ _ dl kd (sel3 u0 u1 u2) (sel3 x0 x1 x2) (sel3 j0 j1 j2) (WF P0 LV (c4.fdiv 36)) 3 _ ?_ ?_ ?_ (fun i _ => (WF_in _ _ _ i).1) (fun i _ => (WF_in _ _ _ i).2) (by decide) (by decide)) _ _ _ _ _ _ _ _ _ _ _ _ _ _ _ _ _ (by assumption) (by assumption) (by assumption) (by assumption) (by assumption) rfl (by first | ((try dsimp only); omega) | with_unfolding_all decide) (by first | ((try dsimp only); omega) | with_unfolding_all decide) ?_
        (try dsimp only)
        · show (dl, W.listOf #[.ref u0, .ref u1, .ref u2] kd) ∈ _
          k_mem
        · intro i hi
          obtain rfl | rfl | rfl : i = 0 ∨ i = 1 ∨ i = 2 := by omega
          · show (u0, W.listOf x0.toArray j0) ∈ _
            k_mem
          · show (u1, W.listOf x1.toArray j1) ∈ _
            k_mem
          · show (u2, W.listOf x2.toArray j2) ∈ _
            k_mem
        · intro i hi
          obtain rfl | rfl | rfl : i = 0 ∨ i = 1 ∨ i = 2 := by omega
          · exact hx0.are
          · exact hx1.are
          · exact hx2.are
        k_dflt (intro hB5 tkF fo fk' frs F14 N14 hfrs loF htkF)
        k_steps
        refine Hold.mk ?_
        (rename Fr _ _ _ _ => FB)
        obtain ⟨gst, PLw⟩ := plaw hP0 hLl hpos (c4.fdiv 36) (s := (c4.fdiv 288).fmod 3) (fm_lo _ (by decide)) (fm_hi _ (by decide))
        have hTn : frs.length = treesN P0 LV (c4.fdiv 36) := hfrs.length
        obtain ⟨FX, hFX⟩ : ∃ FX : List (Addr × Obj), FX = [(fo, W.listOf (frs.map fun q => Value.ref q.1).toArray fk'), (ds, qs), (dt, qt), (dl, W.listOf #[.ref u0, .ref u1, .ref u2] kd), (u0, W.listOf x0.toArray j0), (u1, W.listOf x1.toArray j1), (u2, W.listOf x2.toArray j2),
          (wl, W.listOf #[.ref r0, .ref r1, .ref r2] kw), (r0, W.listOf v0.toArray k0), (r1, W.listOf v1.toArray k1), (r2, W.listOf v2.toArray k2), (PP, LCg.lst ps), (DD, LCg.lst ys), (fl, W.listOf fv.toArray fk), (sh1.heap.objs.size + 1 + 1 + 1 + 1, o4), (sh1.heap.objs.size + 1 + 1 + 1, o3), (sh1.heap.objs.size + 1 + 1, oSz), (sh1.heap.objs.size + 1, oSt)] := ⟨_, rfl⟩
        have N15 : News sh1.heap sh1.heap.objs.size _ ((lc, W.listOf #[.ref e0, .ref e1, .ref e2] 0) :: (e0, q0) :: (e1, q1) :: (e2, q2) :: (nl, W.listOf nv.toArray nk) :: FX) := news_sub N14 (by
          rw [hFX]
          exact fa_cons (md1 (List.mem_append_right _ (by k_mem))) (fa_cons (md1 (List.mem_append_right _ (by k_mem))) (fa_cons (md1 (List.mem_append_right _ (by k_mem))) (fa_cons (md1 (List.mem_append_right _ (by k_mem))) (fa_cons (md1 (List.mem_append_right _ (by k_mem))) (fa_cons (by k_mem) (fa_cons (md1 (List.mem_append_right _ (by k_mem))) (fa_cons (md1 (List.mem_append_right _ (by k_mem))) (fa_cons (md1 (List.mem_append_right _ (by k_mem))) (fa_cons (md1 (List.mem_append_right _ (by k_mem))) (fa_cons (md1 (List.mem_append_right _ (by k_mem))) (fa_cons (md1 (List.mem_append_right _ (by k_mem))) (fa_cons (md1 (List.mem_append_right _ (by k_mem))) (fa_cons (md1 (List.mem_append_right _ (by k_mem))) (fa_cons (md1 (List.mem_append_right _ (by k_mem))) (fa_cons (md1 (List.mem_append_right _ (by k_mem))) (fa_cons (md1 (List.mem_append_right _ (by k_mem))) (fa_cons (md1 (List.mem_append_right _ (by k_mem))) (fa_cons (md1 (List.mem_append_right _ (by k_mem))) (fa_cons (md1 (List.mem_append_right _ (by k_mem))) (fa_cons (md1 (List.mem_append_right _ (by k_mem))) (fa_cons (md1 (List.mem_append_right _ (by k_mem))) (fa_cons (md1 (List.mem_append_right _ (by k_mem))) (fa_nil))))))))))))))))))))))))
        have mfo : (fo, W.listOf (frs.map fun q => Value.ref q.1).toArray fk') ∈ FX := by rw [hFX]; k_mem
        have mwl : (wl, W.listOf #[.ref r0, .ref r1, .ref r2] kw) ∈ FX := by rw [hFX]; k_mem
        have mr0 : (r0, W.listOf v0.toArray k0) ∈ FX := by rw [hFX]; k_mem
        have mr1 : (r1, W.listOf v1.toArray k1) ∈ FX := by rw [hFX]; k_mem
        have mr2 : (r2, W.listOf v2.toArray k2) ∈ FX := by rw [hFX]; k_mem
        have mDD : (DD, LCg.lst ys) ∈ FX := by rw [hFX]; k_mem
        have mSt : (sh1.heap.objs.size + 1, oSt) ∈ FX := by rw [hFX]; k_mem
        have hlcF : ∀ p ∈ FX, p.1 ≠ lc := by
          rw [hFX]
          exact fa_cons (Nat.ne_of_gt (loF (lc, _) (by k_mem)).1) (fa_cons (by k_ne) (fa_cons (by k_ne) (fa_cons (by k_ne) (fa_cons (by k_ne) (fa_cons (by k_ne) (fa_cons (by k_ne) (fa_cons (by k_ne) (fa_cons (by k_ne) (fa_cons (by k_ne) (fa_cons (by k_ne) (fa_cons (by k_ne) (fa_cons (by k_ne) (fa_cons (by k_ne) (fa_cons (by k_ne) (fa_cons (by k_ne) (fa_cons (by k_ne) (fa_cons (by k_ne) (fa_nil))))))))))))))))))
        have hsepe0 : ∀ p ∈ FX, p.1 ≠ e0 := by
          rw [hFX]
          exact fa_cons (Nat.ne_of_gt (loF (e0, q0) (by k_mem)).1) (fa_cons (by k_ne) (fa_cons (by k_ne) (fa_cons (by k_ne) (fa_cons (by k_ne) (fa_cons (by k_ne) (fa_cons (by k_ne) (fa_cons (by k_ne) (fa_cons (by k_ne) (fa_cons (by k_ne) (fa_cons (by k_ne) (fa_cons (by k_ne) (fa_cons (by k_ne) (fa_cons (by k_ne) (fa_cons (by k_ne) (fa_cons (by k_ne) (fa_cons (by k_ne) (fa_cons (by k_ne) (fa_nil))))))))))))))))))
        have hsepe1 : ∀ p ∈ FX, p.1 ≠ e1 := by
          rw [hFX]
          exact fa_cons (Nat.ne_of_gt (loF (e1, q1) (by k_mem)).1) (fa_cons (by k_ne) (fa_cons (by k_ne) (fa_cons (by k_ne) (fa_cons (by k_ne) (fa_cons (by k_ne) (fa_cons (by k_ne) (fa_cons (by k_ne) (fa_cons (by k_ne) (fa_cons (by k_ne) (fa_cons (by k_ne) (fa_cons (by k_ne) (fa_cons (by k_ne) (fa_cons (by k_ne) (fa_cons (by k_ne) (fa_cons (by k_ne) (fa_cons (by k_ne) (fa_cons (by k_ne) (fa_nil))))))))))))))))))
        have hsepe2 : ∀ p ∈ FX, p.1 ≠ e2 := by
          rw [hFX]
          exact fa_cons (Nat.ne_of_gt (loF (e2, q2) (by k_mem)).1) (fa_cons (by k_ne) (fa_cons (by k_ne) (fa_cons (by k_ne) (fa_cons (by k_ne) (fa_cons (by k_ne) (fa_cons (by k_ne) (fa_cons (by k_ne) (fa_cons (by k_ne) (fa_cons (by k_ne) (fa_cons (by k_ne) (fa_cons (by k_ne) (fa_cons (by k_ne) (fa_cons (by k_ne) (fa_cons (by k_ne) (fa_cons (by k_ne) (fa_cons (by k_ne) (fa_cons (by k_ne) (fa_nil))))))))))))))))))
        have hsepF : ∀ p ∈ FX, p.1 ≠ e0 ∧ p.1 ≠ e1 ∧ p.1 ≠ e2 := fun p hp => ⟨hsepe0 p hp, hsepe1 p hp, hsepe2 p hp⟩
        clear hsepe0 hsepe1 hsepe2
        have hlc4 : e0 ≠ lc ∧ e1 ≠ lc ∧ e2 ≠ lc ∧ nl ≠ lc := ⟨by k_ne, by k_ne, by k_ne, by k_ne⟩
        have hTW : tkW ≤ tkF := by
          have a1 : tkW ≤ tkD := Nat.le_trans (Nat.le_refl _) htkD
          have a2 : tkE + 1 ≤ tkF := htkF
          omega
        have hTN : tkN ≤ tkF := by
          have a0 : tkN1 ≤ tkR := htkR
          have a4 : tkW ≤ tkF := hTW
          have a3 : tkR ≤ tkW := htkW
          omega
        obtain ⟨gd, hgd⟩ : ∃ gd, gd = gdS P0 LV (c4.fdiv 36) := ⟨_, rfl⟩
        have hw0' : IntsT τw (fun t => t ≠ 0 ∧ t < tkW) v0 gd.W0 := by rw [hgd]; exact hw0
        have hw1' : IntsT τw (fun t => t ≠ 0 ∧ t < tkW) v1 gd.W1 := by rw [hgd]; exact hw1
        have hw2' : IntsT τw (fun t => t ≠ 0 ∧ t < tkW) v2 gd.W2 := by rw [hgd]; exact hw2
        obtain ⟨lr, hTold'⟩ : ∃ lr, IntsAre ys (gd.L0 :: gd.L1 :: gd.L2 :: lr) := by
          rw [hgd]; exact told3 _ _ hLl hTold
        refine' x_listT (σ := TS) (l := fo) (vs := frs.map fun q => Value.ref q.1) (k := fk') (ledT lc FX) (psT wl lc DD PP fl dl dt ds) (TI w gst tkW lc FX)
          ⟨nl, nv, nk, e0, e1, e2, q0, q1, q2, [], [], [], 0⟩ (by rfl) ?hl rfl rfl FB N15 ?hk ?hP ?turn ?done
        case hl => intro c; exact md5 mfo
        case hk => exact fa_cons (by with_unfolding_all rfl) (fa_cons (by with_unfolding_all rfl) (fa_cons (by with_unfolding_all rfl) (fa_cons (by with_unfolding_all rfl) (fa_cons (by with_unfolding_all rfl) (fa_cons (by with_unfolding_all rfl) (fa_cons (by with_unfolding_all rfl) (fa_cons (by with_unfolding_all rfl) (fa_cons (by with_unfolding_all rfl) (fa_nil)))))))))
        case hP => exact { hW := hTW, names := ⟨τn, by rw [PLw.g0]; exact hnv.mono fun t ht => ⟨⟨ht.1, Nat.lt_of_lt_of_le ht.2 hTN⟩, rfl⟩⟩, i0 := ii0, i1 := ii1, i2 := ii2, a0 := by (rw [PLw.g0]; exact .nil), a1 := by (rw [PLw.g0]; exact .nil), a2 := by (rw [PLw.g0]; exact .nil), s0 := sm0, s1 := sm1, s2 := sm2, c0 := hlc4.1, c1 := hlc4.2.1, c2 := hlc4.2.2.1, cn := hlc4.2.2.2, v0 := by k_ne, v1 := by k_ne, v2 := by k_ne, sep := hsepF }
        case turn =>
          rintro ⟨nl', nv', nk', f0, f1, f2, p0, p1, p2, w0, w1, w2, kc⟩ i v m₁ h lo tk I oI hi hc hle hcI ho lF lN
          dsimp only [ledT, psT] at lN ho lF
          refine Exists.elim hc.names fun τ hnv' => ?_
          have hlW := hc.hW
          have hiT : i < treesN P0 LV (c4.fdiv 36) := by
            have := (List.getElem?_eq_some_iff.mp hi).1
            rw [List.length_map] at this
            omega
          have TFi := tree_f (PLw.tree i (Nat.le_of_lt hiT))
          have TFj := tree_f (PLw.tree (i + 1) hiT)
          have hIlc : I ≠ lc := (ho _ mm0).symm
          have lN2 := news_sub lN (b := (lc, W.listOf #[.ref f0, .ref f1, .ref f2] kc) :: (f0, p0) :: (f1, p1) :: (f2, p2) :: (I, oI) :: (nl', W.listOf nv'.toArray nk') :: FX) (fa_cons (mm1) (fa_cons (mm2) (fa_cons (mm3) (fa_cons (mm4) (fa_cons (mm0) (fa_cons (mm5) (fun _ hp => md6 hp)))))))
          clear lN FB N15 N14 hi
          k_steps
          have hW0 := hw0'.mono (R := fun t => t ≠ 0 ∧ t < lo) (σ := τw) fun t ht => ⟨⟨ht.1, Nat.lt_of_lt_of_le ht.2 hlW⟩, rfl⟩
          have hW1 := hw1'.mono (R := fun t => t ≠ 0 ∧ t < lo) (σ := τw) fun t ht => ⟨⟨ht.1, Nat.lt_of_lt_of_le ht.2 hlW⟩, rfl⟩
          have hW2 := hw2'.mono (R := fun t => t ≠ 0 ∧ t < lo) (σ := τw) fun t ht => ⟨⟨ht.1, Nat.lt_of_lt_of_le ht.2 hlW⟩, rfl⟩
          have hrun : runG gd 64 ⟨readS (namesS (gst i).ps), (gst i).d0, (gst i).d1, (gst i).d2, (c4.fdiv 288).fmod 3⟩ = some (gst (i + 1)) := by rw [TFi.read, hgd]; exact PLw.run i hiT
          refine Hold.mk ?_
          k_dflt (refine wpAny_tok ?_)
          with_unfolding_all refine (guest_c w _ _ _ _ ((I, oI) :: (nl', W.listOf nv'.toArray nk') :: FX) wl r0 r1 r2 nl' DD lc f0 f1 f2 kw k0 k1 k2 nk' ys.length kc v0 v1 v2 nv' ys p0 p1 p2 w0 w1 w2 gd (gst i).d0 (gst i).d1 (gst i).d2 (namesS (gst i).ps) τ τw lo lr ((c4.fdiv 288).fmod 3) _ (gst (i + 1)) (md2 mwl) (md2 mr0) (md2 mr1) (md2 mr2) mm1 (md2 mDD) hW0 hW1 hW2 hTold' hnv' (Nat.le_refl 3) TFi.good TFi.isIn hc.i0 hc.i1 hc.i2 hc.a0 hc.a1 hc.a2 hc.s0 hc.s1 hc.s2 (fa_cons ⟨(ho (f0, p0) mm1).symm, (ho (f1, p1) mm2).symm, (ho (f2, p2) mm3).symm⟩ (fa_cons ⟨hc.v0, hc.v1, hc.v2⟩ hc.sep)) (fa_cons hc.c0 (fa_cons hc.c1 (fa_cons hc.c2 (fa_cons hIlc (fa_cons hc.cn hlcF))))) hrun TFj.inR) _ _ _ _ _ _ _ _ _ _ _ _ _ _ _ _ _ (by assumption) (by assumption) (by assumption) (by assumption) (by assumption) rfl (by first | ((try dsimp only); omega) | with_unfolding_all decide) (by first | ((try dsimp only); omega) | with_unfolding_all decide) ?_
          (try dsimp only)
          refine ⟨by (try dsimp only); omega, ?_⟩
          k_dflt (intro h9 tk9 r us kk τ' g0 g1 g2 y0 y1 y2 kc' z0 z1 z2 F9 N9 hne9 lo9 hclr hus hi0 hi1 hi2 hb0 hb1 hb2 hs0' hs1' hs2' hsp9 htk9)
          k_steps
          · exfalso
            refine Exists.elim (List.any_eq_true.mp (by assumption : ((namesS (gst (i + 1)).ps).any fun x => x == Str.ofString "") = true)) fun x hx => ?_
            exact TFj.full (beq_iff_eq.mp hx.2 ▸ hx.1)
          · rename_i hT1 tkT1 htT1 hany tkT2 htT2
            (rename Fr _ _ _ _ => F20); (rename News _ _ _ _ => N20)
            have b1 : tk ≤ tk9 := Nat.le_trans (Nat.le_refl _) htk9
            have b2 : tk9 ≤ tkT2 := by omega
            exact TEndT.intro (⟨r, us, kk, g0, g1, g2, y0, y1, y2, z0, z1, z2, kc'⟩ : TS) F20 N20 (fa_one (by k_mem)) (fa_cons (by k_mem) (fa_cons (by k_mem) (fa_cons (by k_mem) (fa_cons (by k_mem) (fa_cons (by k_mem) (fun p hp => by k_mem))))))
              (off2 (fa_cons (.inl hIlc.symm) (fa_cons (.inr (dict_ne_it (idict_cls hi0) hcI (by decide))) (fa_cons (.inr (dict_ne_it (idict_cls hi1) hcI (by decide))) (fa_cons (.inr (dict_ne_it (idict_cls hi2) hcI (by decide))) (fa_cons (.inl (Nat.ne_of_gt (lo9 (I, oI) mm0))) (fun p hp => .inl (ho p (md5 hp)))))))))
              (fa_cons (by with_unfolding_all rfl) (fa_cons (by with_unfolding_all rfl) (fa_cons (by with_unfolding_all rfl) (fa_cons (by with_unfolding_all rfl) (fa_cons (by with_unfolding_all rfl) (fa_cons (by with_unfolding_all rfl) (fa_cons (by with_unfolding_all rfl) (fa_cons (by with_unfolding_all rfl) (fa_cons (by with_unfolding_all rfl) (fa_nil))))))))))
              { hW := Nat.le_trans hlW (Nat.le_trans hle (Nat.le_trans b1 b2)), names := ⟨τ', hus.mono fun t ht => ⟨⟨ht.1, Nat.lt_of_lt_of_le ht.2 b2⟩, rfl⟩⟩, i0 := hi0, i1 := hi1, i2 := hi2, a0 := hb0, a1 := hb1, a2 := hb2, s0 := hs0', s1 := hs1', s2 := hs2', c0 := hne9 _ mm0, c1 := hne9 _ mm1, c2 := hne9 _ mm2, cn := Nat.ne_of_gt hclr, v0 := ne_by_cls N20 (by k_mem) (by k_mem) (list_ne_dict (idict_cls hi0)), v1 := ne_by_cls N20 (by k_mem) (by k_mem) (list_ne_dict (idict_cls hi1)), v2 := ne_by_cls N20 (by k_mem) (by k_mem) (list_ne_dict (idict_cls hi2)), sep := fun p hp => hsp9 p (md2 hp) }
        case done =>
          rintro ⟨nl', nv', nk', g0, g1, g2, p0, p1, p2, w0, w1, w2, kc⟩ m₁ h lo tk hc hle lF lN
          dsimp only [ledT, psT] at lN lF
          rw [List.length_map, hTn] at hc
          refine Exists.elim hc.names fun τ hnv' => ?_
          have hd0 := hc.i0
          have hd1 := hc.i1
          have hd2 := hc.i2
          have ha0 := hc.a0
          have ha1 := hc.a1
          have ha2 := hc.a2
          have hs0 := hc.s0
          have hs1 := hc.s1
          have hs2 := hc.s2
          generalize hGT : gst (treesN P0 LV (c4.fdiv 36)) = GT at ha0 ha1 ha2 hnv'
          replace hGT := hGT.symm
          have hvd := hc.sep (ds, qs) (by rw [hFX]; k_mem)
          clear hc
          clear FB N15 N14 hlcF mwl mr0 mr1 mr2 mDD hw0' hw1' hw2' hTold' hsepF mfo mSt
          have N16 := lN
          rw [hFX] at N16
          clear lN
          k_steps
          refine Hold.mk ?_
          k_dflt (refine wpAny_tok ?_)
          with_unfolding_all refine (forests_c w _ _ _ _ _ dl kd (sel3 u0 u1 u2) (sel3 x0 x1 x2) (sel3 j0 j1 j2) (WF P0 LV (c4.fdiv 36)) ((c4.fdiv 288).fmod 3) _ ?_ ?_ ?_ (fun i _ => (WF_in _ _ _ i).1) (fun i _ => (WF_in _ _ _ i).2) (fm_lo _ (by decide)) (Int.le_trans (Int.le_of_lt (fm_hi _ (by decide))) (Int.le_refl 3))) _ _ _ _ _ _ _ _ _ _ _ _ _ _ _ _ _ (by assumption) (by assumption) (by assumption) (by assumption) (by assumption) rfl (by first | ((try dsimp only); omega) | with_unfolding_all decide) (by first | ((try dsimp only); omega) | with_unfolding_all decide) ?_
          (try dsimp only)
          · show (dl, W.listOf #[.ref u0, .ref u1, .ref u2] kd) ∈ _
            k_mem
          · intro i hi
            obtain rfl | rfl | rfl : i = 0 ∨ i = 1 ∨ i = 2 := by omega
            · show (u0, W.listOf x0.toArray j0) ∈ _
              k_mem
            · show (u1, W.listOf x1.toArray j1) ∈ _
              k_mem
            · show (u2, W.listOf x2.toArray j2) ∈ _
              k_mem
          · intro i hi
            obtain rfl | rfl | rfl : i = 0 ∨ i = 1 ∨ i = 2 := by omega
            · exact hx0.are
            · exact hx1.are
            · exact hx2.are
          k_dflt (intro hB6 tkG ro rk' rrs F16 N17 hrrs loG htkG)
          k_steps
          refine Hold.mk ?_
          (rename Fr _ _ _ _ => FR); (rename News _ _ _ _ => NR); (rename IsRange _ _ _ _ _ _ _ _ => hrgR)
          rename_i hD1 FR' NR' tkH htkH hD2 tkr t1r u1r v1r hkeR htkR2
          clear FR' NR' hkeR
          obtain ⟨aP, haP⟩ : ∃ aP : Addr, aP = sh1.heap.objs.size + 1 + 1 + 1 := ⟨_, rfl⟩
          obtain ⟨FY, hFY⟩ : ∃ FY : List (Addr × Obj), FY = (lc, W.listOf #[.ref g0, .ref g1, .ref g2] kc) :: (g0, p0) :: (g1, p1) :: (g2, p2) :: (nl', W.listOf nv'.toArray nk') :: (ro, W.listOf (rrs.map fun q => Value.ref q.1).toArray rk') :: (dl, W.listOf #[.ref u0, .ref u1, .ref u2] kd) :: (u0, W.listOf x0.toArray j0) :: (u1, W.listOf x1.toArray j1) :: (u2, W.listOf x2.toArray j2) ::
            (PP, W.listOf ps.toArray ps.length) :: (fl, W.listOf fv.toArray fk) :: (sh1.heap.objs.size + 1 + 1, oSz) :: (sh1.heap.objs.size + 1, oSt) :: rowsL rrs := ⟨_, rfl⟩
          have NS := news_sub NR (b := (ds, qs) :: (dt, qt) :: (sh1.heap.objs.size + 1 + 1 + 1 + 1, o4) :: (sh1.heap.objs.size + 1 + 1 + 1, o3) :: FY) (by
            rw [hFY]
            exact fa_cons (md1 (List.mem_append_right _ (by k_mem))) (fa_cons (md1 (List.mem_append_right _ (by k_mem))) (fa_cons (md1 (List.mem_append_right _ (by k_mem))) (fa_cons (md1 (List.mem_append_right _ (by k_mem))) (fa_cons (md1 (List.mem_append_right _ (by k_mem))) (fa_cons (md1 (List.mem_append_right _ (by k_mem))) (fa_cons (md1 (List.mem_append_right _ (by k_mem))) (fa_cons (md1 (List.mem_append_right _ (by k_mem))) (fa_cons (md1 (List.mem_append_right _ (by k_mem))) (fa_cons (by k_mem) (fa_cons (md1 (List.mem_append_right _ (by k_mem))) (fa_cons (md1 (List.mem_append_right _ (by k_mem))) (fa_cons (md1 (List.mem_append_right _ (by k_mem))) (fa_cons (md1 (List.mem_append_right _ (by k_mem))) (fa_cons (md1 (List.mem_append_right _ (show (PP, LCg.lst ps) ∈ _ by k_mem))) (fa_cons (md1 (List.mem_append_right _ (by k_mem))) (fa_cons (md1 (List.mem_append_right _ (by k_mem))) (fa_cons (md1 (List.mem_append_right _ (by k_mem))) (fun _ hp => md1 (List.mem_append_left _ hp))))))))))))))))))))
          have hYP : ∀ p ∈ FY, p.1 ≠ sh1.heap.objs.size + 1 + 1 + 1 ∧ p.1 ≠ sh1.heap.objs.size + 1 + 1 + 1 + 1 := by
            have mP : (sh1.heap.objs.size + 1 + 1 + 1, o3) ∈ (ds, qs) :: (dt, qt) :: (sh1.heap.objs.size + 1 + 1 + 1 + 1, o4) :: (sh1.heap.objs.size + 1 + 1 + 1, o3) :: FY := by k_mem
            have mQ : (sh1.heap.objs.size + 1 + 1 + 1 + 1, o4) ∈ (ds, qs) :: (dt, qt) :: (sh1.heap.objs.size + 1 + 1 + 1 + 1, o4) :: (sh1.heap.objs.size + 1 + 1 + 1, o3) :: FY := by k_mem
            intro p hp
            have hpm : p ∈ (ds, qs) :: (dt, qt) :: (sh1.heap.objs.size + 1 + 1 + 1 + 1, o4) :: (sh1.heap.objs.size + 1 + 1 + 1, o3) :: FY := List.mem_cons_of_mem _ (List.mem_cons_of_mem _ (List.mem_cons_of_mem _ (List.mem_cons_of_mem _ hp)))
            have hcase : (∀ z, p.2.data ≠ .cell z) ∨ p.1 = sh1.heap.objs.size + 1 + 1 ∨ p.1 = sh1.heap.objs.size + 1 := by
              rw [hFY] at hp
              iterate 1 (rcases List.mem_cons.mp hp with rfl | hp; · exact .inl fun z e => nomatch e)
              rcases List.mem_cons.mp hp with rfl | hp
              · exact .inl (idict_nocell hd0)
              rcases List.mem_cons.mp hp with rfl | hp
              · exact .inl (idict_nocell hd1)
              rcases List.mem_cons.mp hp with rfl | hp
              · exact .inl (idict_nocell hd2)
              iterate 8 (rcases List.mem_cons.mp hp with rfl | hp; · exact .inl fun z e => nomatch e)
              rcases List.mem_cons.mp hp with rfl | hp
              · exact .inr (.inl rfl)
              rcases List.mem_cons.mp hp with rfl | hp
              · exact .inr (.inr rfl)
              obtain ⟨q, _, rfl⟩ := List.mem_map.mp hp
              exact .inl fun z e => nomatch e
            rcases hcase with hz | hz | hz
            · exact ⟨ne_cell NS mP g3 hpm hz, ne_cell NS mQ g4 hpm hz⟩
            · rw [hz]; exact ⟨Nat.ne_of_lt (Nat.lt_succ_self _), Nat.ne_of_lt (Nat.lt_succ_of_lt (Nat.lt_succ_self _))⟩
            · rw [hz]; exact ⟨Nat.ne_of_lt (Nat.lt_succ_of_lt (Nat.lt_succ_self _)), Nat.ne_of_lt (Nat.lt_succ_of_lt (Nat.lt_succ_of_lt (Nat.lt_succ_self _)))⟩
          have hYd : ∀ p ∈ FY, p.1 ≠ ds := by
            rw [hFY]
            exact fa_cons (by k_ne) (fa_cons (hvd.1.symm) (fa_cons (hvd.2.1.symm) (fa_cons (hvd.2.2.symm) (fa_cons (ne_by_cls NS (by rw [hFY]; k_mem : (nl', W.listOf nv'.toArray nk') ∈ _) (by k_mem : (ds, qs) ∈ _) (by rw [idict_cls iis]; intro e; exact absurd (Value.type.inj e) (by decide))) (fa_cons (Nat.ne_of_gt (loG (ds, qs) (by k_mem)).1) (fa_cons (by k_ne) (fa_cons (by k_ne) (fa_cons (by k_ne) (fa_cons (by k_ne) (fa_cons (by k_ne) (fa_cons (by k_ne) (fa_cons (by k_ne) (fa_cons (by k_ne) (fun p hp => (List.mem_map.mp hp).elim fun q h => h.2 ▸ Nat.ne_of_gt ((loG (ds, qs) (by k_mem)).2 q h.1)))))))))))))))
          clear NR
          have mlc : (lc, W.listOf #[.ref g0, .ref g1, .ref g2] kc) ∈ FY := by rw [hFY]; k_mem
          have mg0 : (g0, p0) ∈ FY := by rw [hFY]; k_mem
          have mg1 : (g1, p1) ∈ FY := by rw [hFY]; k_mem
          have mg2 : (g2, p2) ∈ FY := by rw [hFY]; k_mem
          have mnl : (nl', W.listOf nv'.toArray nk') ∈ FY := by rw [hFY]; k_mem
          have mro : (ro, W.listOf (rrs.map fun q => Value.ref q.1).toArray rk') ∈ FY := by rw [hFY]; k_mem
          have mdl : (dl, W.listOf #[.ref u0, .ref u1, .ref u2] kd) ∈ FY := by rw [hFY]; k_mem
          have mu0 : (u0, W.listOf x0.toArray j0) ∈ FY := by rw [hFY]; k_mem
          have mu1 : (u1, W.listOf x1.toArray j1) ∈ FY := by rw [hFY]; k_mem
          have mu2 : (u2, W.listOf x2.toArray j2) ∈ FY := by rw [hFY]; k_mem
          have mPP : (PP, W.listOf ps.toArray ps.length) ∈ FY := by rw [hFY]; k_mem
          have mfl : (fl, W.listOf fv.toArray fk) ∈ FY := by rw [hFY]; k_mem
          have mSt : (sh1.heap.objs.size + 1, oSt) ∈ FY := by rw [hFY]; k_mem
          have mrr : ∀ q ∈ rrs, (q.1, W.listOf q.2.1.toArray q.2.2) ∈ FY := fun q hq => by
            rw [hFY]
            (repeat (first | exact rowsL_mem hq | apply List.mem_cons_of_mem))
          have hdtc : dt ≠ sh1.heap.objs.size + 1 + 1 + 1 ∧ dt ≠ sh1.heap.objs.size + 1 + 1 + 1 + 1 ∧ dt ≠ ds := ⟨by k_ne, by k_ne, by k_ne⟩
          have hdsc : ds ≠ sh1.heap.objs.size + 1 + 1 + 1 ∧ ds ≠ sh1.heap.objs.size + 1 + 1 + 1 + 1 := ⟨by k_ne, by k_ne⟩
          have hQd : sh1.heap.objs.size + 1 + 1 + 1 + 1 ≠ ds := hdsc.2.symm
          have hPd : sh1.heap.objs.size + 1 + 1 + 1 ≠ ds := hdsc.1.symm
          have hPQ : sh1.heap.objs.size + 1 + 1 + 1 ≠ sh1.heap.objs.size + 1 + 1 + 1 + 1 := Nat.ne_of_lt (Nat.lt_succ_self _)
          clear hFY
          refine' x_rangeG (n := 3) (σ := PS2) (ledP (sh1.heap.objs.size + 1 + 1 + 1) (sh1.heap.objs.size + 1 + 1 + 1 + 1) ds FY) (psP PP fl dl ds lc nl' ro) (fun i c _ => PI w GT P0 LV (c4.fdiv 36) ((c4.fdiv 288).fmod 3) (sh1.heap.objs.size + 1 + 1 + 1) (sh1.heap.objs.size + 1 + 1 + 1 + 1) ds i c)
            ⟨o3, o4, dt, qt, [], qs, []⟩ (by rfl) hrgR (by decide) (by decide) FR NS ?hk ?hP ?turn ?done
          case hk => exact fa_cons (by with_unfolding_all rfl) (fa_cons (by with_unfolding_all rfl) (fa_cons (by with_unfolding_all rfl) (fa_cons (by with_unfolding_all rfl) (fa_cons (by with_unfolding_all rfl) (fa_cons (by with_unfolding_all rfl) (fa_cons (by with_unfolding_all rfl) (fa_cons (by with_unfolding_all rfl) (fa_nil))))))))
          case hP => exact { cellP := ⟨_, g3⟩, cellQ := ⟨_, g4⟩, it := iit, ia := .nil, ist := smt, is := iis, sa := .nil, n1 := hdtc.1, n2 := hdtc.2.1, n3 := hdtc.2.2 }
          case turn =>
            rintro ⟨oP, oQ, dt', ot, kt, os, ks⟩ i t m₁ h lo tk I oI hi hc hlt htt hcl ho lF lN
            dsimp only [ledP, psP] at lN lF ho
            refine Exists.elim hc.cellP fun zP hzP => ?_
            refine Exists.elim hc.cellQ fun zQ hzQ => ?_
            have hit := hc.it
            have hat := hc.ia
            have hst := hc.ist
            have his := hc.is
            have has := hc.sa
            have hd1' := hc.n1
            have hd2' := hc.n2
            have hd3' := hc.n3
            clear hc
            clear L0 I0 lE0 lE1 lE2 lE3 lE4 lE5 lE6 loF htkF htkE htkD htkW htkR htkN FA NA is0 if0 ii0 fi0 is1 if1 ii1 fi1 is2 if2 ii2 fi2 ist ift iit fit iss ifs' iis fis loG N16
            have hI3 : I ≠ sh1.heap.objs.size + 1 + 1 + 1 := (ho (_, oP) (by k_mem)).symm
            have hI4 : I ≠ sh1.heap.objs.size + 1 + 1 + 1 + 1 := (ho (_, oQ) (by k_mem)).symm
            have hId : I ≠ ds := (ho (ds, os) (by k_mem)).symm
            clear NS FR hrgR
            refine wpAny_assign_Name ?_
            refine storeX_C lF lN (by rfl) (UpdF.tail hI3 (UpdF.tail hdsc.1 (UpdF.tail hd1' (UpdF.tail hPQ.symm (UpdF.head fun p hp => (hYP p hp).1))))) hzP ?_
            intro h3 oP3 F3 N3 dP3
            (try dsimp only at N3)
            clear lF lN hzP
            have hLi : 0 < LV.getD ((0 : Int) + (i : Int)).toNat 0 ∧ LV.getD ((0 : Int) + (i : Int)).toNat 0 ≤ 1000 := by
              have e : ((0 : Int) + (i : Int)).toNat = i := by omega
              rw [e]; exact ⟨hpos i (by omega), hleL i (by omega)⟩
            have hRr : (rrs.map fun q => Value.ref q.1).length ≤ 64 := by
              rw [List.length_map, hrrs.length]
              refine Nat.le_trans (List.length_filter_le _ _) ?_
              exact expN_length (fun i _ => (WF_in P0 LV (c4.fdiv 36) i).1) 3 (Nat.le_refl 3)
            k_steps
            refine Hold.mk ?_
            (rename Fr _ _ _ _ => F4); (rename News _ _ _ _ => N4)
            refine x_compLE F4 (by with_unfolding_all rfl) (by decide) (by rfl) (by decide) (by rfl) (by rfl) ?_
            k_steps
            refine Hold.mk ?_
            (rename Fr _ _ _ _ => F5); (rename News _ _ _ _ => N5)
            refine ⟨Unit, ro, rrs.map fun q => Value.ref q.1, rk', fun _ => _, fun i' _ ys _ => ys.length = (((forestsS (WF P0 LV (c4.fdiv 36)) ((c4.fdiv 288).fmod 3)).take i').filter fun r => endS r (i : Int) == (c4.fdiv 288).fmod 3).length, (), rfl, by rw [PySem.sizeLine_eq]; omega, fun _ => by k_mem, F5, N5, rfl, ?t2, ?d2⟩
            case t2 =>
              intro u i' v ys I2 oI2 C2 oC2 D2 mC2 h6 lo6 tk6 E6 hv hInv hl6 hcI2 hoC2 hmC2 F6 N6 hoff6 hne6
              obtain ⟨q, hq, rfl⟩ : ∃ q, rrs[i']? = some q ∧ v = .ref q.1 := by
                rw [List.getElem?_map] at hv
                cases e : rrs[i']? with
                | none => rw [e] at hv; cases hv
                | some q => rw [e] at hv; exact ⟨q, rfl, (Option.some.inj hv).symm⟩
              obtain ⟨r, hr, hqr⟩ := hrrs.get hq
              have hqm := mrr q (List.mem_of_getElem? hq)
              have hrin : InR r := inR_of (expN_in (root := (c4.fdiv 288).fmod 3) (fm_lo _ (by decide)) (by have := fm_hi (c4.fdiv 288) (n := 3) (by decide); omega) (fun i _ => (WF_in P0 LV (c4.fdiv 36) i).2) 3 (Nat.le_refl 3) r (List.mem_filter.mp (List.mem_of_getElem? hr)).1)
              clear F5 N5
              refine ktests1 ?_
              k_steps
              refine Hold.mk ?_
              k_dflt (refine wpAny_tok ?_)
              with_unfolding_all refine (end_c w _ _ _ _ _ q.1 q.2.2 q.2.1 r (0 + (i : Int)) _ ?_ hqr hrin (by omega) (by omega)) _ _ _ _ _ _ _ _ _ _ _ _ _ _ _ _ _ (by assumption) (by assumption) (by assumption) (by assumption) (by assumption) rfl (by first | ((try dsimp only); omega) | with_unfolding_all decide) (by first | ((try dsimp only); omega) | with_unfolding_all decide) ?_
              (try dsimp only)
              · k_mem
              k_dflt (intro h9 tk9 t9 F9 N9 htk9)
              k_steps
              · rename_i hb
                (rename Fr _ _ _ _ => F10); (rename News _ _ _ _ => N10)
                refine Hold.mk ?_
                refine KOut.intro () F10 N10 (fun p hp => hp) hoff6 ?_
                have hb' : (endS r (i : Int) == (c4.fdiv 288).fmod 3) = true := by rw [beq_iff_eq]; simpa using hb
                rw [List.take_add_one, hr, List.filter_append, List.length_append, List.length_append, hInv]
                simp [hb']
              · rename_i hb
                (rename Fr _ _ _ _ => F10); (rename News _ _ _ _ => N10)
                refine Hold.mk ?_
                refine KOut.intro () F10 N10 (fun p hp => hp) hoff6 ?_
                have hb' : (endS r (i : Int) == (c4.fdiv 288).fmod 3) = false := by rw [beq_eq_false_iff_ne]; simpa using hb
                rw [List.take_add_one, hr, List.filter_append, List.length_append, hInv]
                simp [hb']
            case d2 =>
              intro D2 u ys h6 tk6 hInv F6 N6 hneD hltD
              clear F5 N5
              (try dsimp only at N6 hneD hltD)
              have hyc : ys.length = cntS (WF P0 LV (c4.fdiv 36)) ((c4.fdiv 288).fmod 3) i := by
                rw [hInv, List.length_map, hrrs.length, List.take_length]; rfl
              have hy64 : ys.length ≤ 64 := by
                rw [hInv]
                refine Nat.le_trans (List.length_filter_le _ _) ?_
                rw [List.length_take]; rw [List.length_map] at hRr; rw [← hrrs.length]; omega
              have N7 : News sh1.heap sh1.heap.objs.size h6 ((D2, W.listOf ys.toArray ys.length) :: (I, oI) :: (ds, os) :: (dt', ot) :: (sh1.heap.objs.size + 1 + 1 + 1 + 1, oQ) :: (sh1.heap.objs.size + 1 + 1 + 1, oP3) :: FY) := N6
              clear N6
              k_steps
              refine Hold.mk ?_
              (rename Fr _ _ _ _ => F8)
              have hQF : ∀ p ∈ (sh1.heap.objs.size + 1 + 1 + 1, oP3) :: FY, p.1 ≠ sh1.heap.objs.size + 1 + 1 + 1 + 1 := fun p hp => by
                rcases List.mem_cons.mp hp with rfl | hp
                · exact hPQ
                · exact (hYP p hp).2
              refine storeX_C F8 (news_tail N7) (by rfl) (UpdF.tail hI4 (UpdF.tail hdsc.2 (UpdF.tail hd2' (UpdF.head hQF)))) hzQ ?_
              intro h7 oQ3 F9 N9 dQ3
              (try dsimp only at N9)
              clear N7 F8 hQF hzQ hneD hltD
              have hei : ((0 : Int) + (i : Int)).toNat = i := by omega
              have hsel1 : (#[Value.ref g0, Value.ref g1, Value.ref g2] : Array Value).toList[((0 : Int) + (i : Int)).toNat]? = some (.ref (sel3 g0 g1 g2 i)) := by
                rw [hei]; obtain rfl | rfl | rfl : i = 0 ∨ i = 1 ∨ i = 2 := by omega
                all_goals rfl
              have hsel2 : (#[Value.ref u0, Value.ref u1, Value.ref u2] : Array Value).toList[((0 : Int) + (i : Int)).toNat]? = some (.ref (sel3 u0 u1 u2 i)) := by
                rw [hei]; obtain rfl | rfl | rfl : i = 0 ∨ i = 1 ∨ i = 2 := by omega
                all_goals rfl
              have msg : (sel3 g0 g1 g2 i, sel3 p0 p1 p2 i) ∈ FY := by
                obtain rfl | rfl | rfl : i = 0 ∨ i = 1 ∨ i = 2 := by omega
                · exact mg0
                · exact mg1
                · exact mg2
              have msu : (sel3 u0 u1 u2 i, W.listOf (sel3 x0 x1 x2 i).toArray (sel3 j0 j1 j2 i)) ∈ FY := by
                obtain rfl | rfl | rfl : i = 0 ∨ i = 1 ∨ i = 2 := by omega
                · exact mu0
                · exact mu1
                · exact mu2
              have hsd : IDict w (sel3 p0 p1 p2 i) (sel3 w0 w1 w2 i) := by
                obtain rfl | rfl | rfl : i = 0 ∨ i = 1 ∨ i = 2 := by omega
                · exact hd0
                · exact hd1
                · exact hd2
              have hsa : DAre (sel3 w0 w1 w2 i) (dOf GT i) := by
                obtain rfl | rfl | rfl : i = 0 ∨ i = 1 ∨ i = 2 := by omega
                · exact ha0
                · exact ha1
                · exact ha2
              have hss : (sel3 g0 g1 g2 i == sysModules) = false := by
                obtain rfl | rfl | rfl : i = 0 ∨ i = 1 ∨ i = 2 := by omega
                · exact hs0
                · exact hs1
                · exact hs2
              have hsx : IntsAre (sel3 x0 x1 x2 i) (WF P0 LV (c4.fdiv 36) i) := by
                obtain rfl | rfl | rfl : i = 0 ∨ i = 1 ∨ i = 2 := by omega
                · exact hx0.are
                · exact hx1.are
                · exact hx2.are
              have hsxl : (sel3 x0 x1 x2 i).length ≤ 4 := by rw [hsx.length]; exact (WF_in P0 LV (c4.fdiv 36) i).1
              have hfewi : (dOf GT i).length ≤ 4 := by rw [hGT]; exact PLw.few i hi
              have htoti : (totS GT i).length ≤ 100 := by
                have f0 : (dOf GT 0).length ≤ 4 := by rw [hGT]; exact PLw.few 0 (by decide)
                have f1 : (dOf GT 1).length ≤ 4 := by rw [hGT]; exact PLw.few 1 (by decide)
                have a1 := addS_length [] (dOf GT 0)
                have a2 := addS_length (addS [] (dOf GT 0)) (dOf GT 1)
                obtain rfl | rfl | rfl : i = 0 ∨ i = 1 ∨ i = 2 := by omega
                · exact Nat.zero_le _
                · show (addS [] (dOf GT 0)).length ≤ 100
                  simp only [List.length_nil] at a1; omega
                · show (addS (addS [] (dOf GT 0)) (dOf GT 1)).length ≤ 100
                  simp only [List.length_nil] at a1; omega
              have hcount : sumS (dOf GT i) = LV.getD ((0 : Int) + (i : Int)).toNat 0 * (ys.length : Int) * ((sel3 x0 x1 x2 i).length : Int) := by
                rw [hei, hyc, hsx.length, hGT]; exact PLw.count i hi
              k_steps
              refine Hold.mk ?_
              k_dflt (refine wpAny_tok ?_)
              with_unfolding_all refine (add_c w _ _ _ _ _ dt' (sel3 g0 g1 g2 i) ot (sel3 p0 p1 p2 i) kt (sel3 w0 w1 w2 i) (totS GT i) (dOf GT i) ?_ hit hat hst ?_ hsd hsa hss htoti (by omega)) _ _ _ _ _ _ _ _ _ _ _ _ _ _ _ _ _ (by assumption) (by assumption) (by assumption) (by assumption) (by assumption) rfl (by first | ((try dsimp only); omega) | with_unfolding_all decide) (by first | ((try dsimp only); omega) | with_unfolding_all decide) ?_
              (try dsimp only)
              · k_mem
              · k_mem
              k_dflt (intro h10 tk10 nd nod nkv F10 N10 lo10 hnd hna hns htk10)
              have hndd : nd ≠ ds := Nat.ne_of_gt (lo10 (ds, os) (by k_mem))
              have hndP : nd ≠ sh1.heap.objs.size + 1 + 1 + 1 := Nat.ne_of_gt (lo10 (_, oP3) (by k_mem))
              have hndQ : nd ≠ sh1.heap.objs.size + 1 + 1 + 1 + 1 := Nat.ne_of_gt (lo10 (_, oQ3) (by k_mem))
              have hndI : nd ≠ I := Nat.ne_of_gt (lo10 (I, oI) (by k_mem))
              k_steps
              refine Hold.mk ?_
              k_dflt (refine wpAny_tok ?_)
              with_unfolding_all refine (count_c w _ _ _ _ _ (sel3 g0 g1 g2 i) (sel3 p0 p1 p2 i) (sel3 w0 w1 w2 i) (dOf GT i) ?_ hsd hsa hss) _ _ _ _ _ _ _ _ _ _ _ _ _ _ _ _ _ (by assumption) (by assumption) (by assumption) (by assumption) (by assumption) rfl (by first | ((try dsimp only); omega) | with_unfolding_all decide) (by first | ((try dsimp only); omega) | with_unfolding_all decide) ?_
              (try dsimp only)
              · k_mem
              k_dflt (intro h11 tk11 t11 F11 N11 htk11)
              k_steps
              rename_i tz0 tkz0 hcnt0
              refine Hold.mk ?_
              (rename Fr _ _ _ _ => F12); (rename News _ _ _ _ => N12)
              obtain ⟨y, hy⟩ : ∃ y, y = LV.getD ((0 : Int) + (i : Int)).toNat 0 * (ys.length : Int) := ⟨_, rfl⟩
              obtain ⟨tq, dQ4⟩ : ∃ tq, oQ3.data = .cell (some (.int y tq)) := ⟨_, by rw [hy]; exact dQ3⟩
              clear dQ3 hcnt0
              rw [← hy] at hcount
              clear hgood
              refine x_dictC F12 (Top.nolimit T0) (by with_unfolding_all rfl) (by decide) (by rfl) (by decide +kernel) (by decide) (by rfl) (by rfl) ?_
              k_steps
              refine Hold.mk ?_
              (rename Fr _ _ _ _ => F13); (rename News _ _ _ _ => N13)
              refine ⟨sel3 u0 u1 u2 i, sel3 x0 x1 x2 i, WF P0 LV (c4.fdiv 36) i, sel3 j0 j1 j2 i, _, y, tq, decide (0 < y), rfl, hsx, Nat.le_trans (WF_in P0 LV (c4.fdiv 36) i).1 (by decide), by k_mem, F13, N13, ?tst, ?val, ?dn⟩
              case tst =>
                intro C h12 tk12 E12 F14 N14
                clear F13 N13
                k_steps
                exact Hold.mk ⟨rfl, _, rfl⟩
              case val =>
                intro C h12 tk12 E12 F14 N14
                clear F13 N13
                k_steps
                exact Hold.mk ⟨rfl, _, rfl⟩
              case dn =>
                intro D4 o4' kv4 h12 tk12 hd4 ha4 hs4 F14 N14 lo14
                clear F13 N13
                have hyp : passS P0 LV (c4.fdiv 36) ((c4.fdiv 288).fmod 3) i = y := by rw [hy, hei, hyc]; rfl
                have hemk : (if decide (0 < y) = true then (WF P0 LV (c4.fdiv 36) i).foldl (fun a k => putS a k y) [] else []) = mkD (WF P0 LV (c4.fdiv 36) i) (passS P0 LV (c4.fdiv 36) ((c4.fdiv 288).fmod 3) i) := by
                  rw [hyp]; unfold mkD
                  by_cases h0 : 0 < y
                  · simp only [h0, decide_true, if_true]
                  · simp only [h0, decide_false, Bool.false_eq_true, if_false]
                rw [hemk] at ha4
                have hsame : eqS (dOf GT i) (mkD (WF P0 LV (c4.fdiv 36) i) (passS P0 LV (c4.fdiv 36) ((c4.fdiv 288).fmod 3) i)) = true := by rw [hGT]; exact PLw.same i hi
                k_dflt (refine ne_dictsT N14 (by k_mem) (by k_mem) hsd hd4 hsa ha4 hss hs4 (Nat.le_of_ble_eq_true rfl) hsame ?_)
                k_steps
                refine Hold.mk ?_
                (rename Fr _ _ _ _ => F15); (rename News _ _ _ _ => N15)
                have hrest : ∀ p ∈ (nd, nod) :: (I, oI) :: (sh1.heap.objs.size + 1 + 1 + 1 + 1, oQ3) :: (sh1.heap.objs.size + 1 + 1 + 1, oP3) :: FY, p.1 ≠ ds := fa_cons hndd (fa_cons hId (fa_cons hQd (fa_cons hPd hYd)))
                obtain ⟨S0, hS0⟩ : ∃ S0, S0 = smS P0 LV (c4.fdiv 36) ((c4.fdiv 288).fmod 3) i := ⟨_, rfl⟩
                have hS0l : S0.length ≤ 8 := by rw [hS0]; have := smS_length P0 LV (c4.fdiv 36) ((c4.fdiv 288).fmod 3) i; omega
                rw [← hS0] at has
                obtain ⟨WW, hWW⟩ : ∃ WW, WW = WF P0 LV (c4.fdiv 36) i := ⟨_, rfl⟩
                have hWl : WW.length ≤ 4 := by rw [hWW]; exact (WF_in P0 LV (c4.fdiv 36) i).1
                rw [← hWW] at hsx
                refine' x_listT (σ := Obj × List (Int × Value)) (l := sel3 u0 u1 u2 i) (vs := sel3 x0 x1 x2 i) (k := sel3 j0 j1 j2 i) (fun c => (ds, c.1) :: (nd, nod) :: (I, oI) :: (sh1.heap.objs.size + 1 + 1 + 1 + 1, oQ3) :: (sh1.heap.objs.size + 1 + 1 + 1, oP3) :: FY)
                  (fun c => [("plain", .ref PP), ("first", .ref fl), ("due", .ref dl), ("total", .ref nd), ("sums", .ref ds), ("calls", .ref lc), ("names", .ref nl'), ("roots", .ref ro)])
                  (fun i' c tk => IDict w c.1 c.2 ∧ DAre c.2 (if 0 < y then (WW.take i').foldl (smStep y) S0 else S0))
                  (os, ks) (by rfl) ?hl6 rfl rfl F15 (news_sub N15 ?hsub) ?hk6 ?hP6 ?t6 ?d6
                case hl6 => intro c; k_mem
                case hsub => exact fa_cons (by k_mem) (fa_cons (by k_mem) (fa_cons (by k_mem) (fa_cons (by k_mem) (fa_cons (by k_mem) (fun _ hp => md7 hp)))))
                case hk6 => exact fa_cons (by with_unfolding_all rfl) (fa_cons (by with_unfolding_all rfl) (fa_cons (by with_unfolding_all rfl) (fa_cons (by with_unfolding_all rfl) (fa_cons (by with_unfolding_all rfl) (fa_cons (by with_unfolding_all rfl) (fa_cons (by with_unfolding_all rfl) (fa_one (by with_unfolding_all rfl))))))))
                case hP6 => exact ⟨his, by rw [List.take_zero]; split <;> exact has⟩
                case t6 =>
                  rintro ⟨oc, kc⟩ i' v m₁' h' lo' tk' I2 oI2 hi' ⟨hc1, hc2⟩ hle' hcI2 ho2 lF2 lN2
                  dsimp only at hc1 hc2 lN2 ho2 lF2
                  obtain ⟨c, t', hc, rfl⟩ := intsAre_at hsx hi'
                  have hI2d : I2 ≠ ds := (ho2 (ds, oc) (List.mem_cons_self ..)).symm
                  have hkc : kc.length ≤ sizeLine := by
                    rw [sizeLine_eq, hc2.length]
                    have h2 := smFold_length y (WW.take i') S0
                    rw [List.length_take] at h2
                    split <;> omega
                  clear F15 N15
                  k_steps
                  · rename_i hfin tkF htkF
                    (rename Fr _ _ _ _ => F20); (rename News _ _ _ _ => N20)
                    have h0 : 0 < y := by omega
                    refine TEndT.intro ((_, _) : Obj × List (Int × Value)) F20 N20 (fa_one mm0) (fun _ hp => md1 hp) (off2 (fa_cons (.inl hI2d.symm) (fun p hp => .inl (ho2 p (md1 hp))))) (fa_cons (by with_unfolding_all rfl) (fa_cons (by with_unfolding_all rfl) (fa_cons (by with_unfolding_all rfl) (fa_cons (by with_unfolding_all rfl) (fa_cons (by with_unfolding_all rfl) (fa_cons (by with_unfolding_all rfl) (fa_cons (by with_unfolding_all rfl) (fa_cons (by with_unfolding_all rfl) (fa_nil))))))))) ⟨hfin, ?_⟩
                    · rw [if_pos h0] at hc2 ⊢
                      dsimp only
                      rw [if_pos h0, List.take_add_one, hc, Option.toList_some, List.foldl_append]
                      exact hc2.stored _ _ _
                  · rename_i hle0 tkF htkF
                    (rename Fr _ _ _ _ => F20); (rename News _ _ _ _ => N20)
                    have h0 : ¬ 0 < y := by omega
                    refine TEndT.intro ((_, _) : Obj × List (Int × Value)) F20 N20 (fa_one mm0) (fun _ hp => md1 hp) (off2 (fa_cons (.inl hI2d.symm) (fun p hp => .inl (ho2 p (md1 hp))))) (fa_cons (by with_unfolding_all rfl) (fa_cons (by with_unfolding_all rfl) (fa_cons (by with_unfolding_all rfl) (fa_cons (by with_unfolding_all rfl) (fa_cons (by with_unfolding_all rfl) (fa_cons (by with_unfolding_all rfl) (fa_cons (by with_unfolding_all rfl) (fa_cons (by with_unfolding_all rfl) (fa_nil))))))))) ⟨hc1, ?_⟩
                    · rw [if_neg h0] at hc2 ⊢
                      exact hc2
                case d6 =>
                  rintro ⟨os', ks'⟩ m₁' h' lo' tk' ⟨hc1, hc2⟩ hle' lF2 lN2
                  dsimp only at hc1 hc2 lN2 lF2
                  clear F15 N15
                  k_steps
                  (rename Fr _ _ _ _ => F20); (rename News _ _ _ _ => N20)
                  refine TEndT.intro (⟨oP3, oQ3, nd, nod, nkv, os', ks'⟩ : PS2) F20 N20 (fa_one (by k_mem)) (fa_cons (by k_mem) (fa_cons (by k_mem) (fun p hp => md3 hp)))
                    (off2 (fa_cons (.inl hId.symm) (fa_cons (.inl hndI) (fa_cons (.inl hI4.symm) (fa_cons (.inl hI3.symm) (fun p hp => .inl (ho p (md4 hp))))))))
                    (fa_cons (by with_unfolding_all rfl) (fa_cons (by with_unfolding_all rfl) (fa_cons (by with_unfolding_all rfl) (fa_cons (by with_unfolding_all rfl) (fa_cons (by with_unfolding_all rfl) (fa_cons (by with_unfolding_all rfl) (fa_cons (by with_unfolding_all rfl) (fa_cons (by with_unfolding_all rfl) (fa_nil)))))))))
                    { cellP := ⟨_, dP3⟩, cellQ := ⟨_, dQ4⟩, it := hnd, ia := hna, ist := hns, is := hc1, sa := ?_, n1 := hndP, n2 := hndQ, n3 := hndd }
                  rw [hsx.length, List.take_length] at hc2
                  rw [smS, hyp, ← hS0, ← hWW]
                  exact hc2
          case done =>
            rintro ⟨oP, oQ, dt', ot, kt, os, ks⟩ m₁ h lo tk hc hle lF2 lN2
            dsimp only [ledP, psP] at lN2 lF2
            have hit := hc.it
            have hat := hc.ia
            have hst := hc.ist
            have his := hc.is
            have has := hc.sa
            clear hc
            clear L0 I0 lE0 lE1 lE2 lE3 lE4 lE5 lE6 loF htkF htkE htkD htkW htkR htkN FA NA is0 if0 ii0 fi0 is1 if1 ii1 fi1 is2 if2 ii2 fi2 ist ift iit fit iss ifs' iis fis loG lF N16
            have htotal : sumS (totS GT 3) = sumS (smS P0 LV (c4.fdiv 36) ((c4.fdiv 288).fmod 3) 3) := by rw [hGT]; exact PLw.total
            have htotEq : eqS (totS GT 3) (smS P0 LV (c4.fdiv 36) ((c4.fdiv 288).fmod 3) 3) = true := by rw [hGT]; exact PLw.totEq
            have hback : GT.ps = P0 := by rw [hGT]; exact PLw.back
            rw [hback] at hnv'
            generalize smS P0 LV (c4.fdiv 36) ((c4.fdiv 288).fmod 3) 3 = SS at has htotal htotEq
            generalize totS GT 3 = TT at hat htotal htotEq
            k_steps
            refine Hold.mk ?_
            k_dflt (refine wpAny_tok ?_)
            with_unfolding_all refine (count_c w _ _ _ _ _ dt' ot kt TT ?_ hit hat hst) _ _ _ _ _ _ _ _ _ _ _ _ _ _ _ _ _ (by assumption) (by assumption) (by assumption) (by assumption) (by assumption) rfl (by first | ((try dsimp only); omega) | with_unfolding_all decide) (by first | ((try dsimp only); omega) | with_unfolding_all decide) ?_
            (try dsimp only)
            · k_mem
            k_dflt (intro h11 tk11 t11 F11 N11 htk11)
            k_steps
            refine Hold.mk ?_
            k_dflt (refine wpAny_tok ?_)
            with_unfolding_all refine (namesT_c w _ _ _ _ _ fl fk fv P0 ?_ hfv TF.inR) _ _ _ _ _ _ _ _ _ _ _ _ _ _ _ _ _ (by assumption) (by assumption) (by assumption) (by assumption) (by assumption) rfl (by first | ((try dsimp only); omega) | with_unfolding_all decide) (by first | ((try dsimp only); omega) | with_unfolding_all decide) ?_
            (try dsimp only)
            · k_mem
            k_dflt (intro h12 tk12 el ev ek' τe F12 N12 lo12 hev htk12)
            (try dsimp only at hev)
            k_steps
            refine Hold.mk ?_
            (rename Fr _ _ _ _ => F13); (rename News _ _ _ _ => N13)
            k_dflt (refine eq_names N13 (by k_mem) (by k_mem) hnv'.are hev.are hP0 (Nat.le_of_ble_eq_true rfl) ?_)
            k_steps
            obtain ⟨mG, hG1, hG2⟩ := ground_go
            refine Hold.mk ?_
            k_dflt (refine wpAny_tok ?_)
            with_unfolding_all refine (hdn_c w _ _ _ _ _ (Str.ofString ".7.x\n") _ mG true ground_size hG1 (.inl ⟨hG2, rfl⟩)) _ _ _ _ _ _ _ _ _ _ _ _ _ _ _ _ _ (by assumption) (by assumption) (by assumption) (by assumption) (by assumption) rfl (by first | ((try dsimp only); omega) | with_unfolding_all decide) (by first | ((try dsimp only); omega) | with_unfolding_all decide) ?_
            (try dsimp only)
            k_dflt (intro h14 tk14 F14 N14)
            k_steps)
end
end Y33
theorem PySem.Challenge.cw_yf0033_01_holds : PySem.Challenge.rw_yf0033_01.Holds := by
  exact Y33.law_holds
