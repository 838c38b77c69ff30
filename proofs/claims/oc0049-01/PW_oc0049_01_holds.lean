import PyProof.Rows.All
import Wide.All
import OpenK.AllK
import Wide.FinOn
import Lean
import PySem.Challenge.RW_oc0049_01
set_option Elab.async false

/-! ## B1 -/
section
open PySem PySem.W PyProof.Rows PySem.Calls PySem.Spec
set_option maxRecDepth 100000
namespace Mine

section
variable {prog : Program} {w : World} {A : Around} {E : Value → Shared → Prop} {s : Shared} {env : Env} {h₀ : Heap} {target : Expr} {body orelse : List Stmt} {Q : Flow → Shared → Prop}

/-- the loop that is about to run over the iterator `it` -/
def LoopAt (prog : Program) (w : World) (A : Around) (env : Env) (target : Expr) (body orelse : List Stmt) (Q : Flow → Shared → Prop) (E : Value → Shared → Prop) (it : Value) (s₂ : Shared) : Prop :=
  codeAny (model prog w) A (.forLoop target it body orelse env) (fun r s' => match r with | .ok f => Q f s' | .error e => cameBackBy (model prog w) A env E e s') s₂

theorem For_own {iter : Expr} {pos : Pos}
    (h : wpAny (model prog w) A (eval iter env) (fun xv s₁ => wpAny (model prog w) A (pyIter xv) (fun it s₂ => LoopAt prog w A env target body orelse Q E it s₂) E s₁) E s)
    (hs : ∀ x, foldedSetIterable iter env x = pure x := by intro _; rfl) :
    wpAny (model prog w) A (exec (.For target iter body orelse pos) env) Q E s :=
  wpAny_For h hs

/-- what a turn hands on: the frame, the iterator's own objects as they were, the rest by J -/
def TurnEnd (h₀ : Heap) (L : Addr) (its : List (Addr × Obj)) (J : (Str → Option Value) → List (Addr × Obj) → Prop) (s s₃ : Shared) : Prop :=
  ∃ h' tk m' news', s₃ = { s with heap := h', toks := tk } ∧ Fr h₀ L h' m' ∧ News h₀ L h' (its ++ news') ∧ J m' news'
def TurnPost (h₀ : Heap) (L : Addr) (its : List (Addr × Obj)) (J : (Str → Option Value) → List (Addr × Obj) → Prop) (Q : Flow → Shared → Prop) (s : Shared) (f : Flow) (s₃ : Shared) : Prop :=
  match f with
  | .ret v => Q (.ret v) s₃
  | .brk => Q .next s₃
  | _ => TurnEnd h₀ L its J s s₃

theorem loopE {I : Addr} {fp ws : List Addr} {n : Nat} {P Md : Nat → Value → Heap → Prop} {St : Nat → Heap → Prop} {m : Str → Option Value} {news keep : List (Addr × Obj)}
    (W : KTurns prog w A target I fp ws n P Md St) (hL : env.locals ∉ fp) (hws : ∀ b ∈ ws, h₀.get? b = none)
    (hfp : ∀ b ∈ fp, b ∈ ws ∨ (∃ o, h₀.get? b = some o) ∨ ∃ o, (b, o) ∈ keep)
    (hobj : ∀ i h, St i h → ∃ its : List (Addr × Obj), its.map (·.1) = ws ∧ ∀ p ∈ its, h.get? p.1 = some p.2)
    (J : Nat → (Str → Option Value) → List (Addr × Obj) → Prop)
    (hJ : ∀ i m₁ news₁, J i m₁ news₁ → (∀ p ∈ keep, p ∈ news₁) ∧ ∀ p ∈ news₁, p.1 ∉ ws)
    (hst : St 0 s.heap) (F : Fr h₀ env.locals s.heap m) (N : News h₀ env.locals s.heap news) (h0 : J 0 m news)
    (step : ∀ i v m₁ news₁ h₁ tk₁ its, i < n → P i v h₁ → J i m₁ news₁ → its.map (·.1) = ws → Fr h₀ env.locals h₁ m₁ → News h₀ env.locals h₁ (its ++ news₁) →
      wpAny (model prog w) A (assign target env v) (fun _ s₂ => wpAny (model prog w) A (execs body env) (TurnPost h₀ env.locals its (J (i + 1)) Q s) E s₂) E { s with heap := h₁, toks := tk₁ })
    (hend : ∀ h' tk m' news', Fr h₀ env.locals h' m' → News h₀ env.locals h' news' → J n m' news' → wpAny (model prog w) A (execs orelse env) Q E { s with heap := h', toks := tk })
    (hE : PassesOwn (model prog w) A env E) : LoopAt prog w A env target body orelse Q E (.ref I) s := by
  unfold LoopAt
  have hLw : env.locals ∉ ws := fun h => hL (W.sub _ h)
  have old : ∀ b o, h₀.get? b = some o → b ∉ ws := fun b o e hb => by rw [hws b hb] at e; cases e
  refine codeAny_forLoop_any
    (fun k s' => ∃ h' tk m' news' i, s' = { s with heap := h', toks := tk } ∧ St i h' ∧ Fr h₀ env.locals h' m' ∧ News h₀ env.locals h' news' ∧ J i m' news' ∧ i ≤ n ∧ k = n + 1 - i) ?_ (n + 1)
    ⟨s.heap, s.toks, m, news, 0, rfl, hst, F, N, h0, Nat.zero_le _, rfl⟩
  rintro k s' ⟨h', tk, m', news', i, rfl, hst', F', N', hj, hi, rfl⟩
  have hoff := (hJ i m' news' hj).2
  have next : ∀ h₁ : Heap, (∀ b o, b ∉ ws → h'.get? b = some o → h₁.get? b = some o) → Fr h₀ env.locals h₁ m' ∧ News h₀ env.locals h₁ news' := fun h₁ hk₁ =>
    ⟨⟨F'.ns.at' fun o e => hk₁ _ o hLw e, fun b o e => hk₁ b o (old b o e) (F'.keep b o e), F'.above⟩, fun p hp => ⟨hk₁ _ _ (hoff p hp) (N' p hp).1, (N' p hp).2⟩⟩
  by_cases hlt : i < n
  · refine W.item i _ _ _ hlt hst' fun v h₁ tk₁ hMd hk₁ => ?_
    refine wpAny_mono (W.go i v _ _ E hMd fun h₂ hP hst₂ hk₂ => ?_) (fun _ _ e => e) hE
    obtain ⟨F₂, N₂⟩ := next h₂ fun b o hb x => hk₂ b o hb (hk₁ b o hb x)
    obtain ⟨its, hmap, hits⟩ := hobj (i + 1) h₂ hst₂
    have Nits : News h₀ env.locals h₂ its := fun p hp => by
      have hm : p.1 ∈ ws := by rw [← hmap]; exact List.mem_map.mpr ⟨p, hp, rfl⟩
      exact ⟨hits p hp, fun e => hLw (e ▸ hm), hws _ hm⟩
    have Nall : News h₀ env.locals h₂ (its ++ news') := fun p hp => (List.mem_append.mp hp).elim (Nits p) (N₂ p)
    refine wpAny_mono (step i v m' news' h₂ tk₁ its hlt hP hj hmap F₂ Nall) (fun _ s₂ h₂' => wpAny_mono h₂' (fun f s₃ hpost => ?_) hE) hE
    have fin : TurnEnd h₀ env.locals its (J (i + 1)) s s₃ → ∃ k', k' < n + 1 - i ∧ ∃ h' tk m' news' i, s₃ = { s with heap := h', toks := tk } ∧ St i h' ∧ Fr h₀ env.locals h' m' ∧ News h₀ env.locals h' news' ∧ J i m' news' ∧ i ≤ n ∧ k' = n + 1 - i := by
      rintro ⟨h₃, tk₃, m₃, news₃, rfl, F₃, N₃, j₃⟩
      refine ⟨n + 1 - (i + 1), by omega, h₃, tk₃, m₃, news₃, i + 1, rfl, ?_, F₃, fun p hp => N₃ p (List.mem_append_right _ hp), j₃, hlt, rfl⟩
      refine W.frame _ _ _ hst₂ fun b hb o e => ?_
      rcases hfp b hb with hb | ⟨o₀, hb⟩ | ⟨o₀, hb⟩
      · rw [← hmap] at hb
        obtain ⟨q, hq, rfl⟩ := List.mem_map.mp hb
        have e1 := hits q hq
        rw [e] at e1
        have e2 := Option.some.inj e1
        exact e2 ▸ (N₃ q (List.mem_append_left _ hq)).1
      · have e1 := F₂.keep b o₀ hb
        rw [e] at e1
        have e2 := Option.some.inj e1
        exact e2 ▸ F₃.keep b o₀ hb
      · have q1 := (hJ i m' news' hj).1 _ hb
        have e1 : h₂.get? b = some o₀ := (N₂ _ q1).1
        rw [e] at e1
        have e2 := Option.some.inj e1
        have q2 := (hJ (i + 1) m₃ news₃ j₃).1 _ hb
        exact e2 ▸ (N₃ _ (List.mem_append_right _ q2)).1
    cases f with
    | ret v => exact hpost
    | brk => exact hpost
    | next => exact fin hpost
    | cont => exact fin hpost
  · have hin : i = n := by omega
    subst hin
    refine W.done _ _ _ hst' fun h₁ tk₁ hk₁ => ?_
    obtain ⟨F₁, N₁⟩ := next h₁ hk₁
    exact wpAny_mono (hend h₁ tk₁ m' news' F₁ N₁ hj) (fun _ _ x => x) hE

end
end Mine
end

/-! ## N1 -/
section
open PySem PySem.W PyProof.Rows PySem.Calls PySem.Spec
open PySem.Sem (wp)
set_option maxRecDepth 100000
namespace Mine

/-- codes that may hold a bytearray's buffer -/
def badIds : List String := Builtin.Bytes.decodersThatHold ++ ["bytearray.__contains__", "bytearray.__mod__", "bytearray.__rmod__", "_struct.pack_into.held", "bytearray.find.held"]
def bad : Code → Bool
  | .builtin id _ => badIds.contains id
  | _ => false
def Clean (l : List (Code × Pos)) : Prop := ∀ x ∈ l, bad x.1 = false
theorem Clean.cons {c : Code} {p : Pos} {l : List (Code × Pos)} (hc : bad c = false) (h : Clean l) : Clean ((c, p) :: l) := fun x hx => by
  rcases List.mem_cons.mp hx with rfl | hx
  · exact hc
  · exact h x hx

/-- wpAny, over the stacks that hold no buffer -/
def wpN {α : Type} (M : Model) (A : Around) (t : Sem α) (Q : α → Shared → Prop) (E : Value → Shared → Prop) (s : Shared) : Prop :=
  ∀ Γ p, Γ.In A → bad Γ.code = false → Clean Γ.below → wp M Γ t (fun a _ s' => Q a s') (fun e _ s' => E e s') p s
def codeN (M : Model) (A : Around) (c : Code) (R : Result → Shared → Prop) (s : Shared) : Prop :=
  ∀ Γ p, Γ.code = c → Γ.Below A → Clean Γ.below → wpCode M Γ R p s

section
variable {α β : Type} {M : Model} {A : Around} {E : Value → Shared → Prop} {s : Shared}
theorem wpN_of_any {t : Sem α} {Q : α → Shared → Prop} (h : wpAny M A t Q E s) : wpN M A t Q E s := fun Γ p hΓ _ _ => h Γ p hΓ
theorem codeN_of_any {c : Code} {R : Result → Shared → Prop} (h : codeAny M A c R s) : codeN M A c R s := fun Γ p hc hΓ _ => h Γ p hc hΓ
theorem wpN_mono {t : Sem α} {Q Q' : α → Shared → Prop} {E' : Value → Shared → Prop} (h : wpN M A t Q E s)
    (hQ : ∀ a s, Q a s → Q' a s) (hE : ∀ e s, E e s → E' e s) : wpN M A t Q' E' s :=
  fun Γ p hΓ hb hc => Sem.wp_mono M Γ t (fun a _ s => hQ a s) (fun e _ s => hE e s) p s (h Γ p hΓ hb hc)
theorem codeN_mono {c : Code} {R R' : Result → Shared → Prop} (h : codeN M A c R s) (hR : ∀ r s, R r s → R' r s) : codeN M A c R' s :=
  fun Γ p hc hΓ hb => wpCode_mono hR (h Γ p hc hΓ hb)
theorem wpN_bind {m : Sem α} {f : α → Sem β} {Q : β → Shared → Prop} (h : wpN M A m (fun a s' => wpN M A (f a) Q E s') E s) :
    wpN M A (m >>= f) Q E s := fun Γ p hΓ hb hc => by
  rw [Sem.wp_bind']
  exact Sem.wp_mono M Γ m (fun a p' s' h' => h' Γ p' hΓ hb hc) (fun _ _ _ h' => h') p s (h Γ p hΓ hb hc)
/-- a part that asks nothing of the stack, ahead of one that does -/
theorem wpN_bindA {m : Sem α} {f : α → Sem β} {Q : β → Shared → Prop} (h : wpAny M A m (fun a s' => wpN M A (f a) Q E s') E s) :
    wpN M A (m >>= f) Q E s := wpN_bind (wpN_of_any h)
theorem wpN_onRaise {m : Sem α} {k : Value → Sem Unit} {Q : α → Shared → Prop}
    (h : wpN M A m Q (fun e s' => wpAny M A (k e) (fun _ s'' => E e s'') E s') s) : wpN M A (m.onRaise k) Q E s := fun Γ p hΓ hb hc => by
  rw [Sem.wp_onRaise]
  exact Sem.wp_mono M Γ m (fun _ _ _ h' => h') (fun e p' s' h' => h' Γ p' hΓ) p s (h Γ p hΓ hb hc)
theorem wpN_holding {vs : List Value} {m : Sem α} {Q : α → Shared → Prop} (h : wpN M A m Q E s) : wpN M A (holding vs m) Q E s :=
  fun Γ p hΓ hb hc => by rw [Sem.wp_holding]; exact h Γ p hΓ hb hc
theorem wpN_keep {vs : List Value} {m : Sem α} {Q : α → Shared → Prop} (h : wpN M A m Q E s) : wpN M A (m.keep vs) Q E s :=
  fun Γ p hΓ hb hc => by rw [Sem.wp_keep]; exact h Γ p hΓ hb hc
theorem wpN_run {c : Code} {h : Option Value} {Q : Flow → Shared → Prop}
    (hc : codeN M (A.mark h) c (fun r s' => match r with | .ok f => Q f s' | .error e => E e s') s) (hnb : h ≠ some byPass := by intro x; cases x) :
    wpN M A (run c h) Q E s :=
  fun Γ p hΓ hb hl => by rw [Sem.wp_run]; exact hc _ p rfl (hΓ.enter c h p hnb) (hl.cons hb)
theorem wpN_runValue {c : Code} {Q : Value → Shared → Prop}
    (hc : codeN M A c (fun r s' => match r with | .ok (.ret v) => Q v s' | .ok _ => False | .error e => E e s') s) :
    wpN M A (runValue c) Q E s := fun Γ p hΓ hb hl => by rw [Sem.wp_runValue]; exact hc _ p rfl (hΓ.enter c none p (by intro x; cases x)) (hl.cons hb)
theorem wpN_call {f : Value} {pos : List Value} {kw : List (Str × Value)} {Q : Value → Shared → Prop}
    (hc : codeN M A (.call f ⟨pos, kw⟩) (fun r s' => match r with | .ok (.ret v) => Q v s' | .ok _ => False | .error e => E e s') s) :
    wpN M A (call f pos kw) Q E s := wpN_runValue hc
theorem codeN_of_tree {c : Code} {R : Result → Shared → Prop} (hb : bad c = false)
    (h : wpN M (A.under c) (M.den c) (fun fin s' => match fin with | .done f => R (.ok f) s' | .again c' => c'.quiet = true ∧ codeN M A c' R s')
      (fun e s' => R (.error e) s') s) : codeN M A c R s := fun Γ p hc hΓ hl => by
  rw [wpCode_iff_wp, hc]
  refine Sem.wp_mono M Γ _ (fun fin p' s' h' => ?_) (fun _ _ _ h' => h') p s (h Γ p (hc ▸ hΓ.in) (hc ▸ hb) hl)
  cases fin with
  | done f => exact h'
  | again c' => exact ⟨h'.1, h'.2 (Γ.goto c') p' rfl (hΓ.goto c') hl⟩
theorem wpN_stack {Q : List (Code × Pos) → Shared → Prop} (h : ∀ st, Clean st → Q st s) : wpN M A stack Q E s := fun Γ p _ hb hc => by
  unfold stack
  rw [Sem.wp_stack]
  exact h _ (hc.cons hb)
theorem wpN_execs_cons {env : Env} {st rest} {Q : Flow → Shared → Prop}
    (h : wpN M A (exec st env) (fun f s' => match f with | .next => wpN M A (execs rest env) Q E s' | f => Q f s') E s) :
    wpN M A (execs (st :: rest) env) Q E s := by
  rw [execs_cons]
  refine wpN_bind (wpN_mono h (fun f s' h' => ?_) fun _ _ e => e)
  cases f <;> first | exact h' | exact wpN_of_any (wpAny_pure h')
theorem wpN_Assign_Name {env : Env} {x pos' value pos} {Q : Flow → Shared → Prop}
    (h : wpN M A (eval value env) (fun v s₁ => wpAny M A (storeName env x v) (fun _ => Q .next) E s₁) E s)
    (hs : swapsWith value (some (.Name x pos')) pos.line env = pure false := by rfl) :
    wpN M A (exec (.Assign [.Name x pos'] value pos) env) Q E s := fun Γ p hΓ hb hc => by
  simp only [exec_Assign_Name env x pos' value pos hs, Sem.wp_bind', Sem.wp_cmd_standAt, Sem.wp_bindName, Sem.wp_pure']
  exact Sem.wp_mono M Γ _ (fun v _ s₁ h₁ => h₁ Γ _ hΓ) (fun _ _ _ h' => h') _ _ (h Γ _ hΓ hb hc)
theorem wpN_Return_some {env : Env} {e pos} {Q : Flow → Shared → Prop} (h : wpN M A (eval e env) (fun v => Q (.ret v)) E s) :
    wpN M A (exec (.Return (some e) pos) env) Q E s := fun Γ p hΓ hb hc => by
  simp only [exec_Return_some, Sem.wp_bind', Sem.wp_cmd_standAt, Sem.wp_pure']; exact h Γ _ hΓ hb hc
theorem wpN_Call {env : Env} {func : Expr} {args : List Expr} {pos : Pos} {Q : Value → Shared → Prop}
    (h : wpAny M A (eval func env) (fun f s₁ => wpN M A (callWith pos f [] (backTo pos (starEach args env)) []) Q E s₁) E s)
    (he : eval (.Call func args [] pos) env = (do callWith pos (← eval func env) [] (backTo pos (starEach args env)) (backToKw pos (keywordEach [] env))) := by rfl) :
    wpN M A (eval (.Call func args [] pos) env) Q E s := by
  rw [he]; exact wpN_bindA h
theorem wpN_runOwn {env : Env} {c : Code} {h : Option Value} {Q : Flow → Shared → Prop}
    (hc : codeN M (A.mark h) c (fun r s' => match r with | .ok f => Q f s' | .error e => cameBackBy M A env E e s') s) (hnb : h ≠ some byPass := by intro x; cases x) :
    wpN M A (runOwn c env h) Q E s := by
  unfold runOwn
  exact wpN_onRaise (wpN_run hc hnb)
theorem wpN_For {env : Env} {target iter body orelse pos} {Q : Flow → Shared → Prop}
    (h : wpAny M A (eval iter env) (fun x s₁ => wpAny M A (pyIter x) (fun it s₂ =>
      codeN M A (.forLoop target it body orelse env) (fun r s' => match r with | .ok f => Q f s' | .error e => cameBackBy M A env E e s') s₂) E s₁) E s)
    (hs : ∀ x, foldedSetIterable iter env x = pure x := by intro _; rfl) :
    wpN M A (exec (.For target iter body orelse pos) env) Q E s := by
  rw [exec_For]
  exact wpN_bindA (wpAny_standAt (wpN_bindA (wpAny_mono h (fun x s₁ h₁ => wpN_bindA (wpAny_of_eq (hs x) (wpN_bindA (wpAny_standAt (wpN_bindA (wpAny_holding
    (wpAny_mono h₁ (fun it s₂ h₂ => wpN_runOwn h₂) fun _ _ h' => h'))))))) fun _ _ h' => h')))
theorem wpN_noted {env : Env} {m : Sem α} {Q : α → Shared → Prop} (h : wpN M A m Q (notedBy M A env E) s) : wpN M A (m.onRaise fun x => do noteFrame x env; theTreesLotGoes x) Q E s :=
  wpN_onRaise (wpN_mono h (fun _ _ q => q) fun _ _ hx => wpAny_bind (wpAny_mono hx (fun _ _ e => wpAny_theTreesLotGoes e) fun _ _ e => e))
end

section
variable {prog : Program} {w : World} {A : Around} {E : Value → Shared → Prop} {R : Result → Shared → Prop} {s : Shared}
theorem codeN_func {body env}
    (h : wpN (model prog w) (A.deeper env) (execs body env) (fun f s' => R (.ok (.ret (match f with | .ret v => v | _ => .none))) s')
      (fun e s' => wpAny (model prog w) (A.deeper env) (leaving env e) (fun _ s'' => R (.error e) s'') (fun e' s'' => R (.error e') s'') s') s) :
    codeN (model prog w) A (.func body env) R s := by
  refine codeN_of_tree rfl ?_
  show wpN _ (A.deeper env) (do point; match ← (execs body env).onRaise (leaving env) with | .ret v => ret v | _ => ret .none) _ _ s
  refine wpN_bindA (wpAny_point (wpN_bind (wpN_onRaise (wpN_mono h (fun f s' h' => ?_) fun _ _ h' => h'))))
  cases f <;> exact wpN_of_any (wpAny_pure h')
theorem codeN_builtin {id : String} {args : Args} {b : Builtin} (hbad : badIds.contains id = false) (hb : entryFor table id = some b)
    (h : wpN (model prog w) (A.under (.builtin id args)) (b args)
      (fun fin s' => match fin with | .done f => R (.ok f) s' | .again c' => c'.quiet = true ∧ codeN (model prog w) A c' R s') (fun e s' => R (.error e) s') s) :
    codeN (model prog w) A (.builtin id args) R s := by
  refine codeN_of_tree hbad ?_
  show wpN _ _ (match entryFor table id with | some b => b args | none => unsupported ((withoutEnding? id "#data").getD id)) _ _ s
  rw [hb]; exact h
theorem codeN_call_builtin {id : String} {args : Args} {b : Builtin} (hbad : badIds.contains id = false) (hq : plainId id = true) (hb : entryFor table id = some b)
    (h : wpAny (model prog w) A.in1 (checkBuiltinCall id args) (fun _ s₁ => wpN (model prog w) A.in1 (b args)
      (fun fin s' => match fin with | .done f => R (.ok f) s' | .again c' => c'.quiet = true ∧ codeN (model prog w) A c' R s') (fun e s' => R (.error e) s') s₁)
      (fun e s' => R (.error e) s') s) : codeN (model prog w) A (.call (.builtin id) args) R s := by
  refine codeN_of_tree rfl ?_
  show wpN _ A.in1 (do checkBuiltinCall id args; again (.builtin id args)) _ _ s
  refine wpN_bindA (wpAny_mono h (fun _ s₁ h₁ => wpN_of_any (wpAny_pure (And.intro (plainId_quiet hq _) (codeN_builtin hbad hb ?_)))) fun _ _ h' => h')
  rw [Around.under_plainId hq args]; exact h₁
theorem codeN_call_function {a : Addr} {args : Args} {o : Obj} {fd : FuncData} {body : List Stmt} (hroom : A.depth < recursionLimit)
    (ho : s.heap.get? a = some o)
    (hd' : o.data = .func fd) (hco : fd.scope.isCoroutine = false) (hgen : fd.scope.isGenerator = false) (hbody : fd.body = .stmts body) (hcd : s.heap.CodeRec fd.code fd.qualname)
    (h : wpAny (model prog w) A.in1 (bindArgs fd args) (fun binds s₁ =>
      wpAny (model prog w) A.in1 (newFunctionEnv fd.scope fd.globals fd.closure binds (fd.qualname ++ ".<locals>.") (some a) fd.code none fd.builtins)
        (fun env s₂ => s₂.heap.NoLimit ∧ codeN (model prog w) A (.func body env) R s₂) (fun e s' => R (.error e) s') s₁) (fun e s' => R (.error e) s') s) :
    codeN (model prog w) A (.call (.ref a) args) R s := by
  refine codeN_of_tree rfl ?_
  show wpN _ A.in1 (callAny (.ref a) args) _ _ s
  simp only [callAny]
  refine wpN_bindA (wpAny_load ho ?_)
  obtain ⟨c, oc, vs, tq, hc, hoc, hdc, hq⟩ := hcd
  simp only [hd', callFunction, hco, hgen, hbody, hc]
  rw [hc] at h
  refine wpN_bindA (m := field (.ref c) 1) (wpAny_field hoc hdc hq (wpN_bindA (wpAny_pure ?_)))
  exact wpN_bindA (wpAny_mono h (fun binds s₁ h₁ => wpN_bindA (wpAny_mono h₁ (fun env s₂ h₂ => wpN_bindA (wpAny_enterFrame h₂.1 hroom
    (wpN_of_any (wpAny_pure (And.intro rfl h₂.2))))) fun _ _ h' => h')) fun _ _ h' => h')
end
end Mine
end

/-! ## H1 -/
section
open PySem PySem.W PyProof.Rows PySem.Calls PySem.Spec
open PySem.Sem (wp)
set_option maxRecDepth 100000
namespace Mine

/-! the head, for a walk over clean stacks alone (the caller's own stack is clean) -/
theorem ends_N {prog : Program} {w : World} {t : Sem Fin} {s : Shared} {R : Result → Shared → Prop} (hreg : s.asleep)
    (h : wpN (model prog w) callerA t (fun fin s' => ∃ f, fin = .done f ∧ (R (.ok f) s' ∧ leftWithCleanup s'.gens = false)) (fun e s' => R (.error e) s' ∧ leftWithCleanup s'.gens = false) s) :
    ∃ n r s' s'', runN (denote table) prog w n s ⟨t, .builtin "claim.caller" {}, default, []⟩ = .halted (outcomeOf r) s' ∧
      schedN (denote table) prog w n (.single s ⟨t, .builtin "claim.caller" {}, default, []⟩) = .halted (outcomeOf r) s' ∧ s'.forget = s''.forget ∧ R r s'' := by
  have h0 := h _ default caller_in (by decide +kernel) (fun x hx => nomatch hx)
  obtain ⟨n, r, s₁, s₂, hs, hn, hfo, hR⟩ := wp_halts_full (M := model prog w) (R := R) (p := default) hreg (Sem.wp_mono _ _ _ (fun fin p' s' h' => by
    obtain ⟨f, rfl, hf⟩ := h'
    exact hf) (fun _ _ _ h' => h') _ _ h0)
  exact ⟨n, r, s₂, s₁, hn, hs, hfo, hR⟩

theorem callFrom_N {c : ClaimW} {tree : List Value → Sem Fin} {w : World} {s : Shared} {free : Addr → Prop} {gens : Prop} {kept : Heap → Prop} (hz : s.asleep) (hgens : s.gens = #[])
    (hspec : ∀ args, c.pre args = true → WData.layableAll args = true →
      ∀ ord : List DictEntry → List DictEntry, (∀ l, (ord l).Perm l) →
      ∃ vs s₁, layAllW c.records (classAt s.heap) w.params ord args s = some (vs, s₁) ∧
        wpN (model c.prog w) callerA (tree vs) (fun fin s' => ∃ f, fin = .done f ∧ (c.Ends s args vs s₁ (.ok f) s' ∧ s'.os = s.os ∧ AllBare s'.gens ∧ kept s'.heap))
          (fun e s' => c.Ends s args vs s₁ (.error e) s' ∧ s'.os = s.os ∧ AllBare s'.gens ∧ kept s'.heap) s₁) :
    c.CallFrom (fun vs => ⟨tree vs, .builtin "claim.caller" {}, default, []⟩) w free gens kept s := by
  intro args hpre hlay ord hord
  obtain ⟨vs, s₁, hlaid, hcode⟩ := hspec args hpre hlay ord hord
  have hal := layAllW_rest _ _ _ hlaid
  obtain ⟨k, r, s', s'', hrun, hsched, hfo, hcase, hos, hkp⟩ := ends_N (prog := c.prog) (w := w) (t := tree vs) (s := s₁)
    (R := fun r s' => c.Ends s args vs s₁ r s' ∧ s'.os = s.os ∧ kept s'.heap)
    (Shared.asleep_of_life hal.2.2.2 hz)
    (wpN_mono hcode (by
      rintro fin s' ⟨f, e, h1, h2, h3, h4⟩
      exact ⟨f, e, ⟨h1, h2, h4⟩, leftWithCleanup_false_of_bare h3⟩) (by
      rintro e s' ⟨h1, h2, h3, h4⟩
      exact ⟨⟨h1, h2, h4⟩, leftWithCleanup_false_of_bare h3⟩))
  obtain ⟨eh, _, _, eo, _⟩ := Shared.forget_eq hfo
  have hcase := hcase.congr eh
  have hkp : kept s'.heap := by first | exact eh ▸ hkp | (rw [eh] at hkp; exact hkp) | (rw [← eh] at hkp; exact hkp)
  rw [← eo] at hos
  have hlife : s'.heap.life = s.heap.life := (runN_life _ _ _ hrun).trans hal.2.2.2
  refine ⟨vs, s₁, hlaid, k, _, s', hsched, ?_, (fun _ i x hx => by rw [hgens] at hx; simp at hx), hkp, by rw [hlife], Shared.rest_eq hos⟩
  rcases hcase with ⟨v, rfl, d1, d2, d3, d4, d5⟩ | ⟨e, ob, cls, rfl, d1, d2, d3, d4, d5⟩
  · exact .inl ⟨v, rfl, d1, d2, d3, fun b o y _ => d4 b o y, d5⟩
  · exact .inr ⟨e, ob, cls, rfl, d1, d2, d3, d4, fun b o y _ => d5 b o y⟩

abbrev WalkC (q : Program) (loose : List Str) (XP : (Str → Option Value) → Heap → Prop) (YP : World → Heap → Prop) (r : RowW) (d : DefRec) (kwd : List (Str × Expr)) (run : Value → List Value → Sem Value) : Prop :=
  ∀ (w : World) (s₀ s₁ : Shared) (mg mb : Str → Option Value), Ground q loose r.records XP w s₀ mg mb s₁.heap → YP w s₁.heap → ∀ (a : Addr) (o : Obj) (pm cd doc dV kV : Value), s₁.heap.get? a = some o →
    o.data = .func { docDef d.name d.params d.body d.scope pm cd doc with defaults := dV, kwdefaults := kV } → s₁.heap.CodeRec cd d.name → Dflts mg s₁.heap d.params kwd dV kV → mg d.name = some (.ref a) → s₁.gens = #[] →
    ∀ (args : List WData) (vals : List Value) (as : List Addr), r.claim.pre args = true → WData.layableAll args = true → ReadsAllW r.records (classAt s₀.heap) s₁.heap vals args as → WellAll w.params s₁.heap vals args → (∀ a ∈ as, (a == sysModules) = false) →
      wpN (model r.prog w) callerA (run (.ref a) vals) (fun v s' => GoodWG r.claim (classAt s₀.heap) (ExcName.means s₀.heap) args s₁ (.ok (.ret v)) s')
        (fun e s' => GoodWG r.claim (classAt s₀.heap) (ExcName.means s₀.heap) args s₁ (.error e) s') s₁

theorem PySem.W.holds_open {r : OpenRow} {q : Program} {loose : List Str} {Xt : Shared → Bool} {XP : (Str → Option Value) → Heap → Prop} {α : Type} {Yf : Shared → α} {Ya : World → α} {YP : World → Heap → Prop} {d : DefRec} {kwd : List (Str × Expr)} {N : Nat}
    (left : LeftO r.prog q loose Xt Yf Ya N) (hY : ∀ w s, Yf s = Ya w → YP w s.heap) (hYk : ∀ w h h', YP w h → (∀ b o, h.get? b = some o → h'.get? b = some o) → YP w h')
    (hX : ∀ s, Xt s = true → XP (s.heap.nsMap mainGlobals) s.heap) (hXk : ∀ mg h h', XP mg h → (∀ b o, h.get? b = some o → h'.get? b = some o) → XP mg h')
    (hdef : defOf q r.name = some (d, kwd)) (hp : r.prog.theDef r.name = some (d.params, d.body, d.scope)) (hk : kwWritten? d.params.kwonlyargs d.params.kw_defaults = some kwd) (hRf : ∀ s, Xt s = true → RecFacts r.records s.heap) (hwr : (!r.writes || r.records.isEmpty) = true)
    (k1 : r.wellSaid = true) (ok : (chainsOk q && opensWell r.prog && (frees r.toRowW && r.within.isEmpty)) = true) (hb : r.prog.bare) (hw : r.toRowW.promised)
    (call : WalkC q loose XP YP r.toRowW d kwd fun f vs => _root_.PySem.call f vs) : r.Holds := by
  refine ⟨k1, hw, ?_⟩
  obtain ⟨ok, k5⟩ := Bool.and_eq_true_iff.mp ok
  obtain ⟨hch, o1⟩ := Bool.and_eq_true_iff.mp ok
  obtain ⟨k5, k6⟩ := Bool.and_eq_true_iff.mp k5
  obtain ⟨hsame, hu, ha, hap, hm⟩ := frees_parts k5
  refine ⟨⟨hb, o1, by show r.makers.map _ = []; rw [hm]; rfl⟩, hw.witness, fun w => ⟨(left.behind hX hch w).1, fun s' hs' => ?_⟩⟩
  obtain ⟨s₀, hf, hg0, s, hT, hz, hgens, hg, G00, y⟩ := (left.behind (XP := fun mg h => XP mg h ∧ RecFacts r.records h) (fun s hs => ⟨hX s hs, hRf s hs⟩) hch w).2 s' hs'
  have G0 : Ground q loose [] XP w s (s.heap.nsMap mainGlobals) (s.heap.nsMap builtinsNs) s.heap := ⟨G00.T, G00.B, G00.D, G00.TE, G00.TD, G00.W, G00.X.1, G00.cls, G00.has, G00.apart, G00.once, G00.K⟩
  have RF := G00.X.2
  have hT' := hT
  refine ⟨s₀, hf, hg0, s, hT, (fun n hn => ?_), RF.1, RF.2.1, ?_⟩
  · obtain rfl : n = r.name := by split at hn <;> simp_all
    exact pinned_of_view hg G0 hdef hp hk
  have hgens : s.gens = #[] := Array.eq_empty_of_size_eq_zero (beq_iff_eq.mp hgens)
  have G : Ground q loose r.records XP w s _ _ s.heap := RF.ground G0
  refine callFrom_N (c := r.claim) hz hgens fun args hpre hlay ord hord => ?_
  obtain ⟨⟨vs, s₁⟩, hlaid⟩ := Option.isSome_iff_exists.mp (layAllW_isSome (P := w.params) (ord := ord) G.has args r.args s (pre_splitW hpre).1)
  have keeps := layAllW_keeps _ _ _ hlaid
  have hal := layAllW_rest _ _ _ hlaid
  obtain ⟨as, hrd, hin, hold⟩ := reads_layAllW hord _ _ _ hlaid hlay s₁.heap (fun _ _ e => e)
  have L : Laid r.records w s s₁ args vs as := ⟨⟨ord, hord, hlaid⟩, hrd, hin, hold, keeps, hal.1.trans hgens, hal.2.2.1⟩
  have G₁ := G.keeps hXk keeps
  obtain ⟨a, o, pm, cd, doc, dV, kV, h1, h2, h3, h4, h5⟩ := G₁.fn hdef
  have h := call w s s₁ _ _ G₁ (hYk _ _ _ (hY w s y) keeps) a o pm cd doc dV kV h2 h3 h4 h5 (defOf_name hdef ▸ h1) L.gens args vs as hpre hlay L.reads L.well (L.low G.low)
  have hi := ident_freeW hu ha hap
  have hwi : r.claim.within = [] := List.isEmpty_iff.mp k6
  refine ⟨vs, s₁, hlaid, ?_⟩
  refine wpN_bindA (wpAny_nsGet G₁.T.g ?_)
  rw [h1]
  refine wpN_bind (wpN_mono h (fun v s' g => wpN_of_any (wpAny_pure ⟨_, rfl, have z := g.laid (c := r.claim) hsame hwi hi L; ⟨z.1, z.2.1, z.2.2, fun q => ⟨namesKept_of hT' hg _ keeps g.2.1.old, noTable hwr q⟩⟩⟩)) fun e s' g => have z := g.laid (c := r.claim) hsame hwi hi L; ⟨z.1, z.2.1, z.2.2, fun q => ⟨namesKept_of hT' hg _ keeps g.2.1.old, noTable hwr q⟩⟩)

open_top hd for PySem.Challenge.rw_oc0049_01
end Mine
end

/-! ## N2 -/
section
open PySem PySem.W PyProof.Rows PySem.Calls PySem.Spec
open PySem.Sem (wp)
set_option maxRecDepth 100000
namespace Mine
section
variable {M : Model} {A : Around} {E : Value → Shared → Prop} {s : Shared} {env : Env} {K : Frag}

theorem callWith_typeN {pos : Pos} {T : String} {e : Expr} {rest : List Expr} {Q : Value → Shared → Prop}
    (h : wpAny M A (spliced (backTo pos (starEach (e :: rest) env))) (fun vs s₁ => wpN M A (call (.type T) vs) Q E s₁) E s)
    (he : starEach (e :: rest) env = (false, eval e env) :: starEach rest env := by rfl) (hplain : (backTo pos (starEach rest env)).any (·.1) = false := by rfl) :
    wpN M A (callWith pos (.type T) [] (backTo pos (starEach (e :: rest) env)) []) Q E s := by
  rw [he] at h ⊢
  have hp : List.any (backTo pos ((false, eval e env) :: starEach rest env)) (·.1) = false := by
    show (false || (backTo pos (starEach rest env)).any (·.1)) = false
    rw [hplain]; rfl
  unfold callWith
  refine wpN_bindA (wpAny_holding (wpAny_mono (Calls.evalArgs_plain (f := .type T) (x := eval e env) (rest := backTo pos (starEach rest env)) (E := E) (Q := fun a s₁ => wpN M A (call (.type T) a.pos a.kw) Q E s₁) h) (fun a s₁ h₁ => wpN_bindA (wpAny_standAt ?_)) fun _ _ x => x))
  simp only [hp, List.any_nil, Bool.or_false]
  refine wpN_bindA (wpAny_pure ?_)
  exact wpN_bind (wpN_mono h₁ (fun r s₂ hr => wpN_of_any (wpAny_bind (wpAny_holding (wpAny_point (wpAny_pure hr))))) fun _ _ x => x)

theorem callWith_ofN {P : Heap → Prop} {pos : Pos} {f : Value} {first : List Value} {Q : Value → Shared → Prop} {args : List (Bool × Sem Value)} {keywords : List (Option Str × Sem Value)} (hplain : (args.any (·.1) || keywords.any (·.1.isNone)) = false)
    (hk : ∀ h, P h → ∃ k, (k = Keeper.frame ∨ k = Keeper.machine ∨ k = Keeper.boundFrame) ∧ Looks M h (keeperOf f) k)
    (h : wpAny M A (evalArgs f true args keywords) (fun a s₁ => P s₁.heap ∧ wpN M A (call f (first ++ a.pos) a.kw) Q E s₁) E s) : wpN M A (callWith pos f first args keywords) Q E s := by
  unfold callWith
  refine wpN_bindA (wpAny_holding (wpAny_mono h (fun a s₁ h₁ => wpN_bindA (wpAny_standAt ?_)) fun _ _ x => x))
  obtain ⟨k, hk', L⟩ := hk _ h₁.1
  simp only [hplain]
  refine wpN_bindA (L.here ?_)
  have tail : ∀ {t : Sem Value}, wpN M A t Q E s₁ → wpN M A (t >>= fun r => holding [r] point >>= fun _ => pure r) Q E s₁ :=
    fun ht => wpN_bind (wpN_mono ht (fun r s₂ hr => wpN_of_any (wpAny_bind (wpAny_holding (wpAny_point (wpAny_pure hr))))) fun _ _ x => x)
  have marked (mk : Value) : wpN M A (callMarked mk f (first ++ a.pos) a.kw) Q E s₁ := by unfold callMarked; exact wpN_keep h₁.2
  rcases hk' with rfl | rfl | rfl <;> dsimp only <;> first | exact tail h₁.2 | (split <;> first | exact tail h₁.2 | exact tail (marked _))

/-- a def of the text's, called by name with plain arguments -/
theorem callWith_KN {h₀ : Heap} {pos : Pos} {f : Value} {Q : Value → Shared → Prop} {e : Expr} {rest : List Expr} (_X : K.In h₀) (hk : keepIn K f = true)
    (h : wpAny M A (spliced (backTo pos (starEach (e :: rest) env))) (fun vs s₁ => K.In s₁.heap ∧ wpN M A (call f vs) Q E s₁) E s)
    (he : starEach (e :: rest) env = (false, eval e env) :: starEach rest env := by rfl) (hplain : (backTo pos (starEach rest env)).any (·.1) = false := by rfl) :
    wpN M A (callWith pos f [] (backTo pos (starEach (e :: rest) env)) []) Q E s := by
  rw [he] at h ⊢
  exact callWith_ofN (by show ((false || (backTo pos (starEach rest env)).any (·.1)) || false) = false; rw [hplain]; rfl) (keeps_K hk) (evalArgs_plain h)

/-- a function object at `f`, called with plain arguments -/
theorem callWith_FN {pos : Pos} {f : Addr} {Q : Value → Shared → Prop} {e : Expr} {rest : List Expr}
    (h : wpAny M A (spliced (backTo pos (starEach (e :: rest) env))) (fun vs s₁ => (∃ o fd, s₁.heap.get? f = some o ∧ o.data = .func fd) ∧ wpN M A (call (.ref f) vs) Q E s₁) E s)
    (he : starEach (e :: rest) env = (false, eval e env) :: starEach rest env := by rfl) (hplain : (backTo pos (starEach rest env)).any (·.1) = false := by rfl) :
    wpN M A (callWith pos (.ref f) [] (backTo pos (starEach (e :: rest) env)) []) Q E s := by
  rw [he] at h ⊢
  refine callWith_ofN (P := fun h => ∃ o fd, h.get? f = some o ∧ o.data = .func fd) (by show ((false || (backTo pos (starEach rest env)).any (·.1)) || false) = false; rw [hplain]; rfl) (fun hp hP => ?_) (evalArgs_plain h)
  obtain ⟨o, fd, ho, hd⟩ := hP
  refine ⟨.frame, .inl rfl, ?_⟩
  refine (Looks.ld (part := none) ho).andThen ?_
  rw [hd]
  exact .now
end

section
variable {prog : Program} {w : World} {A A₀ : Around} {s : Shared} {K : Frag} {L : Addr} {h₀ base : Heap} {m mg mb : Str → Option Value} {news : List (Addr × Obj)} {p : Program} {loose : List Str} {mean : ExcName → Option Value}
  {env : Env} {outer : List Env} {R : Result → Shared → Prop} {name qual : Str} {params : Arguments} {scope : Scope} {dV kV doc pm cdv ct oc : Value} {an od : Option Addr} {osl : Array (Option Value)} {f : Addr} {args : Args} {binds : List (Str × Value)}

theorem code_defN {body : List Stmt}
    (B : Below A₀ base outer h₀) (F : Fr h₀ L s.heap m) (X₀ : K.In h₀) (N : News h₀ L s.heap news) (T : Top p loose mean mg mb h₀) (hA : A.frames = some (env :: outer)) (hf : env.frame = some L) (hke : env.scope.kind = .function)
    (ho : K.lookup f = some ⟨oc, od, .func (fnOf name qual params body scope dV kV doc pm an cdv ct), osl⟩) (hcd : codeIn K cdv qual = true) (hroom : A.depth < recursionLimit)
    (hbind : BindsTo s (fnOf name qual params body scope dV kV doc pm an cdv ct) args binds) (hloc : ∀ y ∈ binds, scope.names.lookup y.1 = some .local)
    (h : ∀ g L' h₁, Fr h₀ L g m → Fr g L' h₁ (fun y => binds.reverse.lookup y) → News g L' h₁ news → Below A base (env :: outer) g → K.In g → Top p loose mean mg mb g →
      wpN (model prog w) (A.deeper (envOf qual scope L' f cdv)) (execs body (envOf qual scope L' f cdv))
        (fun fl s' => LeaveK h₀ L m g R (match fl with | .ret v => v | _ => .none) s')
        (fun e s' => wpAny (model prog w) (A.deeper (envOf qual scope L' f cdv)) (leaving (envOf qual scope L' f cdv) e) (fun _ s'' => R (.error e) s'') (fun e' s'' => R (.error e') s'') s')
        { s with heap := h₁, toks := s.toks + binds.length })
    (hco : scope.isCoroutine = false) (hgen : scope.isGenerator = false) (hk : scope.kind = .function)
    (hcell : ∀ x ∈ scope.names, x.2 ≠ .cell) : codeN (model prog w) A (.call (.ref f) args) R s := by
  obtain ⟨FG, BG, st, lv⟩ := groundX (R := R) B F N hA hf hke
  refine codeN_call_function hroom ((X₀.keeps F.keep) _ _ ho) rfl hco hgen rfl (codeRec_of (X₀.keeps F.keep) hcd) (hbind _ _ _ _ ?_)
  refine wpAny_newFunctionEnv hcell hloc (fun h₁ hns hsb => ⟨(T.nolimit.keeps F.keep).fresh _ hsb, codeN_func ?_⟩) hk
  have hk₁ : ∀ b o, s.heap.get? b = some o → h₁.get? b = some o := fun b o e => hsb.extBut b o (Nat.ne_of_lt (Heap.lt_size e)) (Heap.get?_push_of_some _ e)
  exact wpN_mono (h _ s.heap.objs.size h₁ FG ⟨hns, fun b o e => hk₁ b o (of_hideAll _ e), Nat.le_of_eq (hideAll_size _ _)⟩
    (fun p hp => ⟨hk₁ _ _ (N p hp).1, Nat.ne_of_lt (Heap.lt_size (N p hp).1), hideAll_none _ (List.mem_map_of_mem hp)⟩) BG (X₀.keeps st) (T.keeps st)) (fun fl s' hl => lv _ _ hl) fun _ _ y => y
end
end Mine
end

/-! ## N3 -/
section
open PySem PySem.W PyProof.Rows PySem.Calls PySem.Spec
open PySem.Sem (wp)
set_option maxRecDepth 100000
namespace Mine
theorem codeN_loop {M : Model} {A : Around} {s : Shared} {c : Code} {R : Result → Shared → Prop} (hbad : bad c = false) (hq : c.quiet = true) (I : Nat → Shared → Prop)
    (turn : ∀ n s, I n s → wpN M (A.under c) (M.den c)
      (fun fin s' => match fin with
        | .done f => R (.ok f) s'
        | .again c' => (c' = c ∧ ∃ m, m < n ∧ I m s') ∨ (c'.quiet = true ∧ codeN M A c' R s')) (fun e s' => R (.error e) s') s)
    (n : Nat) (h : I n s) : codeN M A c R s := by
  induction n using Nat.strongRecOn generalizing s with
  | ind n ih =>
    refine codeN_of_tree hbad (wpN_mono (turn n s h) (fun fin s' hf => ?_) fun _ _ h' => h')
    cases fin with
    | done f => exact hf
    | again c' =>
      rcases hf with ⟨rfl, m, hm, hI⟩ | hf
      · exact ⟨hq, ih m hm hI⟩
      · exact hf
section
variable {prog : Program} {w : World} {A : Around} {E : Value → Shared → Prop} {s : Shared} {env : Env} {h₀ : Heap} {target : Expr} {body : List Stmt} {Q : Flow → Shared → Prop}
theorem codeN_forLoop {R : Result → Shared → Prop} {it : Value} {orelse : List Stmt} (I : Nat → Shared → Prop)
    (turn : ∀ n s, I n s → wpAny (model prog w) A (pyNext it) (fun r s₁ => match r with
      | none => wpAny (model prog w) A (execs orelse env) (fun f s₃ => R (.ok f) s₃) (notedBy (model prog w) A env fun e s' => R (.error e) s') s₁
      | some v => wpAny (model prog w) A (letOwnedTupleGo target it v) (fun _ s₁' =>
          wpAny (model prog w) A (assign target env v) (fun _ s₂ => wpN (model prog w) A (execs body env) (fun f s₃ => match f with
            | .next | .cont => ∃ m, m < n ∧ I m s₃
            | .brk => R (.ok .next) s₃
            | .ret v => R (.ok (.ret v)) s₃) (notedBy (model prog w) A env fun e s' => R (.error e) s') s₂) (notedBy (model prog w) A env fun e s' => R (.error e) s') s₁') (notedBy (model prog w) A env fun e s' => R (.error e) s') s₁) (notedBy (model prog w) A env fun e s' => R (.error e) s') s)
    (n : Nat) (h : I n s) : codeN (model prog w) A (.forLoop target it body orelse env) R s := by
  refine codeN_loop rfl rfl I (fun n s hI => ?_) n h
  show wpN _ A ((forTurn target it body orelse env).onRaise (fun x => do noteFrame x env; theTreesLotGoes x)) _ _ s
  refine wpN_noted ?_
  simp only [forTurn]
  refine wpN_bindA (wpAny_standAt (wpN_bindA (wpAny_onRaise (wpAny_mono (turn n s hI) (fun r s₁ h₁ => ?_) fun _ _ h' => wpAny_standAt h'))))
  cases r with
  | none => exact wpN_of_any (wpAny_pure (.inr ⟨rfl, codeN_of_any (codeAny_block h₁)⟩))
  | some v =>
    refine wpN_bindA (wpAny_mono h₁ (fun _ s₁' h₁' => ?_) fun _ _ h' => h')
    refine wpN_bindA (wpAny_mono h₁' (fun _ s₂ h₂ => wpN_bind (wpN_mono h₂ (fun f s₃ h₃ => ?_) fun _ _ h' => h')) fun _ _ h' => h')
    cases f with
    | next => exact wpN_of_any (wpAny_pure (.inl ⟨rfl, h₃⟩))
    | cont => exact wpN_of_any (wpAny_pure (.inl ⟨rfl, h₃⟩))
    | brk => exact wpN_of_any (wpAny_pure h₃)
    | ret v => exact wpN_of_any (wpAny_pure h₃)

/-- the loop's rule with its turns over clean stacks -/
theorem loopN {I : Addr} {fp ws : List Addr} {n : Nat} {P Md : Nat → Value → Heap → Prop} {St : Nat → Heap → Prop} {m : Str → Option Value} {news keep : List (Addr × Obj)}
    (W : KTurns prog w A target I fp ws n P Md St) (hL : env.locals ∉ fp) (hws : ∀ b ∈ ws, h₀.get? b = none)
    (hfp : ∀ b ∈ fp, b ∈ ws ∨ (∃ o, h₀.get? b = some o) ∨ ∃ o, (b, o) ∈ keep)
    (hobj : ∀ i h, St i h → ∃ its : List (Addr × Obj), its.map (·.1) = ws ∧ ∀ p ∈ its, h.get? p.1 = some p.2)
    (J : Nat → (Str → Option Value) → List (Addr × Obj) → Prop)
    (hJ : ∀ i m₁ news₁, J i m₁ news₁ → (∀ p ∈ keep, p ∈ news₁) ∧ ∀ p ∈ news₁, p.1 ∉ ws)
    (hst : St 0 s.heap) (F : Fr h₀ env.locals s.heap m) (N : News h₀ env.locals s.heap news) (h0 : J 0 m news)
    (step : ∀ i v m₁ news₁ h₁ tk₁ its, i < n → P i v h₁ → J i m₁ news₁ → its.map (·.1) = ws → Fr h₀ env.locals h₁ m₁ → News h₀ env.locals h₁ (its ++ news₁) →
      wpAny (model prog w) A (assign target env v) (fun _ s₂ => wpN (model prog w) A (execs body env) (TurnPost h₀ env.locals its (J (i + 1)) Q s) E s₂) E { s with heap := h₁, toks := tk₁ })
    (hend : ∀ h' tk m' news', Fr h₀ env.locals h' m' → News h₀ env.locals h' news' → J n m' news' → Q .next { s with heap := h', toks := tk })
    (hE : PassesOwn (model prog w) A env E) :
    codeN (model prog w) A (.forLoop target (.ref I) body [] env) (fun r s' => match r with | .ok f => Q f s' | .error e => cameBackBy (model prog w) A env E e s') s := by
  have hLw : env.locals ∉ ws := fun h => hL (W.sub _ h)
  have old : ∀ b o, h₀.get? b = some o → b ∉ ws := fun b o e hb => by rw [hws b hb] at e; cases e
  refine codeN_forLoop
    (fun k s' => ∃ h' tk m' news' i, s' = { s with heap := h', toks := tk } ∧ St i h' ∧ Fr h₀ env.locals h' m' ∧ News h₀ env.locals h' news' ∧ J i m' news' ∧ i ≤ n ∧ k = n + 1 - i) ?_ (n + 1)
    ⟨s.heap, s.toks, m, news, 0, rfl, hst, F, N, h0, Nat.zero_le _, rfl⟩
  rintro k s' ⟨h', tk, m', news', i, rfl, hst', F', N', hj, hi, rfl⟩
  have hoff := (hJ i m' news' hj).2
  have next : ∀ h₁ : Heap, (∀ b o, b ∉ ws → h'.get? b = some o → h₁.get? b = some o) → Fr h₀ env.locals h₁ m' ∧ News h₀ env.locals h₁ news' := fun h₁ hk₁ =>
    ⟨⟨F'.ns.at' fun o e => hk₁ _ o hLw e, fun b o e => hk₁ b o (old b o e) (F'.keep b o e), F'.above⟩, fun p hp => ⟨hk₁ _ _ (hoff p hp) (N' p hp).1, (N' p hp).2⟩⟩
  by_cases hlt : i < n
  · refine W.item i _ _ _ hlt hst' fun v h₁ tk₁ hMd hk₁ => ?_
    refine wpAny_mono (W.go i v _ _ E hMd fun h₂ hP hst₂ hk₂ => ?_) (fun _ _ e => e) hE
    obtain ⟨F₂, N₂⟩ := next h₂ fun b o hb x => hk₂ b o hb (hk₁ b o hb x)
    obtain ⟨its, hmap, hits⟩ := hobj (i + 1) h₂ hst₂
    have Nits : News h₀ env.locals h₂ its := fun p hp => by
      have hm : p.1 ∈ ws := by rw [← hmap]; exact List.mem_map.mpr ⟨p, hp, rfl⟩
      exact ⟨hits p hp, fun e => hLw (e ▸ hm), hws _ hm⟩
    have Nall : News h₀ env.locals h₂ (its ++ news') := fun p hp => (List.mem_append.mp hp).elim (Nits p) (N₂ p)
    refine wpAny_mono (step i v m' news' h₂ tk₁ its hlt hP hj hmap F₂ Nall) (fun _ s₂ h₂' => wpN_mono h₂' (fun f s₃ hpost => ?_) hE) hE
    have fin : TurnEnd h₀ env.locals its (J (i + 1)) s s₃ → ∃ k', k' < n + 1 - i ∧ ∃ h' tk m' news' i, s₃ = { s with heap := h', toks := tk } ∧ St i h' ∧ Fr h₀ env.locals h' m' ∧ News h₀ env.locals h' news' ∧ J i m' news' ∧ i ≤ n ∧ k' = n + 1 - i := by
      rintro ⟨h₃, tk₃, m₃, news₃, rfl, F₃, N₃, j₃⟩
      refine ⟨n + 1 - (i + 1), by omega, h₃, tk₃, m₃, news₃, i + 1, rfl, ?_, F₃, fun p hp => N₃ p (List.mem_append_right _ hp), j₃, hlt, rfl⟩
      refine W.frame _ _ _ hst₂ fun b hb o e => ?_
      rcases hfp b hb with hb | ⟨o₀, hb⟩ | ⟨o₀, hb⟩
      · rw [← hmap] at hb
        obtain ⟨q, hq, rfl⟩ := List.mem_map.mp hb
        have e1 := hits q hq
        rw [e] at e1
        have e2 := Option.some.inj e1
        exact e2 ▸ (N₃ q (List.mem_append_left _ hq)).1
      · have e1 := F₂.keep b o₀ hb
        rw [e] at e1
        have e2 := Option.some.inj e1
        exact e2 ▸ F₃.keep b o₀ hb
      · have q1 := (hJ i m' news' hj).1 _ hb
        have e1 : h₂.get? b = some o₀ := (N₂ _ q1).1
        rw [e] at e1
        have e2 := Option.some.inj e1
        have q2 := (hJ (i + 1) m₃ news₃ j₃).1 _ hb
        exact e2 ▸ (N₃ _ (List.mem_append_right _ q2)).1
    cases f with
    | ret v => exact hpost
    | brk => exact hpost
    | next => exact fin hpost
    | cont => exact fin hpost
  · have hin : i = n := by omega
    subst hin
    refine W.done _ _ _ hst' fun h₁ tk₁ hk₁ => ?_
    obtain ⟨F₁, N₁⟩ := next h₁ hk₁
    exact wpAny_execs_nil (hend h₁ tk₁ m' news' F₁ N₁ hj)
end

section
variable {prog : Program} {w : World} {A A₀ : Around} {s : Shared} {K : Frag} {L : Addr} {h₀ base : Heap} {m mg mb : Str → Option Value} {news : List (Addr × Obj)} {p : Program} {loose : List Str} {mean : ExcName → Option Value}
theorem codeExprN {R : Result → Shared → Prop} {e : Expr} {env : Env}
    (h : wpN (model prog w) (A.deeper env) (eval e env) (fun v s' => R (.ok (.ret v)) s')
      (fun e' s' => wpAny (model prog w) (A.deeper env) (leaving env e') (fun _ s'' => R (.error e') s'') (fun e'' s'' => R (.error e'') s'') s') s) :
    codeN (model prog w) A (.expr e env) R s := by
  refine codeN_of_tree rfl ?_
  show wpN _ (A.deeper env) (do point; ret (← (eval e env).onRaise (leaving env))) _ _ s
  exact wpN_bindA (wpAny_point (wpN_bind (wpN_onRaise (wpN_mono h (fun v s' h' => wpN_of_any (wpAny_pure h')) fun _ _ h' => h'))))
theorem callFunEN {R : Result → Shared → Prop} {a : Addr} {args : Args} {o : Obj} {fd : FuncData} {body : Expr} (hroom : A.depth < recursionLimit)
    (ho : s.heap.get? a = some o)
    (hd' : o.data = .func fd) (hco : fd.scope.isCoroutine = false) (hgen : fd.scope.isGenerator = false) (hbody : fd.body = .expr body) (hcd : s.heap.CodeRec fd.code fd.qualname)
    (h : wpAny (model prog w) A.in1 (bindArgs fd args) (fun binds s₁ =>
      wpAny (model prog w) A.in1 (newFunctionEnv fd.scope fd.globals fd.closure binds (fd.qualname ++ ".<locals>.") (some a) fd.code none fd.builtins)
        (fun env s₂ => s₂.heap.NoLimit ∧ codeN (model prog w) A (.expr body env) R s₂) (fun e s' => R (.error e) s') s₁) (fun e s' => R (.error e) s') s) :
    codeN (model prog w) A (.call (.ref a) args) R s := by
  refine codeN_of_tree rfl ?_
  show wpN _ A.in1 (callAny (.ref a) args) _ _ s
  simp only [callAny]
  refine wpN_bindA (wpAny_load ho ?_)
  obtain ⟨c, oc, vs, tq, hc, hoc, hdc, hq⟩ := hcd
  simp only [hd', callFunction, hco, hgen, hbody, hc]
  rw [hc] at h
  refine wpN_bindA (m := field (.ref c) 1) (wpAny_field hoc hdc hq (wpN_bindA (wpAny_pure ?_)))
  exact wpN_bindA (wpAny_mono h (fun binds s₁ h₁ => wpN_bindA (wpAny_mono h₁ (fun env s₂ h₂ => wpN_bindA (wpAny_enterFrame h₂.1 hroom
    (wpN_of_any (wpAny_pure (And.intro rfl h₂.2))))) fun _ _ h' => h')) fun _ _ h' => h')
theorem code_lamN {env : Env} {outer : List Env} {R : Result → Shared → Prop} {name qual : Str} {params : Arguments} {body : Expr} {scope : Scope} {cl : List (Str × Addr)} {pm ctv : Value} {c' : Addr} {f : Addr} {args : Args} {binds : List (Str × Value)}
    (B : Below A₀ base outer h₀) (F : Fr h₀ L s.heap m) (X₀ : K.In h₀) (N : News h₀ L s.heap news) (T : Top p loose mean mg mb h₀) (hA : A.frames = some (env :: outer)) (hf : env.frame = some L) (hke : env.scope.kind = .function)
    (ho : (f, kla_obj name qual params body scope cl pm c' ctv) ∈ news) (hcd : s.heap.CodeRec (.ref c') qual) (hroom : A.depth < recursionLimit)
    (hbind : bindArgs (kla_fn name qual params body scope cl pm (.ref c') ctv) args = pure binds) (hloc : ∀ y ∈ binds, scope.names.lookup y.1 = some .local)
    (h : ∀ g L' h₁, Fr h₀ L g m → Fr g L' h₁ (fun y => binds.reverse.lookup y) → News g L' h₁ news → Below A base (env :: outer) g → K.In g → Top p loose mean mg mb g →
      wpN (model prog w) (A.deeper (envX qual scope L' f (.ref c') cl)) (eval body (envX qual scope L' f (.ref c') cl))
        (fun v s' => LeaveK h₀ L m g R v s')
        (fun e s' => wpAny (model prog w) (A.deeper (envX qual scope L' f (.ref c') cl)) (leaving (envX qual scope L' f (.ref c') cl) e) (fun _ s'' => R (.error e) s'') (fun e' s'' => R (.error e') s'') s')
        { s with heap := h₁, toks := s.toks + binds.length })
    (hco : scope.isCoroutine = false) (hgen : scope.isGenerator = false) (hk : scope.kind = .function)
    (hcell : ∀ x ∈ scope.names, x.2 ≠ .cell) : codeN (model prog w) A (.call (.ref f) args) R s := by
  obtain ⟨FG, BG, st, lv⟩ := groundX (R := R) B F N hA hf hke
  refine callFunEN hroom (N _ ho).1 rfl hco hgen rfl hcd ?_
  rw [hbind]
  refine wpAny_pure (wpAny_newFunctionEnv hcell hloc (fun h₁ hns hsb => ⟨((T.nolimit).keeps F.keep).fresh _ hsb, ?_⟩) hk)
  show codeN _ _ (.expr body (envX qual scope s.heap.objs.size f (.ref c') cl)) _ _
  have hk₁ : ∀ b o, s.heap.get? b = some o → h₁.get? b = some o := fun b o e => hsb.extBut b o (Nat.ne_of_lt (Heap.lt_size e)) (Heap.get?_push_of_some _ e)
  exact codeExprN (wpN_mono (h _ s.heap.objs.size h₁ FG ⟨hns, fun b o e => hk₁ b o (of_hideAll _ e), Nat.le_of_eq (hideAll_size _ _)⟩
    (fun p hp => ⟨hk₁ _ _ (N p hp).1, Nat.ne_of_lt (Heap.lt_size (N p hp).1), hideAll_none _ (List.mem_map_of_mem hp)⟩) BG (X₀.keeps st) (T.keeps st)) (fun v s' hl => lv _ _ hl) fun _ _ y => y)
end
end Mine
end

/-! ## N4 -/
section
open PySem PySem.W PyProof.Rows PySem.Calls PySem.Spec
open PySem.Sem (wp)
set_option maxRecDepth 100000
namespace Mine
/-- what a walk on the ground with the code's table laid aside gives -/
theorem good_post {s₁ s' : Shared} {r : Result} {cw : ClaimW} {cl : Str → Option Addr} {mean : ExcName → Option Value} {args : List WData} {tabs : List (Addr × Addr)} (pr : Program) (w : World) (hT : TabsAt tabs s₁.heap) (hr : ∀ a x, cw.raises a x = false)
    (h : GoodW cw cl mean args { s₁ with heap := ghostOf s₁.heap tabs } r s' ∧ GrownAll tabs s'.heap) : GoodWG cw cl mean args s₁ r s' := by
  cases r with
  | error e =>
    rcases h.1.1 with ⟨_, _, _, q, _⟩ | ⟨_, _, _, _, _, _, q, _⟩
    · cases q
    · rw [hr] at q; cases q
  | ok f =>
    have h1 : codeAny (⟨fun _ => pure (.done f), pr, w⟩ : Model) callerA (.builtin "x" {}) (fun r s' => GoodW cw cl mean args { s₁ with heap := ghostOf s₁.heap tabs } r s' ∧ GrownAll tabs s'.heap) s' :=
      codeAny_of_tree (wpAny_pure h)
    have h2 := kn_post hT hr h1 _ default rfl (caller_in.enter _ none default (by intro x; cases x))
    rw [wpCode_iff_wp] at h2
    exact h2
theorem enter_callN {M : Model} {A : Around} {s : Shared} {f : Value} {pos : List Value} {kw : List (Str × Value)} {c : ClaimW} {cl : Str → Option Addr} {mean : ExcName → Option Value} {args : List WData} {s₁ : Shared} {tabs : List (Addr × Addr)} (pr : Program) (w : World)
    (hT : TabsAt tabs s₁.heap) (hr : ∀ a x, c.raises a x = false)
    (h : codeN M A (.call f ⟨pos, kw⟩) (fun r s' => GoodW c cl mean args { s₁ with heap := ghostOf s₁.heap tabs } r s' ∧ GrownAll tabs s'.heap) s) : wpN M A (PySem.call f pos kw) (fun v s' => GoodWG c cl mean args s₁ (.ok (.ret v)) s') (fun e s' => GoodWG c cl mean args s₁ (.error e) s') s :=
  wpN_call (codeN_mono h fun res s' g => by
    have g := good_post pr w hT hr g
    rcases g.1 with ⟨v, _, _, rfl, _⟩ | ⟨e, _, _, rfl, _⟩ <;> exact g)
theorem call_cellsNN {prog : Program} {w : World} {A : Around} {R : Result → Shared → Prop} {s : Shared} {name : Str} {params : Arguments} {body : List Stmt} {scope : Scope}
    {pm cd doc : Value} {a : Addr} {o : Obj} {args : List Value} {binds : List (Str × Value)}
    (hroom : A.depth < recursionLimit) (ho : s.heap.get? a = some o) (hdata : o.data = .func (Calls.docDef name params body scope pm cd doc)) (hlim : s.heap.NoLimit) (hcd : s.heap.CodeRec cd name)
    (hbind : bindArgs (Calls.docDef name params body scope pm cd doc) ⟨args, []⟩ = pure binds)
    (hkind : ∀ x ∈ binds, scope.names.lookup x.1 = some .local ∨ (scope.names.lookup x.1 = some .cell ∧ ((cellsFrom (s.heap.objs.size + 1) scope.names []).lookup x.1).isSome = true))
    (hnd : ((cellsFrom 0 scope.names []).map (·.1)).Nodup)
    (h : ∀ h₁ tk cells, Fr s.heap s.heap.objs.size h₁ (bindL (envOfC name scope s.heap.objs.size a cd).kindOf binds fun _ => none) → News s.heap s.heap.objs.size h₁ cells →
      CellsAre (bindC (envOfC name scope s.heap.objs.size a cd).kindOf binds fun _ => none) (cellsFrom (s.heap.objs.size + 1) scope.names []) cells →
      wpN (model prog w) (A.deeper (envOfC name scope s.heap.objs.size a cd)) (execs body (envOfC name scope s.heap.objs.size a cd))
        (fun f s' => R (.ok (.ret (match f with | .ret v => v | _ => .none))) s')
        (fun e s' => wpAny (model prog w) (A.deeper (envOfC name scope s.heap.objs.size a cd)) (leaving (envOfC name scope s.heap.objs.size a cd) e)
          (fun _ s'' => R (.error e) s'') (fun e' s'' => R (.error e') s'') s')
        { s with heap := h₁, toks := tk })
    (hco : scope.isCoroutine = false := by rfl) (hgen : scope.isGenerator = false := by rfl) (hk : scope.kind = .function := by rfl) :
    codeN (model prog w) A (.call (.ref a) ⟨args, []⟩) R s := by
  refine codeN_call_function hroom ho hdata hco hgen rfl hcd ?_
  rw [hbind]
  refine wpAny_pure (wpAny_newFunctionEnv_cells hk hkind fun env' he s' x => ?_)
  subst he
  refine ⟨hlim.keeps x.toInCall.keep, codeN_func ?_⟩
  obtain ⟨h₁, tk, rfl, _⟩ := x.done
  obtain ⟨cells, NC, Y⟩ := Cl.news (h₀ := s.heap) (Nat.le_refl _) fun n c hm => ⟨x.cell n c (lookup_of_mem_nodup (cellsFrom_names scope.names 0 (s.heap.objs.size + 1) [] [] rfl ▸ hnd) hm), x.above n c hm⟩
  exact h h₁ tk cells ⟨x.toInCall.ns, x.toInCall.keep, x.toInCall.fresh⟩ NC Y
end Mine
end

/-! ## BA -/
section
open PySem PySem.W PyProof.Rows PySem.Calls PySem.Spec
open PySem.Sem (wp)
set_option maxRecDepth 100000
set_option maxHeartbeats 4000000
namespace Mine
abbrev baObj (b : Array UInt8) : Obj := { cls := .type "bytearray", dict := none, data := .bytearray b 0, slots := #[] }

theorem mro_ba : mroOf (.type "bytearray") = pure [.type "bytearray", .type "object"] := by rw [mroOf_type]; kernel_rfl
theorem lookup_ba_new : typeLookup (.type "bytearray") "__new__" = pure (some (.builtin "bytearray.__new__")) := by rw [typeLookup_type, builtinLookup_eq_fast]; kernel_rfl
theorem sub_ba : isSubtype (.type "bytearray") (.type "bytearray") = pure true := by rw [isSubtype_type]; kernel_rfl
theorem slot_ba_init : Slot "bytearray" "__init__" "bytearray.__init__" :=
  .of (owner := "bytearray") (n := "__init__") (by rw [typeLookup_type, builtinLookup_eq_fast]; kernel_rfl) (by decide +kernel) (by decide +kernel) (by decide +kernel)
    (by first | exact .inl (by decide +kernel) | exact .inr (by decide +kernel)) (by rw [isSubtype_type]; kernel_rfl)
theorem entry_ba_init : entryFor table "bytearray.__init__" = some Builtin.«bytearray.__init__» := entryFor_of_tree (by kernel_rfl)
theorem owner_ba : Manifest.owners.lookup (String.ofList ['y', 'a', 'r', 'r', 'a', 'e', 't', 'y', 'b'].reverse) = some Manifest.sig_bytearray := by kernel_rfl
theorem args_ba_init_2 (a b : Value) : argsOk "bytearray.__init__" ⟨[a, b], []⟩ := by
  unfold argsOk; rw [signature?_of (id := "bytearray.__init__") (n := ['_', '_', 't', 'i', 'n', 'i', '_', '_']) (o := ['y', 'a', 'r', 'r', 'a', 'e', 't', 'y', 'b']) (by kernel_rfl) owner_ba]; kernel_rfl
theorem called_ba : TypeCalled "bytearray" "bytearray.__new__" "bytearray.__init__" :=
  ⟨by decide +kernel, by decide +kernel, ⟨_, _, mro_ba⟩, madeBy_type mro_ba lookup_ba_new (by decide +kernel), by decide +kernel, by rw [isSubtype_type]; kernel_rfl, slot_ba_init⟩
theorem typeCall_ba_1 (a : Value) : checkTypeCall "bytearray" ⟨[a], []⟩ = pure () := by kernel_rfl
theorem newCall_ba_1 (a : Value) : checkBuiltinCall "bytearray.__new__" ⟨[.type "bytearray", a], []⟩ = pure () := by kernel_rfl
theorem plain_ba_new : plainId "bytearray.__new__" = true := by decide +kernel
theorem entry_ba_new : entryFor table "bytearray.__new__" = some Builtin.«list.__new__» :=
  entryFor_alias (id' := "list.__new__") (by kernel_rfl) (by first | rfl | decide +kernel | (unfold String.splitOn; simp +decide [String.splitOnAux])) (by decide +kernel) (by kernel_rfl)
set_option maxRecDepth 1000000 in
theorem owner_ba_new : ("bytearray.__new__".splitOn ".__new__").headD "" = "bytearray" := by simp +decide [String.splitOn, String.splitOnAux]

section
variable {prog : Program} {w : World} {A : Around} {E : Value → Shared → Prop} {s : Shared}
theorem code_ba_new (a : Value) {Q₁ : Value → Shared → Prop}
    (h : Q₁ (.ref s.heap.objs.size) { s with heap := s.heap.push (baObj #[]) }) :
    codeAny (model prog w) A (.call (.builtin "bytearray.__new__") ⟨[.type "bytearray", a], []⟩) (wants Q₁ E) s := by
  refine codeAny_of_tree ?_
  show wpAny _ A.in1 (do checkBuiltinCall "bytearray.__new__" ⟨[.type "bytearray", a], []⟩; again (.builtin "bytearray.__new__" ⟨[.type "bytearray", a], []⟩)) _ _ s
  refine wpAny_bind (wpAny_of_eq (newCall_ba_1 a) (wpAny_pure ⟨plainId_quiet plain_ba_new _, codeAny_builtin_stack entry_ba_new rfl fun p st => ?_⟩))
  rw [Around.under_plainId plain_ba_new _]
  have hsub := sub_ba
  have hown := owner_ba_new
  obtain ⟨hp, g, d, tk, os⟩ := s
  simp only [hown]
  wp_walk
  exact h
end
end Mine
end

/-! ## BI -/
section
open PySem PySem.W PyProof.Rows PySem.Calls PySem.Spec
open PySem.Sem (wp)
set_option maxRecDepth 100000
set_option maxHeartbeats 4000000
namespace Mine
theorem lookup_ba_rel : typeLookup (.type "bytearray") "__release_buffer__" = pure (some (.builtin "bytearray.__release_buffer__")) := by rw [typeLookup_type, builtinLookup_eq_fast]; kernel_rfl
theorem lookup_int_index : typeLookup (.type "int") "__index__" = pure (some (.builtin "int.__index__")) := by rw [typeLookup_type, builtinLookup_eq_fast]; kernel_rfl
section
variable {prog : Program} {w : World} {A : Around} {E : Value → Shared → Prop} {s : Shared}
theorem own_release {x : Addr} {b : Array UInt8} {Q : Bool → Shared → Prop} (hx : s.heap.get? x = some (baObj b)) (h : Q false s) : wpAny (model prog w) A (Builtin.Bytes.ownRelease (.ref x)) Q E s := by
  have hT : s.TypeIs (.ref x) "bytearray" := ⟨_, hx, rfl⟩
  unfold Builtin.Bytes.ownRelease Builtin.Bytes.slotIsOwn
  refine wpAny_bind (wpAny_bind (wpAny_specialOf hT lookup_ba_rel ?_))
  have e1 : ("bytearray.__release_buffer__".endsWith ("." ++ "__release_buffer__")) = true := by decide +kernel
  have e2 : ("bytearray.__release_buffer__".dropRight ("__release_buffer__".length + 1)) = "bytearray" := by decide +kernel
  simp only [e1, e2, Bool.not_true, Bool.false_eq_true, if_false]
  refine wpAny_isInstance hT sub_ba ?_
  exact wpAny_pure h

theorem exported_clean {x : Value} {Q : Bool → Shared → Prop} (h : Q false s) : wpN (model prog w) A (Builtin.Bytes.exported x) Q E s := by
  unfold Builtin.Bytes.exported
  refine wpN_bind (wpN_stack fun st hst => wpN_of_any (wpAny_pure ?_))
  have key : ∀ b, b = false → Q b s := fun b e => e ▸ h
  refine key _ ?_
  rw [List.any_eq_false]
  rintro ⟨c, p⟩ hm
  have hb := hst _ hm
  simp only [Bool.not_eq_true]
  have hid : ∀ i a, c = Code.builtin i a → badIds.contains i = false := fun i a e => by subst e; exact hb
  split
  iterate 5
    · rename_i e
      exact absurd (hid _ _ (Prod.mk.inj e).1) (by decide +kernel)
  · rename_i e
    have hb' := hid _ _ (Prod.mk.inj e).1
    simp only [badIds, List.contains_eq_mem, List.mem_append, decide_eq_false_iff_not] at hb'
    rw [show ∀ i : String, i ∉ Builtin.Bytes.decodersThatHold → Builtin.Bytes.decodersThatHold.contains i = false from fun i q => by simpa using q]
    · exact Bool.and_false _
    · exact fun q => hb' (.inl q)
  · rfl
end
end Mine
end

/-! ## BJ -/
section
open PySem PySem.W PyProof.Rows PySem.Calls PySem.Spec
open PySem.Sem (wp)
set_option maxRecDepth 100000
set_option maxHeartbeats 4000000
namespace Mine
section
variable {prog : Program} {w : World} {A : Around} {E : Value → Shared → Prop} {s : Shared}
theorem ba_write {x : Addr} {b : Array UInt8} {f : Array UInt8 → Array UInt8} {Q : Unit → Shared → Prop} (hx : s.heap.get? x = some (baObj b)) (hsz : (f b).size ≤ sizeLine)
    (h : ∀ h', h'.get? x = some (baObj (f b)) → Heap.SameBut x s.heap h' → Q () { s with heap := h' }) : wpAny (model prog w) A (Builtin.Bytes.write (.ref x) f) Q E s := by
  show wpAny _ _ (updateBytearray x f) _ _ s
  unfold updateBytearray
  refine wpAny_bind (wpAny_load hx ?_)
  have hg : (s.heap.update x (Obj.mapBytearray f)).get? x = some (baObj (f b)) := Heap.get?_update_self _ hx rfl
  refine wpAny_bind (wpAny_update hx ?_)
  unfold lookBehind
  refine wpAny_bind (wpAny_loadPart hg ?_)
  have e : (baObj (f b)).data.pastItsLine = none := by
    show (if (f b).size > sizeLine then some "bytearray:memory" else none) = none
    rw [if_neg (Nat.not_lt.mpr hsz)]
  rw [e]
  exact wpAny_pure (h _ hg (Heap.SameBut.update ..))
theorem ba_payload {x : Addr} {b : Array UInt8} {Q : Array UInt8 → Shared → Prop} (hx : s.heap.get? x = some (baObj b)) (h : Q b s) : wpAny (model prog w) A (Builtin.Bytes.payload (.ref x)) Q E s := by
  unfold Builtin.Bytes.payload Builtin.Bytes.payload?
  exact wpAny_bind (wpAny_bind (wpAny_load hx (wpAny_pure (wpAny_pure h))))

theorem ba_init {x : Addr} {n : Nat} {t : Tok} {Q : Fin → Shared → Prop} (hx : s.heap.get? x = some (baObj #[])) (hn : n ≤ 1000)
    (h : ∀ h', h'.get? x = some (baObj (Array.replicate n 0)) → Heap.SameBut x s.heap h' → Q (.done (.ret .none)) { s with heap := h' }) :
    wpN (model prog w) A (Builtin.«bytearray.__init__» ⟨[.ref x, .int n t], []⟩) Q E s := by
  unfold Builtin.«bytearray.__init__»
  refine wpN_bindA (own_release hx ?_)
  rw [if_neg Bool.false_ne_true]
  refine wpN_bindA (m := Builtin.Bytes.bindOptional _ _ _ _ _) (wpAny_of_eq (a := [some (.int n t), none, none]) (by kernel_rfl) ?_)
  refine wpN_bindA (m := Builtin.Bytes.checkCodecArg _ _ _ _) (wpAny_pure ?_)
  refine wpN_bindA (m := Builtin.Bytes.checkCodecArg _ _ _ _) (wpAny_pure ?_)
  refine wpN_bind (m := Builtin.Bytes.exported _ <||> _) (wpN_bind (m := Builtin.Bytes.exported _) (exported_clean ?_))
  refine wpN_of_any ?_
  show wpAny _ _ (Builtin.Bytes.exportsOf (.ref x) >>= _) _ _ s
  unfold Builtin.Bytes.exportsOf
  refine wpAny_bind (wpAny_bind (wpAny_load hx (wpAny_pure (wpAny_pure ?_))))
  show wpN _ _ (Builtin.Bytes.write (Value.ref x) (fun _ => #[]) >>= _) _ _ _
  refine wpN_of_any (wpAny_bind (ba_write hx (Nat.zero_le _) fun h₁ hx₁ hs₁ => ?_))
  have hTn : ∀ s' : Shared, s'.TypeIs (.int (n : Int) t) "int" := fun _ => rfl
  have hli := lookup_int_index
  generalize hv : Value.int (n : Int) t = v at *
  have e1 : asStr? v = pure none := by subst hv; rfl
  have e2 : asInt? v = pure (some (n : Int)) := by subst hv; rfl
  have f1 : Builtin.Bytes.fitsIndex (n : Int) = true := by simp [Builtin.Bytes.fitsIndex]; omega
  have f2 : ¬ ((n : Int) < 0) := by omega
  have f3 : ((n : Int) == 2 ^ 63 - 1) = false := by simp; omega
  have f4 : Builtin.Bytes.tooLong (n : Int).toNat = false := by simp [Builtin.Bytes.tooLong, sizeLine]; omega
  show wpAny _ _ (asStr? v >>= _) _ _ _
  refine wpAny_bind (wpAny_of_eq e1 ?_)
  rw [if_neg (show ¬ (Option.isSome (none : Option Str) = true) from Bool.false_ne_true)]
  refine wpAny_bind (wpAny_pure ?_)
  refine wpAny_bind (wpAny_specialOf (hTn _) hli ?_)
  simp only [Option.isSome_some, if_true]
  refine wpAny_bind (wpAny_attempt ?_)
  unfold asIndex
  refine wpAny_bind (wpAny_of_eq e2 (wpAny_pure ?_))
  dsimp only
  simp only [f1, f2, f3, f4, Bool.not_true, Bool.false_eq_true, if_false]
  refine wpAny_bind (wpAny_rule ?_)
  have up : ∀ h', Heap.SameBut x h₁ h' → Heap.SameBut x s.heap h' := fun h' hs => ⟨hs.1.trans hs₁.1, fun b hb => (hs.2 b hb).trans (hs₁.2 b hb)⟩
  by_cases hn0 : 0 < (n : Int)
  · rw [if_pos hn0]
    refine wpAny_bind (ba_write hx₁ (by simp [sizeLine]; omega) fun h₂ hx₂ hs₂ => ?_)
    exact wpAny_pure (h h₂ (by simpa using hx₂) (up h₂ hs₂))
  · rw [if_neg hn0]
    have e0 : n = 0 := by omega
    subst e0
    exact wpAny_pure (h h₁ (by simpa using hx₁) hs₁)

theorem call_ba {n : Nat} {t : Tok} {Q : Value → Shared → Prop} (hn : n ≤ 1000)
    (h : ∀ h', h'.get? s.heap.objs.size = some (baObj (Array.replicate n 0)) → h'.objs.size = s.heap.objs.size + 1 → (∀ b o, s.heap.get? b = some o → h'.get? b = some o) → Q (.ref s.heap.objs.size) { s with heap := h' }) :
    wpN (model prog w) A (call (.type "bytearray") [.int n t]) Q E s := by
  refine wpN_call (codeN_of_tree rfl ?_)
  show wpN _ _ (callAny (.type "bytearray") _) _ _ _
  refine wpN_of_any (wpAny_pure ⟨Code.quiet_builtin _ (by decide +kernel), codeN_builtin (by decide +kernel) F.entry_type_call ?_⟩)
  rw [Around.under_plain (weight_type_call_type "bytearray" _ []) (units_type_call_type "bytearray" _ [])]
  have ft := called_ba
  obtain ⟨c, tl, hmro⟩ := ft.mro
  have hmade := ft.made
  have hsub := ft.sub
  have h1 := ft.notType
  have h2 := ft.canCreate
  have hct := typeCall_ba_1 (.int n t)
  unfold Builtin.«type.__call__»
  simp only [h1, h2, hct, hmro, hmade, Bool.false_eq_true, if_false, pure_bind]
  simp only [List.isEmpty_cons, Bool.false_eq_true, if_false]
  refine wpN_bindA (wpAny_holding (wpAny_call (codeAny_mono (code_ba_new (E := E) (Q₁ := fun v s' => v = .ref s.heap.objs.size ∧ s' = { s with heap := s.heap.push (baObj #[]) }) _ ⟨rfl, rfl⟩) fun r s' hr => ?_)))
  cases r with
  | error e => exact hr
  | ok fl =>
    cases fl with
    | ret v =>
      obtain ⟨rfl, rfl⟩ := hr
      have hx : (s.heap.push (baObj #[])).get? s.heap.objs.size = some (baObj #[]) := Heap.get?_push_size _ rfl
      have hT : Shared.TypeIs { s with heap := s.heap.push (baObj #[]) } (.ref s.heap.objs.size) "bytearray" := ⟨_, hx, rfl⟩
      refine wpN_bindA (wpAny_isInstance hT sub_ba ?_)
      simp only [Bool.not_true, Bool.false_eq_true, if_false]
      refine wpN_bind (wpN_holding ?_)
      simp only [callSpecial?]
      refine wpN_bindA (wpAny_specialOf hT slot_ba_init.lookup ?_)
      simp only [slot_ba_init.bind]
      refine wpN_holding (wpN_bindA (wpAny_pure (wpN_bind (wpN_call (codeN_call_builtin (by decide +kernel) slot_ba_init.plain entry_ba_init (slot_ba_init.check _ _ _ _ _ _ _ _ hT (args_ba_init_2 _ _) ?_))))))
      refine ba_init hx hn fun h' hx' hs' => ?_
      refine wpN_of_any (wpAny_pure ?_)
      refine wpN_of_any (wpAny_pure (h h' hx' (by rw [hs'.1, Heap.size_push]) fun b o e => ?_))
      exact (hs'.2 b (Nat.ne_of_lt (Heap.lt_size e))).trans (Heap.get?_push_of_some _ e)
    | _ => exact hr.elim
end
end Mine
end

/-! ## BK -/
section
open PySem PySem.W PyProof.Rows PySem.Calls PySem.Spec
open PySem.Sem (wp)
set_option maxRecDepth 100000
set_option maxHeartbeats 4000000
namespace Mine
theorem slot_ba_set : Slot "bytearray" "__setitem__" "bytearray.__setitem__" :=
  .of (owner := "bytearray") (n := "__setitem__") (by rw [typeLookup_type, builtinLookup_eq_fast]; kernel_rfl) (by decide +kernel) (by decide +kernel) (by decide +kernel)
    (by first | exact .inl (by decide +kernel) | exact .inr (by decide +kernel)) (by rw [isSubtype_type]; kernel_rfl)
theorem entry_ba_set : entryFor table "bytearray.__setitem__" = some Builtin.«bytearray.__setitem__» := entryFor_of_tree (by kernel_rfl)
theorem args_ba_set (a b c : Value) : argsOk "bytearray.__setitem__" ⟨[a, b, c], []⟩ := by
  unfold argsOk; rw [signature?_of (id := "bytearray.__setitem__") (n := ['_', '_', 'm', 'e', 't', 'i', 't', 'e', 's', '_', '_']) (o := ['y', 'a', 'r', 'r', 'a', 'e', 't', 'y', 'b']) (by kernel_rfl) owner_ba]; kernel_rfl
theorem lookup_ba_buf : typeLookup (.type "bytearray") "__buffer__" = pure (some (.builtin "bytearray.__buffer__")) := by rw [typeLookup_type, builtinLookup_eq_fast]; kernel_rfl
theorem lookup_ba_bytes : typeLookup (.type "bytearray") "__bytes__" = pure none := by rw [typeLookup_type, builtinLookup_eq_fast]; kernel_rfl
theorem lookup_ba_index : typeLookup (.type "bytearray") "__index__" = pure none := by rw [typeLookup_type, builtinLookup_eq_fast]; kernel_rfl

section
variable {prog : Program} {w : World} {A : Around} {E : Value → Shared → Prop} {s : Shared}
theorem ba_setItem {x : Addr} {b : Array UInt8} {k : Int} {t u : Tok} {y : UInt8} {Q : Unit → Shared → Prop} (hx : s.heap.get? x = some (baObj b)) (h0 : 0 ≤ k) (hk : k < b.size) (hz : b.size ≤ 1000)
    (h : ∀ h', h'.get? x = some (baObj (b.setIfInBounds k.toNat y)) → Heap.SameBut x s.heap h' → Q () { s with heap := h' }) :
    wpAny (model prog w) A (setItem (.ref x) (.int k t) (.int y.toNat u)) Q E s := by
  have hT : s.TypeIs (.ref x) "bytearray" := ⟨_, hx, rfl⟩
  unfold setItem
  refine wpAny_holding ?_
  refine wpAny_bind (wpAny_sequenceKey hT (by decide) ?_)
  refine wpAny_bind (wpAny_callSpecial?_slot (name := Str.ofString "__setitem__") hT slot_ba_set
    (wpAny_call_entry slot_ba_set hT entry_ba_set ?_ (args_ba_set _ _ _)))
  unfold Builtin.«bytearray.__setitem__»
  have hTk : ∀ (s' : Shared) (k : Int) (t : Tok), s'.TypeIs (.int k t) "int" := fun _ _ _ => rfl
  have e2 : ∀ (k : Int) (t : Tok), asInt? (.int k t) = pure (some k) := fun _ _ => rfl
  have f1 : Builtin.Bytes.fitsIndex k = true := by simp [Builtin.Bytes.fitsIndex]; omega
  have hy : y.toNat < 256 := y.toNat_lt
  rw [if_neg (by simp)]
  refine wpAny_bind ?_
  unfold Builtin.Bytes.subscript?
  refine wpAny_bind (wpAny_specialOf (hTk _ _ _) lookup_int_index ?_)
  rw [if_neg (by simp)]
  unfold asIndex
  refine wpAny_bind (wpAny_bind (wpAny_of_eq (e2 _ _) (wpAny_pure ?_)))
  rw [if_neg (by simp [f1])]
  refine wpAny_pure ?_
  dsimp only
  refine wpAny_bind ?_
  unfold Builtin.Bytes.byteValue asIndex
  refine wpAny_bind (wpAny_bind (wpAny_of_eq (e2 _ _) (wpAny_pure ?_)))
  rw [if_neg (by simp; omega)]
  refine wpAny_pure ?_
  refine wpAny_bind (ba_payload hx ?_)
  have hs : seqIndex? k b.size = some k.toNat := by
    unfold seqIndex?
    simp only [if_neg (show ¬ k < 0 by omega)]
    rw [if_pos (by simp; omega)]
  simp only [hs]
  refine wpAny_bind (ba_write hx (by simp [sizeLine]; omega) fun h' hx' hs' => ?_)
  have ey : (((y.toNat : Nat) : Int).toNat).toUInt8 = y := by simp
  rw [ey] at hx'
  exact wpAny_pure ⟨_, rfl, wpAny_pure (h h' hx' hs')⟩

theorem ba_buffer {x : Addr} {b : Array UInt8} {id : String} {full : Bool} {Q : Option (Array UInt8) → Shared → Prop} (hx : s.heap.get? x = some (baObj b)) (h : Q (some b) s) :
    wpAny (model prog w) A (Builtin.Bytes.buffer? id (.ref x) full) Q E s := by
  have hT : s.TypeIs (.ref x) "bytearray" := ⟨_, hx, rfl⟩
  unfold Builtin.Bytes.buffer?
  refine wpAny_bind (wpAny_specialOf hT lookup_ba_buf ?_)
  refine wpAny_bind ?_
  unfold Builtin.Bytes.slotIsOwn
  refine wpAny_bind (wpAny_specialOf hT lookup_ba_buf ?_)
  have e1 : ("bytearray.__buffer__".endsWith ("." ++ "__buffer__")) = true := by decide +kernel
  have e2 : ("bytearray.__buffer__".dropRight ("__buffer__".length + 1)) = "bytearray" := by decide +kernel
  simp only [e1, e2, Bool.not_true, Bool.false_eq_true, if_false]
  refine wpAny_isInstance hT sub_ba ?_
  simp only [Bool.not_true, Bool.false_eq_true, if_false]
  refine wpAny_bind (wpAny_specialOf hT lookup_ba_buf ?_)
  refine wpAny_bind (own_release hx ?_)
  simp only [Bool.false_eq_true, if_false]
  exact wpAny_bind (ba_payload hx (wpAny_pure h))

theorem meets_bytes_ba (x : Addr) (b : Array UInt8) :
    Meets (Builtin.«bytes.__new__» ⟨[.type "bytes", .ref x], []⟩) (fun _ R s => s.heap.get? x = some (baObj b) ∧ b.size ≤ 1000 ∧ R (.ok (.ret (.bytes b s.toks))) { s with toks := s.toks + 1 }) := by
  refine Meets.of_wp fun prog w A R s hs => ?_
  obtain ⟨hx, hz, hq⟩ := hs
  have hT : s.TypeIs (.ref x) "bytearray" := ⟨_, hx, rfl⟩
  unfold Builtin.«bytes.__new__»
  refine wpAny_bind (m := isType _) (wpAny_pure ?_)
  simp only [Bool.not_true, Bool.false_eq_true, if_false]
  refine wpAny_bind (wpAny_of_eq F.bm_sub ?_)
  simp only [Bool.not_true, Bool.false_eq_true, if_false]
  refine wpAny_bind (wpAny_of_eq (F.bm_bind _) ?_)
  refine wpAny_bind (m := Builtin.Bytes.checkCodecArg _ _ _ _) (wpAny_pure ?_)
  refine wpAny_bind (m := Builtin.Bytes.checkCodecArg _ _ _ _) (wpAny_pure ?_)
  simp only [Option.isSome_none, Bool.false_eq_true, if_false]
  refine wpAny_bind (wpAny_specialOf hT lookup_ba_bytes ?_)
  dsimp only
  refine wpAny_bind (wpAny_bind (m := asStr? _) ?_)
  unfold asStr?
  refine wpAny_bind (wpAny_load hx (wpAny_pure (wpAny_pure ?_)))
  simp only [Option.isSome_none, Bool.false_eq_true, if_false]
  refine wpAny_bind (wpAny_specialOf hT lookup_ba_index ?_)
  simp only [Option.isNone_none, if_true]
  show wpAny _ _ (Builtin.Bytes.buffer? "bytes.__new__" (.ref x) true >>= _) _ _ _
  refine wpAny_bind (ba_buffer hx ?_)
  refine wpAny_bind (wpAny_rule ?_)
  refine wpAny_bind (wpAny_mkBytes ?_ (by simp [sizeLine]; omega))
  show wpAny _ _ (if (Value.type "bytes" == Value.type "bytes") = true then _ else _) _ _ _
  refine bm_if_true (by decide) ?_
  first
    | exact wpAny_pure ⟨_, rfl, hq⟩
    | exact wpAny_bind (wpAny_pure (wpAny_pure ⟨_, rfl, hq⟩))
theorem call_bytes_ba {x : Addr} {b : Array UInt8} {Q : Value → Shared → Prop} (hx : s.heap.get? x = some (baObj b)) (hz : b.size ≤ 1000) (h : Q (.bytes b s.toks) { s with toks := s.toks + 1 }) :
    wpAny (model prog w) A (call (.type "bytes") [.ref x]) Q E s :=
  callType_new F.bm_called (by decide) (F.bm_typeCall _) (F.bm_newCall _) (fun obj => F.args_object_init_2 obj _) F.bm_entry (meets_bytes_ba x b) ⟨hx, hz, rfl, h⟩
end
end Mine
end

/-! ## BL -/
section
open PySem PySem.W PyProof.Rows PySem.Calls PySem.Spec
open PySem.Sem (wp)
set_option maxRecDepth 100000
namespace Mine
section
variable {prog : Program} {w : World} {A : Around} {E : Value → Shared → Prop} {s : Shared} {h₀ : Heap} {L : Addr} {m : Str → Option Value} {news news' : List (Addr × Obj)}
theorem call_baK {n : Nat} {t : Tok} {Q : Value → Shared → Prop} (F : Fr h₀ L s.heap m) (N : News h₀ L s.heap news) (hn : n ≤ 1000)
    (h : ∀ x h', Fr h₀ L h' m → News h₀ L h' ((x, baObj (Array.replicate n 0)) :: news) → (∀ p ∈ news, p.1 < x) → Q (.ref x) { s with heap := h' }) :
    wpN (model prog w) A (call (.type "bytearray") [.int n t]) Q E s := by
  refine call_ba hn fun h' hx hsz hk => h _ h' (F.keeps hk) (fun p hp => ?_) fun p hp => Heap.lt_size (N p hp).1
  rcases List.mem_cons.mp hp with rfl | hp
  · refine ⟨hx, Nat.ne_of_gt F.ns.lt, ?_⟩
    cases e : h₀.get? s.heap.objs.size with
    | none => rfl
    | some o => exact absurd (Heap.lt_size (F.keep _ _ e)) (Nat.lt_irrefl _)
  · exact ⟨hk _ _ (N p hp).1, (N p hp).2⟩
theorem ba_setK {x : Addr} {b : Array UInt8} {k : Int} {t u : Tok} {y : UInt8} {Q : Unit → Shared → Prop} (F : Fr h₀ L s.heap m) (N : News h₀ L s.heap news) (U : Upd x (baObj b) (baObj (b.setIfInBounds k.toNat y)) news news')
    (h0 : 0 ≤ k) (hk : k < b.size) (hz : b.size ≤ 1000)
    (h : ∀ h', Fr h₀ L h' m → News h₀ L h' news' → Q () { s with heap := h' }) :
    wpAny (model prog w) A (setItem (.ref x) (.int k t) (.int y.toNat u)) Q E s := by
  obtain ⟨pre, post, rfl, rfl, a, c⟩ := U.split
  have z := N (x, baObj b) (List.mem_append.mpr (.inr (.head _)))
  exact ba_setItem z.1 h0 hk hz fun h' ho' hs => h h' (F.change hs z.2.1 z.2.2) (news_set N a c hs ho')
end
end Mine
end

/-! ## L2 -/
section
open PySem PySem.W PyProof.Rows PySem.Calls PySem.Spec
open PySem.Sem (wp)
set_option maxRecDepth 100000
namespace Mine
section
variable {prog : Program} {w : World} {A : Around} {E : Value → Shared → Prop} {s : Shared} {env : Env} {h₀ : Heap} {target : Expr} {body orelse : List Stmt} {Q : Flow → Shared → Prop} {m : Str → Option Value} {news : List (Addr × Obj)}

theorem off_of_map {news news₁ : List (Addr × Obj)} {I : Addr} (hm : news₁.map (·.1) = news.map (·.1)) (hI : ∀ p ∈ news, p.1 < I) : ∀ p ∈ news₁, p.1 < I := fun p hp => by
  have : p.1 ∈ news₁.map (·.1) := List.mem_map.mpr ⟨p, hp, rfl⟩
  rw [hm] at this
  obtain ⟨q, hq, e⟩ := List.mem_map.mp this
  exact e ▸ hI q hq

theorem iter_rangeE {r : Addr} {a b c : Int} {t u v : Tok} {n : Nat} (hh : A.handled = none) (hr : IsRange s.heap r a b c t u v) (hsm : Builtin.Range.small a b c = true) (hn : Builtin.Range.rangeSize a b c = (n : Int))
    (F : Fr h₀ env.locals s.heap m) (N : News h₀ env.locals s.heap news) (J : Nat → (Str → Option Value) → List (Addr × Obj) → Prop) (h0 : J 0 m news)
    (hgo : ∀ I v (s : Shared) (Q : Unit → Shared → Prop) (E : Value → Shared → Prop) x l, IsRangeIter s.heap I x l c → Q () s → wpAny (model prog w) A (letOwnedTupleGo target (.ref I) v) Q E s)
    (step : ∀ i t m₁ news₁ h₁ tk₁ I oI, i < n → J i m₁ news₁ → news₁.map (·.1) = news.map (·.1) → (∀ p ∈ news₁, p.1 < I) → Fr h₀ env.locals h₁ m₁ → News h₀ env.locals h₁ ((I, oI) :: news₁) →
      wpAny (model prog w) A (assign target env (.int (a + i * c) t)) (fun _ s₂ => wpAny (model prog w) A (execs body env) (TurnPost h₀ env.locals [(I, oI)] (fun m' news' => news'.map (·.1) = news.map (·.1) ∧ J (i + 1) m' news') Q s) E s₂) E { s with heap := h₁, toks := tk₁ })
    (hend : ∀ h' tk m' news', Fr h₀ env.locals h' m' → News h₀ env.locals h' news' → J n m' news' → news'.map (·.1) = news.map (·.1) → wpAny (model prog w) A (execs orelse env) Q E { s with heap := h', toks := tk })
    (hE : PassesOwn (model prog w) A env E) :
    wpAny (model prog w) A (pyIter (.ref r)) (fun it s₂ => LoopAt prog w A env target body orelse Q E it s₂) E s := by
  refine wpAny_pyIter_range hr hsm ?_
  have hIn : ∀ p ∈ news, p.1 < s.heap.objs.size := fun p hp => Heap.lt_size (N p hp).1
  have up : ∀ (o : Obj) b o', s.heap.get? b = some o' → (s.heap.push o).get? b = some o' := fun o b o' e => Heap.get?_push_of_some _ e
  refine loopE (keep := []) (KTurns.ofWalks (Walks.range hh s.heap.objs.size a c n) fun i v s Q E st q => hgo _ v s Q E _ _ st q) ?_ ?_ ?_ ?_
    (fun i m₁ news₁ => news₁.map (·.1) = news.map (·.1) ∧ J i m₁ news₁) ?_ ?_ (F.keeps (up _)) (N.grown (up _)) ⟨rfl, h0⟩ ?_ ?_ hE
  · intro h; exact absurd F.ns.lt ((List.mem_singleton.mp h) ▸ Nat.lt_irrefl _)
  · intro b hb
    rw [List.mem_singleton.mp hb]
    exact next_is_new F
  · intro b hb; exact .inl hb
  · intro i h st
    exact ⟨[(s.heap.objs.size, _)], rfl, fun p hp => by rw [List.mem_singleton.mp hp]; exact st⟩
  · intro i m₁ news₁ hj
    refine ⟨fun p hp => (nomatch hp), fun p hp hI => ?_⟩
    have e : p.1 = s.heap.objs.size := List.mem_singleton.mp hI
    exact absurd (off_of_map hj.1 hIn p hp) (by rw [e]; exact Nat.lt_irrefl _)
  · show IsRangeIter _ _ _ _ _
    rw [hn]
    simpa using Heap.get?_push_size _ rfl
  · intro i v m₁ news₁ h₁ tk₁ its hi hP hj hmap F₁ N₁
    obtain ⟨t, rfl⟩ := hP
    match its, hmap with
    | [(I, oI)], hmap =>
      have hI : I = s.heap.objs.size := by simpa using hmap
      exact step i t m₁ news₁ h₁ tk₁ I oI hi hj.2 hj.1 (hI ▸ off_of_map hj.1 hIn) F₁ N₁
    | [], hmap => exact absurd hmap (by simp)
    | _ :: _ :: _, hmap => exact absurd hmap (by simp)
  · intro h' tk m' news' F' N' hj
    exact hend h' tk m' news' F' N' hj.2 hj.1

theorem go_range {I : Addr} {v : Value} {x : Str} {p : Pos} {Q : Unit → Shared → Prop} (h : Q () s) : wpAny (model prog w) A (letOwnedTupleGo (.Name x p) (.ref I) v) Q E s := by
  unfold letOwnedTupleGo
  exact wpAny_pure h
end
end Mine
end

/-! ## L3 -/
section
open PySem PySem.W PyProof.Rows PySem.Calls PySem.Spec
open PySem.Sem (wp)
set_option maxRecDepth 100000
namespace Mine
abbrev liObj (l : Addr) (i : Nat) : Obj := { cls := .type "list_iterator", data := .fields #[.ref l, .int i 0] }
section
variable {prog : Program} {w : World} {A : Around} {E : Value → Shared → Prop} {s : Shared} {env : Env} {h₀ : Heap} {L : Addr} {target : Expr} {body : List Stmt} {m : Str → Option Value} {news : List (Addr × Obj)}
theorem call_iterL {l : Addr} {ys : List Value} {Q : Value → Shared → Prop} (F : Fr h₀ L s.heap m) (N : News h₀ L s.heap news) (hm : (l, LCg.lst ys) ∈ news)
    (h : ∀ I h', Fr h₀ L h' m → News h₀ L h' ((I, liObj l 0) :: news) → (∀ p ∈ news, p.1 < I) → Q (.ref I) { s with heap := h' }) :
    wpAny (model prog w) A (call (.builtin "iter") [.ref l]) Q E s := by
  refine call_function_entry (by decide +kernel) (by decide +kernel) kdk_entry_iter (kdk_args_iter _) ?_
  unfold Builtin.«iter»
  refine wpAny_bind (m := someArgs "iter" 1 2 _) (wpAny_of_eq (a := [Value.ref l]) (by first | rfl | kernel_rfl!) ?_)
  show wpAny _ _ (pyIter (.ref l) >>= _) _ _ _
  refine wpAny_bind (wpAny_pyIter_list (items := ys.toArray) ⟨_, (N _ hm).1, rfl, _, rfl⟩ ?_)
  exact wpAny_pure ⟨_, rfl, h _ _ (F.push _) (News.push F N _ rfl) (fun q hq => Heap.lt_size (N q hq).1)⟩

theorem iterN_list {Q : Flow → Shared → Prop} {I l : Addr} {ys : List Value} {ns : List Int} (hh : A.handled = none) (F : Fr h₀ env.locals s.heap m) (N : News h₀ env.locals s.heap ((I, liObj l 0) :: news)) (hI : ∀ p ∈ news, p.1 < I) (hl : (l, LCg.lst ys) ∈ news) (hi : IntsAre ys ns)
    (J : Nat → (Str → Option Value) → Prop) (h0 : J 0 m)
    (hgo : ∀ v (s : Shared) (Q : Unit → Shared → Prop) (E : Value → Shared → Prop), Q () s → wpAny (model prog w) A (letOwnedTupleGo target (.ref I) v) Q E s)
    (step : ∀ i n t m₁ h₁ tk₁ oI, ns[i]? = some n → J i m₁ → Fr h₀ env.locals h₁ m₁ → News h₀ env.locals h₁ ((I, oI) :: news) →
      wpAny (model prog w) A (assign target env (.int n t)) (fun _ s₂ => wpN (model prog w) A (execs body env) (TurnPost h₀ env.locals [(I, oI)] (fun m' news' => news' = news ∧ J (i + 1) m') Q s) E s₂) E { s with heap := h₁, toks := tk₁ })
    (hend : ∀ h' tk m', Fr h₀ env.locals h' m' → News h₀ env.locals h' news → J ns.length m' → Q .next { s with heap := h', toks := tk })
    (hE : PassesOwn (model prog w) A env E) :
    codeN (model prog w) A (.forLoop target (.ref I) body [] env) (fun r s' => match r with | .ok f => Q f s' | .error e => cameBackBy (model prog w) A env E e s') s := by
  have hlm := N _ (List.mem_cons_of_mem _ hl)
  have hIm := N _ (List.mem_cons_self ..)
  have hlI : l ≠ I := Nat.ne_of_lt (hI _ hl)
  have hlist : s.heap.IsList l ys.toArray := ⟨_, hlm.1, rfl, _, rfl⟩
  have hlen : ys.toArray.size = ns.length := by simp [hi.length]
  refine loopN (keep := [(l, LCg.lst ys)]) (n := ys.toArray.size) (KTurns.ofWalks (Walks.list hh I l hlI ys.toArray) fun i v s Q E st q => hgo v s Q E q) ?_ ?_ ?_ ?_
    (fun i m₁ news₁ => news₁ = news ∧ J i m₁) ?_ ⟨⟨_, hIm.1, rfl, rfl⟩, hlist⟩ F (fun p hp => N p (List.mem_cons_of_mem _ hp)) ⟨rfl, h0⟩ ?_ ?_ hE
  · intro h
    rcases List.mem_cons.mp h with e | h
    · exact hIm.2.1 e.symm
    · exact hlm.2.1 (List.mem_singleton.mp h).symm
  · intro b hb
    rw [List.mem_singleton.mp hb]
    exact hIm.2.2
  · intro b hb
    rcases List.mem_cons.mp hb with e | h
    · exact .inl (by simp [e])
    · exact .inr (.inr ⟨_, by rw [List.mem_singleton.mp h]; exact List.mem_singleton.mpr rfl⟩)
  · intro i h st
    obtain ⟨o, ho, _⟩ := st.1
    exact ⟨[(I, o)], rfl, fun p hp => by rw [List.mem_singleton.mp hp]; exact ho⟩
  · rintro i m₁ news₁ ⟨rfl, _⟩
    refine ⟨fun p hp => by rw [List.mem_singleton.mp hp]; exact hl, fun p hp hI' => ?_⟩
    have e : p.1 = I := List.mem_singleton.mp hI'
    exact absurd (hI p hp) (by rw [e]; exact Nat.lt_irrefl _)
  · rintro i v m₁ news₁ h₁ tk₁ its hin hP ⟨rfl, hj⟩ hmap F₁ N₁
    obtain ⟨n, t, rfl, hn⟩ := IntsAre.at hi i v (by simpa using hP)
    match its, hmap with
    | [(I', oI)], hmap =>
      have hI : I' = I := by simpa using hmap
      subst hI
      exact step i n t m₁ h₁ tk₁ oI hn hj F₁ N₁
    | [], hmap => exact absurd hmap (by simp)
    | _ :: _ :: _, hmap => exact absurd hmap (by simp)
  · rintro h' tk m' news' F' N' ⟨rfl, hj⟩
    exact hend h' tk m' F' N' (hlen ▸ hj)
theorem iterSelf {Q : Value → Shared → Prop} {I l : Addr} (N : News h₀ L s.heap ((I, liObj l 0) :: news)) (h : Q (.ref I) s) : wpAny (model prog w) A (pyIter (.ref I)) Q E s :=
  wpAny_pyIter_listiter (l := l) (i := 0) ⟨_, (N _ (List.mem_cons_self ..)).1, rfl, rfl⟩ h
end
end Mine
end

/-! ## L4 -/
section
open PySem PySem.W PyProof.Rows PySem.Calls PySem.Spec
open PySem.Sem (wp)
open AutoSeq1 (wpAny_loadPart')
set_option maxRecDepth 100000
set_option maxHeartbeats 1000000
namespace Mine
section
variable {prog : Program} {w : World} {A : Around} {E : Value → Shared → Prop} {s : Shared} {env : Env} {h₀ : Heap} {body orelse : List Stmt} {m : Str → Option Value} {news : List (Addr × Obj)}

theorem nextOf_tuple_item {it t : Addr} {i : Nat} {items : Array Value} {x : Value} {Q : Value → Shared → Prop} (hit : s.heap.IsTupleIter it t i) (ht : s.heap.IsTuple t items) (hx : items[i]? = some x)
    (hQ : ∀ h', h'.IsTupleIter it t (i + 1) → Heap.SameBut it s.heap h' → Q x { s with heap := h' }) :
    wpAny (model prog w) A (Builtin.SmallTypes.nextOf (.ref it)) Q E s := by
  obtain ⟨o, ho, hc, hd⟩ := id hit
  obtain ⟨ol, hol, _, nl, hdl⟩ := ht
  unfold Builtin.SmallTypes.nextOf
  refine wpAny_bind (wpAny_callSpecial?_slot (name := Str.ofString "__next__") hit.typeIs F.slot_tuple_iterator_next
    (wpAny_call_entry F.slot_tuple_iterator_next hit.typeIs F.entry_tuple_iterator_next ?_ (F.args_tuple_iterator_next_1 _)))
  show wpAny _ _ (field (.ref it) 0 >>= _) _ _ s
  refine wpAny_bind (wpAny_field ho hd (x := .ref t) rfl ?_)
  show wpAny _ _ (if (Value.ref t == Value.none) = true then _ else _) _ _ s
  rw [if_neg (show ¬ ((Value.ref t == Value.none) = true) from Bool.false_ne_true)]
  show wpAny _ _ (field (.ref it) 1 >>= _) _ _ s
  refine wpAny_bind (wpAny_field ho hd (x := .int i 0) rfl ?_)
  show wpAny _ _ (seqItems? (.ref t) >>= _) _ _ s
  refine wpAny_bind (wpAny_seqItems hol hdl ?_)
  simp only [Int.toNat_natCast, hx]
  refine wpAny_bind (wpAny_setField ho hd (by simp) (wpAny_pure ⟨x, rfl, wpAny_pure (hQ _ ?_ (Heap.SameBut.update ..))⟩))
  exact ⟨_, Heap.get?_update_self _ ho (Obj.isFreed_of_fields (Obj.data_mapFields hd _)), (Obj.cls_mapFields ..).trans hc, by
    rw [Obj.data_mapFields hd]; simp [rawInt]⟩

theorem nextOf_tuple_end {it t : Addr} {i : Nat} {items : Array Value} {Q : Value → Shared → Prop} (hh : A.handled = none) (hit : s.heap.IsTupleIter it t i) (ht : s.heap.IsTuple t items) (hx : items[i]? = none)
    (hE : ∀ h' e, Heap.ExtBut it s.heap h' → (∃ o, h'.get? e = some o ∧ o.cls = .type "StopIteration") → E (.ref e) { s with heap := h' }) :
    wpAny (model prog w) A (Builtin.SmallTypes.nextOf (.ref it)) Q E s := by
  obtain ⟨o, ho, hc, hd⟩ := id hit
  obtain ⟨ol, hol, _, nl, hdl⟩ := ht
  unfold Builtin.SmallTypes.nextOf
  refine wpAny_bind (wpAny_callSpecial?_slot (name := Str.ofString "__next__") hit.typeIs F.slot_tuple_iterator_next
    (wpAny_call_entry F.slot_tuple_iterator_next hit.typeIs F.entry_tuple_iterator_next ?_ (F.args_tuple_iterator_next_1 _)))
  show wpAny _ _ (field (.ref it) 0 >>= _) _ _ s
  refine wpAny_bind (wpAny_field ho hd (x := .ref t) rfl ?_)
  show wpAny _ _ (if (Value.ref t == Value.none) = true then _ else _) _ _ s
  rw [if_neg (show ¬ ((Value.ref t == Value.none) = true) from Bool.false_ne_true)]
  show wpAny _ _ (field (.ref it) 1 >>= _) _ _ s
  refine wpAny_bind (wpAny_field ho hd (x := .int i 0) rfl ?_)
  show wpAny _ _ (seqItems? (.ref t) >>= _) _ _ s
  refine wpAny_bind (wpAny_seqItems hol hdl ?_)
  simp only [Int.toNat_natCast, hx]
  refine wpAny_bind (wpAny_rule (wpAny_bind (wpAny_setField ho hd (by simp) ?_)))
  show wpAny _ _ (newExc (.type "StopIteration") [] >>= _) _ _ _
  refine wpAny_bind ?_
  simp only [newExc, newTuple]
  refine wpAny_bind (wpAny_newObj_type ?_ (by size_fits))
  refine wpAny_bind (m := firstArgMember _ _) (wpAny_of_eq (a := Value.none) (by first | rfl | (simp only [firstArgMember]; rfl)) ?_)
  refine wpAny_newObj_type ?_ (by size_fits)
  simp only [raiseNew]
  refine wpAny_bind (wpAny_handled ?_)
  first | rw [show A.in1.handled = none from hh] | rw [hh]
  refine wpAny_bind (wpAny_pure (wpAny_throw ?_))
  exact hE _ _ (((Heap.SameBut.update ..).extBut.push _).push _) ⟨_, Heap.get?_push_size _ rfl, rfl⟩
end
theorem tupIter_at {h h' : Heap} {a t i} (x : h.IsTupleIter a t i) (e : ∀ o, h.get? a = some o → h'.get? a = some o) : h'.IsTupleIter a t i := let ⟨o, ho, r⟩ := x; ⟨o, e _ ho, r⟩
theorem draws_tuple {prog : Program} {w : World} {A : Around} (hh : A.handled = none) (it l : Addr) (hne : l ≠ it) (items : Array Value) :
    Draws prog w A it [it, l] items.size (fun i v => items[i]? = some v) (fun i h => h.IsTupleIter it l i ∧ h.IsTuple l items) where
  live := fun _ _ st => let ⟨o, ho, _⟩ := st.1; ⟨o, ho⟩
  frame := fun _ _ _ st hk => ⟨tupIter_at st.1 fun o e => hk it (by simp) o e, st.2.at fun o e => hk l (by simp) o e⟩
  item := fun i s Q E hi st hQ => by
    refine nextOf_tuple_item st.1 st.2 (x := items[i]) (by simp [hi]) fun h' hit' hs' => ?_
    exact hQ _ h' s.toks (by simp [hi]) ⟨hit', st.2.extBut hs'.extBut hne⟩ hs'
  done := fun s Q E st hE => nextOf_tuple_end hh st.1 st.2 (by simp) hE

theorem meets_enumT (l : Addr) (items : Array Value) (n : Nat) (dct : Option Addr) (sl : Array (Option Value)) :
    Meets (Builtin.«enumerate.__new__» ⟨[.type "enumerate", .ref l], []⟩) (fun _ R s => s.heap.get? l = some { cls := .type "tuple", dict := dct, data := .seq items n, slots := sl } ∧
      R (.ok (.ret (.ref (s.heap.push { cls := .type "tuple_iterator", data := .fields #[.ref l, .int 0 0] }).objs.size)))
        { s with heap := (s.heap.push { cls := .type "tuple_iterator", data := .fields #[.ref l, .int 0 0] }).push { cls := .type "enumerate", data := .fields #[.none, .bool false, .ref s.heap.objs.size, rawInt 0, .none, .none] } }) :=
  .of_wp fun prog w A R s h => by
    obtain ⟨hp, g, d, tk, os⟩ := s; obtain ⟨hl, h⟩ := h
    have hsub := sub_enumerate
    have hL : Heap.IsTuple (Shared.heap ⟨hp, g, d, tk, os⟩) l items := ⟨_, hl, rfl, n, rfl⟩
    wp_walk using wpAny_loadPart' hl
    refine wpAny_stack_any fun st => wpAny_pure ?_
    split
    · rename_i c _ _ _ _ _
      cases (c == Value.type "enumerate")
      · wp_walk using wpAny_loadPart' hl, wpAny_pyIter_tuple hL
        exact ⟨_, rfl, h⟩
      · wp_walk using wpAny_loadPart' hl, wpAny_pyIter_tuple hL
        exact ⟨_, rfl, h⟩
    · wp_walk using wpAny_loadPart' hl, wpAny_pyIter_tuple hL
      exact ⟨_, rfl, h⟩
end Mine
end

/-! ## L5 -/
section
open PySem PySem.W PyProof.Rows PySem.Calls PySem.Spec
open PySem.Sem (wp)
set_option maxRecDepth 100000
namespace Mine
section
variable {prog : Program} {w : World} {A : Around} {E : Value → Shared → Prop} {s : Shared} {env : Env} {h₀ : Heap} {target : Expr} {body orelse : List Stmt} {Q : Flow → Shared → Prop} {m : Str → Option Value} {news : List (Addr × Obj)}

/-- over a tuple that stands in the ground -/
theorem iter_tupE {ax : Addr} {lo : Obj} {vs : List Value} {n : Nat} (hh : A.handled = none) (hg : h₀.get? ax = some lo) (hc : lo.cls = .type "tuple") (hd : lo.data = .seq vs.toArray n)
    (F : Fr h₀ env.locals s.heap m) (N : News h₀ env.locals s.heap news) (J : Nat → (Str → Option Value) → List (Addr × Obj) → Prop) (h0 : J 0 m news)
    (step : ∀ i v m₁ news₁ h₁ tk₁ I oI, vs[i]? = some v → J i m₁ news₁ → news₁.map (·.1) = news.map (·.1) → (∀ p ∈ news₁, p.1 < I) → Fr h₀ env.locals h₁ m₁ → News h₀ env.locals h₁ ((I, oI) :: news₁) →
      wpAny (model prog w) A (assign target env v) (fun _ s₂ => wpAny (model prog w) A (execs body env) (TurnPost h₀ env.locals [(I, oI)] (fun m' news' => news'.map (·.1) = news.map (·.1) ∧ J (i + 1) m' news') Q s) E s₂) E { s with heap := h₁, toks := tk₁ })
    (hend : ∀ h' tk m' news', Fr h₀ env.locals h' m' → News h₀ env.locals h' news' → J vs.length m' news' → news'.map (·.1) = news.map (·.1) → wpAny (model prog w) A (execs orelse env) Q E { s with heap := h', toks := tk })
    (hE : PassesOwn (model prog w) A env E) :
    wpAny (model prog w) A (pyIter (.ref ax)) (fun it s₂ => LoopAt prog w A env target body orelse Q E it s₂) E s := by
  have hax : s.heap.get? ax = some lo := F.keep _ _ hg
  have hl : s.heap.IsTuple ax vs.toArray := ⟨lo, hax, hc, n, hd⟩
  have hlt : ax < s.heap.objs.size := Heap.lt_size hax
  have hne : ax ≠ s.heap.objs.size := Nat.ne_of_lt hlt
  have hIn : ∀ p ∈ news, p.1 < s.heap.objs.size := fun p hp => Heap.lt_size (N p hp).1
  have up : ∀ (o : Obj) b o', s.heap.get? b = some o' → (s.heap.push o).get? b = some o' := fun o b o' e => Heap.get?_push_of_some _ e
  refine wpAny_pyIter_tuple hl ?_
  refine loopE (keep := []) (KTurns.ofWalks (Walks.tuple hh s.heap.objs.size ax hne vs.toArray) fun i v s Q E st q => letGo_tupleiter st.1 q) ?_ ?_ ?_ ?_
    (fun i m₁ news₁ => news₁.map (·.1) = news.map (·.1) ∧ J i m₁ news₁) ?_ ?_ (F.keeps (up _)) (N.grown (up _)) ⟨rfl, h0⟩ ?_ ?_ hE
  · intro hI
    rcases List.mem_cons.mp hI with e | hI
    · exact absurd F.ns.lt (e ▸ Nat.lt_irrefl _)
    · have e : env.locals = ax := List.mem_singleton.mp hI
      exact absurd (Heap.lt_size hg) (Nat.not_lt.mpr (e ▸ F.above))
  · intro b hb
    rw [List.mem_singleton.mp hb]
    exact next_is_new F
  · intro b hb
    rcases List.mem_cons.mp hb with e | h
    · exact .inl (by simp [e])
    · exact .inr (.inl ⟨lo, by rw [List.mem_singleton.mp h]; exact hg⟩)
  · intro i h st
    obtain ⟨o, ho, _⟩ := st.1
    exact ⟨[(s.heap.objs.size, o)], rfl, fun p hp => by rw [List.mem_singleton.mp hp]; exact ho⟩
  · intro i m₁ news₁ hj
    refine ⟨fun p hp => (nomatch hp), fun p hp hI => ?_⟩
    have e : p.1 = s.heap.objs.size := List.mem_singleton.mp hI
    exact absurd (off_of_map hj.1 hIn p hp) (by rw [e]; exact Nat.lt_irrefl _)
  · exact ⟨⟨_, Heap.get?_push_size _ rfl, rfl, rfl⟩, hl.at fun o e => Heap.get?_push_of_some _ e⟩
  · intro i v m₁ news₁ h₁ tk₁ its hi hP hj hmap F₁ N₁
    match its, hmap with
    | [(I, oI)], hmap =>
      have hI : I = s.heap.objs.size := by simpa using hmap
      exact step i v m₁ news₁ h₁ tk₁ I oI (by simpa using hP) hj.2 hj.1 (hI ▸ off_of_map hj.1 hIn) F₁ N₁
    | [], hmap => exact absurd hmap (by simp)
    | _ :: _ :: _, hmap => exact absurd hmap (by simp)
  · intro h' tk m' news' F' N' hj
    have e : vs.toArray.size = vs.length := by simp
    exact hend h' tk m' news' F' N' (e ▸ hj.2) hj.1

/-- over enumerate(..) of a tuple that stands in the ground -/
theorem iter_enumE {elts : List Expr} {kk : Nat} {pos : Pos} {ax : Addr} {lo : Obj} {vs : List Value} {n : Nat} (hh : A.handled = none) (hg : h₀.get? ax = some lo) (hc : lo.cls = .type "tuple") (hd : lo.data = .seq vs.toArray n)
    (F : Fr h₀ env.locals s.heap m) (N : News h₀ env.locals s.heap news) (J : Nat → (Str → Option Value) → List (Addr × Obj) → Prop) (h0 : J 0 m news)
    (step : ∀ (i : Nat) v T t m₁ news₁ h₁ tk₁ I I' oI oI', vs[i]? = some v → IsTup h₁ T #[.int (i : Int) t, v] → J i m₁ news₁ → news₁.map (·.1) = news.map (·.1) → (∀ p ∈ news₁, p.1 < I') → I' < I → Fr h₀ env.locals h₁ m₁ → News h₀ env.locals h₁ ((I, oI) :: (I', oI') :: news₁) →
      wpAny (model prog w) A (assign (.Tuple elts kk pos) env (.ref T)) (fun _ s₂ => wpAny (model prog w) A (execs body env) (TurnPost h₀ env.locals [(I, oI), (I', oI')] (fun m' news' => news'.map (·.1) = news.map (·.1) ∧ J (i + 1) m' news') Q s) E s₂) E { s with heap := h₁, toks := tk₁ })
    (hend : ∀ h' tk m' news', Fr h₀ env.locals h' m' → News h₀ env.locals h' news' → J vs.length m' news' → news'.map (·.1) = news.map (·.1) → wpAny (model prog w) A (execs orelse env) Q E { s with heap := h', toks := tk })
    (hE : PassesOwn (model prog w) A env E) :
    wpAny (model prog w) A (call (.type "enumerate") [.ref ax]) (fun xv s₁ => wpAny (model prog w) A (pyIter xv) (fun it s₂ => LoopAt prog w A env (.Tuple elts kk pos) body orelse Q E it s₂) E s₁) E s := by
  have hax : s.heap.get? ax = some lo := F.keep _ _ hg
  obtain ⟨c, dct, dt, sl⟩ := lo
  replace hc : c = .type "tuple" := hc
  replace hd : dt = .seq vs.toArray n := hd
  subst hc hd
  have hl : s.heap.IsTuple ax vs.toArray := ⟨_, hax, rfl, n, rfl⟩
  have hlt : ax < s.heap.objs.size := Heap.lt_size hax
  have hLs : env.locals < s.heap.objs.size := F.ns.lt
  have hIn : ∀ p ∈ news, p.1 < s.heap.objs.size := fun p hp => Heap.lt_size (N p hp).1
  refine callType_new PySem.F.called_enumerate (by decide) (PySem.F.typeCall_enumerate_1 _) (PySem.F.newCall_enumerate_1 _) (fun obj => PySem.F.args_object_init_2 obj _) PySem.F.entry_enumerate_new
    (meets_enumT ax vs.toArray n dct sl) ⟨hax, ?_⟩
  have hz : (s.heap.push { cls := .type "tuple_iterator", data := .fields #[.ref ax, .int 0 0] }).objs.size = s.heap.objs.size + 1 := Heap.size_push ..
  show _ ∧ _
  rw [hz]
  generalize hh' : (s.heap.push { cls := .type "tuple_iterator", data := .fields #[.ref ax, .int 0 0] }).push { cls := .type "enumerate", data := .fields #[.none, .bool false, .ref s.heap.objs.size, rawInt 0, .none, .none] } = h'
  have he : IsEnum h' (s.heap.objs.size + 1) s.heap.objs.size 0 .none := by
    have := Heap.get?_push_size (s.heap.push { cls := .type "tuple_iterator", data := .fields #[.ref ax, .int 0 0] })
      (o := { cls := .type "enumerate", data := .fields #[.none, .bool false, .ref s.heap.objs.size, rawInt 0, .none, .none] }) rfl
    rw [hz, hh'] at this; exact this
  have hk : ∀ b o, s.heap.get? b = some o → h'.get? b = some o := fun b o e => hh' ▸ Heap.get?_push_of_some _ (Heap.get?_push_of_some _ e)
  have hI : h'.IsTupleIter s.heap.objs.size ax 0 := hh' ▸ ⟨_, Heap.get?_push_of_some _ (Heap.get?_push_size _ rfl), rfl, rfl⟩
  refine ⟨⟨_, he, rfl⟩, ?_⟩
  refine wpAny_pyIter_enum he ?_
  have D := draws_tuple (prog := prog) (w := w) (A := A.in1) hh s.heap.objs.size ax (Nat.ne_of_lt hlt) vs.toArray
  have W := (WalksT.enumerateD (A := A) D (s.heap.objs.size + 1) (Nat.succ_ne_self _) (by
    intro q
    rcases List.mem_cons.mp q with e | q
    · exact Nat.succ_ne_self _ e
    · exact ktu_ne 1 hlt (List.mem_singleton.mp q).symm) (by simp)).toU
  refine loopE (keep := []) (KTurns.ofWalksU W) ?_ ?_ ?_ ?_ (fun i m₁ news₁ => news₁.map (·.1) = news.map (·.1) ∧ J i m₁ news₁) ?_ ?_ (F.keeps hk) (N.grown hk) ⟨rfl, h0⟩ ?_ ?_ hE
  · intro hI'
    have hb' : env.locals = s.heap.objs.size + 1 ∨ env.locals = s.heap.objs.size ∨ env.locals = ax := by simpa using hI'
    rcases hb' with e | e | e
    · exact ktu_ne 1 hLs e
    · exact Nat.ne_of_lt hLs e
    · exact absurd (Heap.lt_size hg) (Nat.not_lt.mpr (e ▸ F.above))
  · intro b hb
    have hb' : b = s.heap.objs.size + 1 ∨ b = s.heap.objs.size := by simpa using hb
    rcases hb' with rfl | rfl
    · exact ktu_new F (Nat.le_add_right _ _)
    · exact ktu_new F (Nat.le_refl _)
  · intro b hb
    have hb' : b = s.heap.objs.size + 1 ∨ b = s.heap.objs.size ∨ b = ax := by simpa using hb
    rcases hb' with rfl | rfl | rfl
    · exact .inl (by simp)
    · exact .inl (by simp)
    · exact .inr (.inl ⟨_, hg⟩)
  · rintro i h ⟨⟨old, he'⟩, ⟨oi, hoi, _⟩, _⟩
    have he2 : ∃ oe, h.get? (s.heap.objs.size + 1) = some oe := ⟨_, he'⟩
    obtain ⟨oe, he3⟩ := he2
    refine ⟨[(s.heap.objs.size + 1, oe), (s.heap.objs.size, oi)], rfl, fun p hp => ?_⟩
    rcases List.mem_cons.mp hp with rfl | hp
    · exact he3
    · rw [List.mem_singleton.mp hp]; exact hoi
  · intro i m₁ news₁ hj
    refine ⟨fun p hp => (nomatch hp), fun p hp hI' => ?_⟩
    have hlp := off_of_map hj.1 hIn p hp
    have hb' : p.1 = s.heap.objs.size + 1 ∨ p.1 = s.heap.objs.size := by simpa using hI'
    rcases hb' with e | e
    · exact ktu_ne 1 hlp e
    · exact Nat.ne_of_lt hlp e
  · exact ⟨⟨.none, he⟩, hI, hl.at fun o e => hk ax o e⟩
  · intro i v m₁ news₁ h₁ tk₁ its hi hP hj hmap F₁ N₁
    obtain ⟨T, vals, rfl, ⟨t, x, hx, rfl⟩, hT⟩ := hP
    match its, hmap with
    | [(I, oI), (I', oI')], hmap =>
      have hI2 : I = s.heap.objs.size + 1 ∧ I' = s.heap.objs.size := by simpa using hmap
      obtain ⟨rfl, rfl⟩ := hI2
      exact step i x T t m₁ news₁ h₁ tk₁ _ _ oI oI' (by simpa using hx) hT hj.2 hj.1 (off_of_map hj.1 hIn) (Nat.lt_succ_self _) F₁ N₁
    | [], hmap => exact absurd hmap (by simp)
    | [_], hmap => exact absurd hmap (by simp)
    | _ :: _ :: _ :: _, hmap => exact absurd hmap (by simp)
  · intro h' tk m' news' F' N' hj
    have e : vs.toArray.size = vs.length := by simp
    exact hend h' tk m' news' F' N' (e ▸ hj.2) hj.1
end
end Mine
end

/-! ## L6 -/
section
open PySem PySem.W PyProof.Rows PySem.Calls PySem.Spec
open PySem.Sem (wp)
set_option maxRecDepth 100000
namespace Mine
section
variable {prog : Program} {w : World} {A : Around} {E : Value → Shared → Prop} {s : Shared} {env : Env} {h₀ : Heap} {target : Expr} {body orelse : List Stmt} {Q : Flow → Shared → Prop} {m : Str → Option Value} {news : List (Addr × Obj)}
/-- over a list of the ledger that the turns leave alone, as all the ledger -/
theorem iter_listE {l : Addr} {lo : Obj} {vs : List Value} {n : Nat} (hh : A.handled = none) (hm : (l, lo) ∈ news) (hc : lo.cls = .type "list") (hd : lo.data = .seq vs.toArray n)
    (F : Fr h₀ env.locals s.heap m) (N : News h₀ env.locals s.heap news) (J : Nat → (Str → Option Value) → Prop) (h0 : J 0 m)
    (step : ∀ i v m₁ h₁ tk₁ I oI, vs[i]? = some v → J i m₁ → (∀ p ∈ news, p.1 < I) → Fr h₀ env.locals h₁ m₁ → News h₀ env.locals h₁ ((I, oI) :: news) →
      wpAny (model prog w) A (assign target env v) (fun _ s₂ => wpAny (model prog w) A (execs body env) (TurnPost h₀ env.locals [(I, oI)] (fun m' news' => news' = news ∧ J (i + 1) m') Q s) E s₂) E { s with heap := h₁, toks := tk₁ })
    (hend : ∀ h' tk m', Fr h₀ env.locals h' m' → News h₀ env.locals h' news → J vs.length m' → wpAny (model prog w) A (execs orelse env) Q E { s with heap := h', toks := tk })
    (hE : PassesOwn (model prog w) A env E) :
    wpAny (model prog w) A (pyIter (.ref l)) (fun it s₂ => LoopAt prog w A env target body orelse Q E it s₂) E s := by
  have hax := N _ hm
  have hl : s.heap.IsList l vs.toArray := ⟨lo, hax.1, hc, n, hd⟩
  have hlt : l < s.heap.objs.size := Heap.lt_size hax.1
  have hne : l ≠ s.heap.objs.size := Nat.ne_of_lt hlt
  have hIn : ∀ p ∈ news, p.1 < s.heap.objs.size := fun p hp => Heap.lt_size (N p hp).1
  have up : ∀ (o : Obj) b o', s.heap.get? b = some o' → (s.heap.push o).get? b = some o' := fun o b o' e => Heap.get?_push_of_some _ e
  refine wpAny_pyIter_list hl ?_
  refine loopE (keep := [(l, lo)]) (KTurns.ofWalks (Walks.list hh s.heap.objs.size l hne vs.toArray) fun i v s Q E st q => letGo_listiter st.1 q) ?_ ?_ ?_ ?_
    (fun i m₁ news₁ => news₁ = news ∧ J i m₁) ?_ ?_ (F.keeps (up _)) (N.grown (up _)) ⟨rfl, h0⟩ ?_ ?_ hE
  · intro hI
    rcases List.mem_cons.mp hI with e | hI
    · exact absurd F.ns.lt (e ▸ Nat.lt_irrefl _)
    · exact hax.2.1 (List.mem_singleton.mp hI).symm
  · intro b hb
    rw [List.mem_singleton.mp hb]
    exact next_is_new F
  · intro b hb
    rcases List.mem_cons.mp hb with e | h
    · exact .inl (by simp [e])
    · exact .inr (.inr ⟨lo, by rw [List.mem_singleton.mp h]; exact List.mem_singleton.mpr rfl⟩)
  · intro i h st
    obtain ⟨o, ho, _⟩ := st.1
    exact ⟨[(s.heap.objs.size, o)], rfl, fun p hp => by rw [List.mem_singleton.mp hp]; exact ho⟩
  · rintro i m₁ news₁ ⟨rfl, _⟩
    refine ⟨fun p hp => by rw [List.mem_singleton.mp hp]; exact hm, fun p hp hI => ?_⟩
    have e : p.1 = s.heap.objs.size := List.mem_singleton.mp hI
    exact absurd (hIn p hp) (by rw [e]; exact Nat.lt_irrefl _)
  · exact ⟨⟨_, Heap.get?_push_size _ rfl, rfl, rfl⟩, hl.at fun o e => Heap.get?_push_of_some _ e⟩
  · rintro i v m₁ news₁ h₁ tk₁ its hi hP ⟨rfl, hj⟩ hmap F₁ N₁
    match its, hmap with
    | [(I, oI)], hmap =>
      have hI : I = s.heap.objs.size := by simpa using hmap
      exact step i v m₁ h₁ tk₁ I oI (by simpa using hP) hj (hI ▸ hIn) F₁ N₁
    | [], hmap => exact absurd hmap (by simp)
    | _ :: _ :: _, hmap => exact absurd hmap (by simp)
  · rintro h' tk m' news' F' N' ⟨rfl, hj⟩
    have e : vs.toArray.size = vs.length := by simp
    exact hend h' tk m' F' N' (e ▸ hj)
end
end Mine
end

/-! ## M1 -/
section
open PySem
namespace Mine
/-- each run of `w` octets turned about -/
def swapL (l : List UInt8) (w : Nat) : List UInt8 := List.ofFn (n := l.length) fun i => l.getD (i.val / w * w + (w - 1 - i.val % w)) 0
/-- the array after `i` runs, and `j` octets of the next -/
def partA (l : List UInt8) (w i j : Nat) : Array UInt8 := (List.ofFn (n := l.length) fun k => if k.val < i * w ∨ (k.val < i * w + w ∧ i * w + w ≤ k.val + j) then l.getD (k.val / w * w + (w - 1 - k.val % w)) 0 else 0).toArray
theorem swapL_length (l : List UInt8) (w : Nat) : (swapL l w).length = l.length := by simp [swapL]
theorem partA_size (l : List UInt8) (w i j : Nat) : (partA l w i j).size = l.length := by simp [partA]
theorem part_start (l : List UInt8) (w : Nat) : Array.replicate l.toArray.size (0 : UInt8) = partA l w 0 0 := by
  apply Array.ext
  · simp [partA]
  · intro k h1 h2
    simp [partA]
    intro h
    omega
theorem part_set (l : List UInt8) {w i j : Nat} (hw : w = 1 ∨ w = 2 ∨ w = 5 ∨ w = 10) (hj : j < w) (hl : i * w + w ≤ l.length) :
    (partA l w i j).setIfInBounds (i * w + w - 1 - j) (l.getD (i * w + j) 0) = partA l w i (j + 1) := by
  apply Array.ext
  · simp [partA]
  · intro k h1 h2
    have hk : k < l.length := by simpa [partA] using h2
    rw [Array.getElem_setIfInBounds (by simpa [partA] using hk)]
    by_cases e : i * w + w - 1 - j = k
    · rw [if_pos e]
      have c2 : k / w * w + (w - 1 - k % w) = i * w + j := by rcases hw with rfl | rfl | rfl | rfl <;> omega
      simp only [partA, List.getElem_toArray, List.getElem_ofFn]
      rw [if_pos (by omega), c2]
    · rw [if_neg e]
      simp only [partA, List.getElem_toArray, List.getElem_ofFn]
      by_cases c : k < i * w ∨ (k < i * w + w ∧ i * w + w ≤ k + j)
      · rw [if_pos c, if_pos (by omega)]
      · rw [if_neg c, if_neg (by omega)]
theorem part_run (l : List UInt8) (w i : Nat) : partA l w i w = partA l w (i + 1) 0 := by
  apply Array.ext
  · simp [partA]
  · intro k h1 h2
    simp only [partA, List.getElem_toArray, List.getElem_ofFn]
    have e : (i + 1) * w = i * w + w := Nat.succ_mul i w
    by_cases c : k < i * w + w
    · rw [if_pos (by omega), if_pos (by rw [e]; exact .inl c)]
    · rw [if_neg (by omega), if_neg (by rw [e]; omega)]
theorem part_end (l : List UInt8) {w : Nat} (hw : w = 1 ∨ w = 2 ∨ w = 5 ∨ w = 10) (h10 : l.length % 10 = 0) : partA l w (l.length / w) 0 = (swapL l w).toArray := by
  apply Array.ext
  · simp [partA, swapL]
  · intro k h1 h2
    have hk : k < l.length := by simpa [swapL] using h2
    simp only [partA, swapL, List.getElem_toArray, List.getElem_ofFn]
    rw [if_pos]
    left
    rcases hw with rfl | rfl | rfl | rfl <;> omega
end Mine
end

/-! ## B2 -/
section
open PySem PySem.W PyProof.Rows PySem.Calls PySem.Spec
set_option maxRecDepth 100000
namespace Mine
noncomputable abbrev PP : Program := PySem.Challenge.rw_oc0049_01.row.prog
noncomputable abbrev LS : List Str := looseW hd.view_39 [Str.ofString "_initial_missing", Str.ofString "reduce", Str.ofString "_filemode_table"] ++ List.map (fun x => x.name) (recsOf hd.view_39) ++ List.map (fun x => x.fst) (litsOf hd.view_39) ++ List.map (fun x => x.name) (clssOf hd.view_39 (looseW hd.view_39 [Str.ofString "_initial_missing", Str.ofString "reduce", Str.ofString "_filemode_table"]))
theorem form1 {m : Str → Option Value} {a : Str} {va : Value} (ha : m a = some va) : m = fun y => if y = a then some va else m y := by
  funext y
  by_cases h1 : y = a
  · rw [if_pos h1, h1, ha]
  · rw [if_neg h1]
theorem form2 {m : Str → Option Value} {a b : Str} {va vb : Value} (ha : m a = some va) (hb : m b = some vb) : m = fun y => if y = a then some va else if y = b then some vb else m y := by
  funext y
  by_cases h1 : y = a
  · rw [if_pos h1, h1, ha]
  · rw [if_neg h1, ← congrFun (form1 hb) y]
theorem form3 {m : Str → Option Value} {a b c : Str} {va vb vc : Value} (ha : m a = some va) (hb : m b = some vb) (hc : m c = some vc) :
    m = fun y => if y = a then some va else if y = b then some vb else if y = c then some vc else m y := by
  funext y
  by_cases h1 : y = a
  · rw [if_pos h1, h1, ha]
  · rw [if_neg h1, ← congrFun (form2 hb hc) y]
theorem form4 {m : Str → Option Value} {a b c d : Str} {va vb vc vd : Value} (ha : m a = some va) (hb : m b = some vb) (hc : m c = some vc) (hd : m d = some vd) :
    m = fun y => if y = a then some va else if y = b then some vb else if y = c then some vc else if y = d then some vd else m y := by
  funext y
  by_cases h1 : y = a
  · rw [if_pos h1, h1, ha]
  · rw [if_neg h1, ← congrFun (form3 hb hc hd) y]
/-- a contract: what a call of the def at `f` hands back -/
def Ctr (w : World) (f : Addr) (news : List (Addr × Obj)) (room : Nat) (pre : Prop) (vs : List Value) (R : Tok → Value) : Prop :=
  ∀ (mean : ExcName → Option Value) (mg mb : Str → Option Value) (dp un : Nat) (gd : Option (List Code)) (cn : Str) (cs : Scope) (a : Addr) (ccd : Value) (cl : List (Str × Addr)) (outer : List Env) (A₀ : Around) (base h₀ : Heap) (L : Addr) (m : Str → Option Value) (s : Shared) (Q E : Value → Shared → Prop),
    Below A₀ base outer h₀ → Fr h₀ L s.heap m → (hd.heap_39 w.params).In h₀ → News h₀ L s.heap news → Top topProg LS mean mg mb h₀ → cs.kind = .function →
    pre → dp + room < recursionLimit → un + 8 * room < cLine → CbRet h₀ L m news s Q R →
      wpAny (model PP w) (ktrTop dp un gd cn cs L a ccd cl outer) (call (.ref f) vs) Q E s
/-- the same over clean stacks -/
def CtrN (w : World) (f : Addr) (news : List (Addr × Obj)) (room : Nat) (pre : Prop) (vs : List Value) (R : Tok → Value) : Prop :=
  ∀ (mean : ExcName → Option Value) (mg mb : Str → Option Value) (dp un : Nat) (gd : Option (List Code)) (cn : Str) (cs : Scope) (a : Addr) (ccd : Value) (cl : List (Str × Addr)) (outer : List Env) (A₀ : Around) (base h₀ : Heap) (L : Addr) (m : Str → Option Value) (s : Shared) (Q E : Value → Shared → Prop),
    Below A₀ base outer h₀ → Fr h₀ L s.heap m → (hd.heap_39 w.params).In h₀ → News h₀ L s.heap news → Top topProg LS mean mg mb h₀ → cs.kind = .function →
    pre → dp + room < recursionLimit → un + 8 * room < cLine → CbRet h₀ L m news s Q R →
      wpN (model PP w) (ktrTop dp un gd cn cs L a ccd cl outer) (call (.ref f) vs) Q E s
theorem ctr_use {w : World} {f : Addr} {news : List (Addr × Obj)} {room : Nat} {pre : Prop} {vs : List Value} {R : Tok → Value} (C : Ctr w f news room pre vs R)
    {mean : ExcName → Option Value} {mg mb : Str → Option Value} {dp un : Nat} {gd : Option (List Code)} {cn : Str} {cs : Scope} {a : Addr} {ccd : Value} {cl : List (Str × Addr)} {outer : List Env} {A₀ : Around} {base h₀ : Heap} {L : Addr} {m : Str → Option Value} {s : Shared} {Q E : Value → Shared → Prop}
    (B : Below A₀ base outer h₀) (F : Fr h₀ L s.heap m) (X : (hd.heap_39 w.params).In h₀) (N : News h₀ L s.heap news) (T : Top topProg LS mean mg mb h₀) (hk : cs.kind = .function)
    (hp : pre) (hdp : dp + room < recursionLimit) (hun : un + 8 * room < cLine) (hret : CbRet h₀ L m news s Q R) : wpAny (model PP w) (ktrTop dp un gd cn cs L a ccd cl outer) (call (.ref f) vs) Q E s :=
  C mean mg mb dp un gd cn cs a ccd cl outer A₀ base h₀ L m s Q E B F X N T hk hp hdp hun hret
end Mine
end

/-! ## CB -/
section
open PySem PySem.W PyProof.Rows PySem.Calls PySem.Spec
set_option maxRecDepth 100000
set_option maxHeartbeats 8000000
namespace Mine
theorem rsize {n w : Nat} (hw : w = 1 ∨ w = 2 ∨ w = 5 ∨ w = 10) (h10 : n % 10 = 0) : Builtin.Range.rangeSize 0 (n : Int) (w : Int) = ((n / w : Nat) : Int) := by
  unfold Builtin.Range.rangeSize
  rw [if_pos (by omega)]
  rcases hw with rfl | rfl | rfl | rfl <;> (split <;> omega)
theorem rfits (k : Int) (h1 : 0 ≤ k) (h2 : k ≤ 1000) : Builtin.Range.rangeFitsLong k = true := by
  unfold Builtin.Range.rangeFitsLong
  rw [Bool.and_eq_true]
  exact ⟨decide_eq_true (by omega), decide_eq_true (by omega)⟩
theorem rsmall {n w : Nat} (hw : w = 1 ∨ w = 2 ∨ w = 5 ∨ w = 10) (h10 : n % 10 = 0) (hn : n ≤ 50) : Builtin.Range.small 0 (n : Int) (w : Int) = true := by
  unfold Builtin.Range.small
  have : n / w ≤ n := Nat.div_le_self _ _
  rw [rsize hw h10, rfits 0 (by omega) (by omega), rfits n (by omega) (by omega), rfits w (by omega) (by omega), rfits ((n / w : Nat) : Int) (Int.natCast_nonneg _) (Int.ofNat_le.mpr (Nat.le_trans this (Nat.le_trans hn (by decide)))), if_pos (show (w : Int) > 0 by omega), rfits (n + (w - 1)) (by omega) (by omega)]
  simp
theorem rsize1 {w : Nat} : Builtin.Range.rangeSize 0 (w : Int) 1 = (w : Int) := by
  unfold Builtin.Range.rangeSize
  rw [if_pos (by omega)]
  split <;> omega
theorem rsmall1 {w : Nat} (hn : w ≤ 50) : Builtin.Range.small 0 (w : Int) 1 = true := by
  unfold Builtin.Range.small
  rw [rsize1, rfits 0 (by omega) (by omega), rfits w (by omega) (by omega), rfits 1 (by omega) (by omega), if_pos (by decide), rfits (w + (1 - 1)) (by omega) (by omega)]
  simp
local macro_rules | `(tactic| walk_at "exec For Name Call cons nil") => `(tactic| (with_unfolding_all refine For_own ?_))
theorem byteswap_c (w : World) (news : List (Addr × Obj)) (b : List UInt8) (wd : Nat) (t t' : Tok) :
   CtrN w 21 news 1 ((wd = 1 ∨ wd = 2 ∨ wd = 5 ∨ wd = 10) ∧ b.length % 10 = 0 ∧ b.length ≤ 50) [.bytes b.toArray t, .int wd t'] (fun u => .bytes (swapL b wd).toArray u) := by
  unfold CtrN PP LS
  k_fill
  w_top off
  dsimp only [CbRet]
  intro mean mg mb dp un gd cn cs a ccd cl outer A₀ base h₀ L m s Q E B F X N T hk hpre hdp hun hret
  obtain ⟨hw, hb10, hb50⟩ := hpre
  refine wpN_call ?_
  k_dflt (refine' code_defN ?k1 ?k2 ?k3 ?k4 ?k5 ?kA ?kF ?kK ?k6 ?k7 ?k8 ?k9 ?kB ?_ ?c2 ?c3 ?c4 ?c5; (case kA => exact rfl); (case kF => exact rfl); (case kK => assumption); (case k1 => k_asm); (case k2 => k_asm); (case k3 => k_asm); (case k4 => k_asm); (case k5 => k_asm); (case k6 => k_is); (case k7 => k_is); (case k8 => ktr_room); (case k9 => exact BindsTo.of_eq rfl); (case c5 => decide); (case kB => exact locs rfl); (case c2 => exact rfl); (case c3 => exact rfl); (case c4 => exact rfl); k_whole; intro g' L' h' FG' F' N' B' X' T'; (try dsimp only); (try k_lift B'))
  generalize s.toks + List.length _ = tk0
  replace F' : Fr g' L' h' (fun y => List.lookup y [(Str.ofString "width", Value.int wd t'), (Str.ofString "data", Value.bytes b.toArray t)]) := F'
  refine wpN_execs_cons (wpN_Assign_Name (wpN_Call ?_))
  k_steps
  refine callWith_typeN ?_
  k_steps
  refine call_baK (by k_asm) (by k_asm) (by simpa using Nat.le_trans hb50 (by decide)) ?_
  intro x h1 F1 N1 l1
  have hoff : OwnOff news [x] := fun p hp b hb => by rw [List.mem_singleton.mp hb]; exact Nat.ne_of_lt (l1 p hp)
  k_steps
  refine wpN_of_any ?_
  k_steps
  refine iter_rangeE (n := b.length / wd) (hh := rfl) (hr := by assumption) (hsm := by simpa using rsmall hw hb10 hb50) (hn := by simpa using rsize hw hb10) (F := by assumption) (N := by assumption)
    (J := fun i m₁ news₁ => (m₁ (Str.ofString "swapped_data") = some (.ref x) ∧ m₁ (Str.ofString "width") = some (.int wd t') ∧ m₁ (Str.ofString "data") = some (.bytes b.toArray t)) ∧ news₁ = (x, baObj (partA b wd i 0)) :: news)
    (h0 := ⟨⟨rfl, rfl, rfl⟩, by rw [part_start]⟩) (hgo := fun _ _ _ _ _ _ _ _ h => go_range h) ?step ?fin (by passes_own)
  case step =>
    rintro i ti m₁ news₁ h₁ tk₁ I oI hi ⟨⟨e1, e2, e3⟩, rfl⟩ hmap hlt F₁ N₁
    rw [form3 e1 e2 e3] at F₁
    have hp0 : (0 : Int) ≤ 0 + (i : Int) * (wd : Int) := by rcases hw with rfl | rfl | rfl | rfl <;> omega
    have hp1 : (0 : Int) + (i : Int) * (wd : Int) + wd ≤ b.length := by rcases hw with rfl | rfl | rfl | rfl <;> omega
    have hp2 : ((0 : Int) + (i : Int) * (wd : Int)).toNat = i * wd := by rcases hw with rfl | rfl | rfl | rfl <;> omega
    generalize (0 : Int) + (i : Int) * (wd : Int) = pq at hp0 hp1 hp2 ⊢
    k_steps
    refine iter_rangeE (n := wd) (hh := rfl) (hr := by assumption) (hsm := rsmall1 (by omega)) (hn := rsize1) (F := by assumption) (N := by assumption)
      (J := fun j m₂ news₂ => (m₂ (Str.ofString "swapped_data") = some (.ref x) ∧ m₂ (Str.ofString "width") = some (.int wd t') ∧ m₂ (Str.ofString "data") = some (.bytes b.toArray t)) ∧ m₂ (Str.ofString "i") = some (.int pq ti) ∧ news₂ = (I, oI) :: (x, baObj (partA b wd i j)) :: news)
      (h0 := ⟨⟨rfl, rfl, rfl⟩, rfl, rfl⟩) (hgo := fun _ _ _ _ _ _ _ _ h => go_range h) ?step2 ?fin2 (by passes_own)
    case step2 =>
      rintro j tj m₂ news₂ h₂ tk₂ I₂ oI₂ hj ⟨⟨e1, e2, e3⟩, e4, rfl⟩ hmap₂ hlt₂ F₂ N₂
      rw [form4 e1 e2 e3 e4] at F₂
      have hq : (0 : Int) + (j : Int) * 1 = (j : Int) := by omega
      rw [hq]
      k_steps
      dsimp only
      have hs : (partA b wd i j).setIfInBounds (pq + wd - 1 - j).toNat (b.getD (pq + j).toNat 0) = partA b wd i (j + 1) := by
        have e1 : (pq + wd - 1 - j).toNat = i * wd + wd - 1 - j := by omega
        have e2 : (pq + j).toNat = i * wd + j := by omega
        rw [e1, e2]
        exact part_set b hw hj (by omega)
      refine ba_setK (y := b.getD (pq + j).toNat 0) (F := by assumption) (N := by assumption)
        (U := .tail (Nat.ne_of_gt (hlt₂ (x, _) (.tail _ (.head _)))) (.tail (Nat.ne_of_gt (hlt (x, _) (.head _))) (.head fun p hp => Nat.ne_of_lt (l1 p hp)))) (by omega) (by rw [partA_size]; omega) (by rw [partA_size]; omega) ?_
      intro h3 F3 N3
      rw [hs] at N3
      refine wpAny_execs_nil ?_
      exact ⟨h3, _, _, (I, oI) :: (x, baObj (partA b wd i (j + 1))) :: news, rfl, F3, N3, rfl, ⟨rfl, rfl, rfl⟩, rfl, rfl⟩
    case fin2 =>
      rintro h3 tk3 m3 news3 F3 N3 ⟨⟨e1, e2, e3⟩, e4, rfl⟩ hmap3
      rw [part_run] at N3
      refine wpAny_execs_nil (wpAny_execs_nil ?_)
      exact ⟨h3, _, _, (x, baObj (partA b wd (i + 1) 0)) :: news, rfl, F3, N3, rfl, ⟨e1, e2, e3⟩, rfl⟩
  case fin =>
    rintro h3 tk3 m3 news3 F3 N3 ⟨⟨e1, e2, e3⟩, rfl⟩ hmap3
    rw [part_end b hw hb10] at N3
    rw [form3 e1 e2 e3] at F3
    refine wpAny_execs_nil ?_
    dsimp only
    k_steps
    refine call_bytes_ba (b := (swapL b wd).toArray) (N3 _ (.head _)).1 (by simp [swapL_length]; omega) ?_
    exact ⟨_, _, news, F3, fun p hp => N3 p (.tail _ hp), fun kF kN => hret _ _ _ kF kN⟩
end Mine
end

/-! ## CR -/
section
open PySem PySem.W PyProof.Rows PySem.Calls PySem.Spec
set_option maxRecDepth 100000
set_option maxHeartbeats 8000000
namespace Mine
abbrev okPre (b : List UInt8) (wd : Nat) : Prop := (wd = 1 ∨ wd = 2 ∨ wd = 5 ∨ wd = 10) ∧ b.length % 10 = 0 ∧ b.length ≤ 50

abbrev lamScope : Scope := { kind := .function, names := [(Str.ofString "told", .local), (Str.ofString "width", .local), (Str.ofString "_byteswap", .globalImplicit)], isGenerator := false, isCoroutine := false }
abbrev lamParams (p1 p2 : Pos) : Arguments := { posonlyargs := [], args := [{ arg := Str.ofString "told", annotation := none, pos := p1 }, { arg := Str.ofString "width", annotation := none, pos := p2 }], vararg := none, kwonlyargs := [], kw_defaults := [], kwarg := none, defaults := [] }
abbrev lamBody (q1 q2 q3 q4 : Pos) : Expr := .Call (.Name (Str.ofString "_byteswap") q1) [.Name (Str.ofString "told") q2, .Name (Str.ofString "width") q3] [] q4

theorem lambda_c (w : World) (news : List (Addr × Obj)) (f c' : Addr) (name qual : Str) (p1 p2 q1 q2 q3 q4 : Pos) (pm ctv : Value) (oc : Obj) (vs : Array Value) (tq : Tok)
    (hf : (f, kla_obj name qual (lamParams p1 p2) (lamBody q1 q2 q3 q4) lamScope [] pm c' ctv) ∈ news) (hc : (c', oc) ∈ news) (hd : oc.data = .fields vs) (hq : vs[1]? = some (.str qual tq))
    (b : List UInt8) (wd : Nat) (t t' : Tok) :
    CtrN w f news 2 (okPre b wd) [.bytes b.toArray t, .int wd t'] (fun u => .bytes (swapL b wd).toArray u) := by
  have C := byteswap_c w news b wd t t'
  unfold CtrN PP LS at C ⊢
  k_fill
  w_top off
  dsimp only [CbRet] at C ⊢
  intro mean mg mb dp un gd cn cs a ccd cl outer A₀ base h₀ L m s Q E B F X N T hk hpre hdp hun hret
  refine wpN_call ?_
  k_dflt (refine' code_lamN ?k1 ?k2 ?k3 ?k4 ?k5 ?kA ?kF ?kK ?k6 ?k7 ?k8 ?k9 ?kB ?_ ?c2 ?c3 ?c4 ?c5; (case kA => exact rfl); (case kF => exact rfl); (case kK => assumption); (case k1 => k_asm); (case k2 => k_asm); (case k3 => k_asm); (case k4 => k_asm); (case k5 => k_asm); (case k6 => exact hf); (case k7 => exact codeRec_news (by k_asm) hc hd hq); (case k8 => ktr_room); (case k9 => exact rfl); (case c5 => decide); (case kB => exact locs rfl); (case c2 => exact rfl); (case c3 => exact rfl); (case c4 => exact rfl); k_whole; intro g' L' h' FG' F' N' B' X' T'; (try dsimp only); (try k_lift B'))
  generalize s.toks + List.length _ = tk0
  refine wpN_Call ?_
  k_steps
  refine callWith_KN (by k_asm) (by k_is) ?_
  k_steps
  refine C mean mg mb (dp + 1) (un + 3) gd qual lamScope f (.ref c') [] _ _ _ g' L' _ _ _ _ B' F' X' N' T' rfl hpre (by omega) (by omega) ?_
  intro u h3 tk3 F3 N3
  exact ⟨_, _, news, F3, N3, fun kF kN => hret _ _ _ kF kN⟩

abbrev FnOk (w : World) (f : Addr) (news : List (Addr × Obj)) : Prop :=
  (∃ fo fd, (f, fo) ∈ news ∧ fo.data = .func fd) ∧ ∀ news', (∀ p ∈ news, p ∈ news') → ∀ b wd t t', CtrN w f news' 2 (okPre b wd) [.bytes b.toArray t, .int wd t'] (fun u => .bytes (swapL b wd).toArray u)

theorem reduce_c (w : World) (news : List (Addr × Obj)) (f l : Addr) (ys : List Value) (ns : List Int) (b : List UInt8) (t : Tok)
    (hf : FnOk w f news) (hl : (l, LCg.lst ys) ∈ news) (hi : IntsAre ys ns) :
    CtrN w 30 news 3 (b.length % 10 = 0 ∧ b.length ≤ 50 ∧ ∀ n ∈ ns, n = 1 ∨ n = 2 ∨ n = 5 ∨ n = 10) [.ref f, .ref l, .bytes b.toArray t] (fun u => .bytes (ns.foldl (fun x n => swapL x n.toNat) b).toArray u) := by
  obtain ⟨⟨fo, fd, hfm, hfd⟩, C⟩ := hf
  unfold CtrN PP LS at C ⊢
  k_fill
  w_top off
  dsimp only [CbRet] at C ⊢
  intro mean mg mb dp un gd cn cs a ccd cl outer A₀ base h₀ L m s Q E B F X N T hk hpre hdp hun hret
  refine wpN_call ?_
  k_dflt (refine' code_defN ?k1 ?k2 ?k3 ?k4 ?k5 ?kA ?kF ?kK ?k6 ?k7 ?k8 ?k9 ?kB ?_ ?c2 ?c3 ?c4 ?c5; (case kA => exact rfl); (case kF => exact rfl); (case kK => assumption); (case k1 => k_asm); (case k2 => k_asm); (case k3 => k_asm); (case k4 => k_asm); (case k5 => k_asm); (case k6 => k_is); (case k7 => k_is); (case k8 => ktr_room); (case k9 => first | exact BindsTo.of_eq rfl | exact binds_K (by k_in) rfl (by k_is) rfl rfl rfl); (case c5 => decide); (case kB => exact locs rfl); (case c2 => exact rfl); (case c3 => exact rfl); (case c4 => exact rfl); k_whole; intro g' L' h' FG' F' N' B' X' T'; (try dsimp only); (try k_lift B'))
  generalize s.toks + List.length _ = tk0
  replace F' : Fr g' L' h' (fun y => List.lookup y [(Str.ofString "initial", Value.bytes b.toArray t), (Str.ofString "sequence", Value.ref l), (Str.ofString "function", Value.ref f)]) := F'
  refine wpN_execs_cons (wpN_of_any ?_)
  k_steps
  refine call_iterL (by k_asm) (by k_asm) hl ?_
  intro I h1 F1 N1 hI
  k_steps
  refine wpN_execs_cons (wpN_of_any ?_)
  k_steps
  refine wpAny_of_eq (a := .bool false) rfl ?_
  k_steps
  refine wpN_execs_cons (wpN_For ?_)
  k_steps
  refine iterSelf (by assumption) ?_
  obtain ⟨hb10, hb50, hns⟩ := hpre
  refine iterN_list (ns := ns) (ys := ys) (l := l) (news := news) (hh := rfl) (F := by assumption) (N := by assumption) hI hl hi
    (J := fun i m₁ => (m₁ (Str.ofString "it") = some (.ref I) ∧ m₁ (Str.ofString "function") = some (.ref f)) ∧ ∃ b' u, m₁ (Str.ofString "value") = some (.bytes b'.toArray u) ∧ b'.length = b.length ∧ b' = (ns.take i).foldl (fun x n => swapL x n.toNat) b)
    ⟨⟨rfl, rfl⟩, b, t, rfl, rfl, rfl⟩ (fun _ _ _ _ h => go_range h) ?step ?fin (by passes_own)
  case step =>
    rintro i n tn m₁ h₁ tk₁ oI hn ⟨⟨e1, e2⟩, b', u, e3, hlen, hb'⟩ F₁ N₁
    rw [form3 e1 e2 e3] at F₁
    have hn1 := hns n (List.mem_of_getElem? hn)
    obtain ⟨k, rfl⟩ : ∃ k : Nat, n = (k : Int) := ⟨n.toNat, by omega⟩
    have hok : okPre b' k := ⟨by omega, by omega, by omega⟩
    have hfold : (ns.take (i + 1)).foldl (fun x n => swapL x n.toNat) b = swapL b' k := by
      rw [List.take_add_one, hn, List.foldl_append, ← hb']
      rfl
    k_steps
    refine wpN_execs_cons (wpN_Assign_Name (wpN_Call ?_))
    k_steps
    refine callWith_FN ?_
    k_steps
    · (rename News _ _ _ _ => nn); exact (nn _ (List.mem_cons_of_mem _ hfm)).1
    refine C ((I, oI) :: news) (fun p hp => .tail _ hp) b' k u tn mean mg mb (dp + 1) (un + 3) gd _ _ _ _ _ _ _ _ g' L' _ _ _ _ B' (by assumption) X' (by assumption) T' rfl hok (by omega) (by omega) ?_
    intro u2 h3 tk3 F3 N3
    k_steps
    refine wpN_of_any (wpAny_execs_nil ?_)
    exact ⟨_, _, _, news, rfl, by assumption, by assumption, rfl, ⟨rfl, rfl⟩, swapL b' k, u2, rfl, by rw [swapL_length]; exact hlen, hfold.symm⟩
  case fin =>
    rintro h3 tk3 m3 F3 N3 ⟨⟨e1, e2⟩, b', u, e3, hlen, hb'⟩
    rw [form3 e1 e2 e3] at F3
    rw [List.take_length] at hb'
    subst hb'
    refine wpN_of_any ?_
    k_steps
    exact hret _ _ _ (by assumption) (by assumption)
end Mine
end

/-! ## CL -/
section
open PySem PySem.W PyProof.Rows PySem.Calls PySem.Spec
set_option maxRecDepth 100000
set_option maxHeartbeats 8000000
namespace Mine
/-- where the sign at `place` comes from -/
def fromZ (place inner : Int) (ns : List Int) : Int :=
  (if (ns.count 10 : Int) % 2 = 1 then 10 / inner - 1 - place / inner else place / inner) * inner + (if ((ns.count inner : Int) + (ns.count 10 : Int)) % 2 = 1 then inner - 1 - place % inner else place % inner)
section
variable {prog : Program} {w : World} {A : Around} {E : Value → Shared → Prop} {s : Shared} {h₀ : Heap} {L : Addr} {news : List (Addr × Obj)}
theorem my_count_method {l : Addr} {ys : List Value} {pl : Sem Bool} {Q : Value × List Value → Shared → Prop} (N : News h₀ L s.heap news) (hm : (l, LCg.lst ys) ∈ news) (h : Q (.builtin "list.count", [.ref l]) s) :
    wpAny (model prog w) A (getMethod (.ref l) (Str.ofString "count") pl) Q E s :=
  getMethod_builtin ⟨_, (N _ hm).1, rfl⟩ PySem.F.plainAttrs_list PySem.F.slot_list_count PySem.F.type_list_count (fun a e => by cases e; exact ⟨_, (N _ hm).1, rfl⟩) h
theorem my_count {l : Addr} {ys : List Value} {ns : List Int} {k : Int} {t : Tok} {Q : Value → Shared → Prop} (N : News h₀ L s.heap news) (hm : (l, LCg.lst ys) ∈ news) (hi : IntsAre ys ns)
    (h : Q (.int (ns.count k : Nat) s.toks) { s with toks := s.toks + 1 }) : wpAny (model prog w) A (call (.builtin "list.count") [.ref l, .int k t]) Q E s :=
  count_list_ints ⟨_, (N _ hm).1, rfl, _, rfl⟩ hi h
end
local macro_rules | `(tactic| walk_at "getMethod ref") => `(tactic| ((with_reducible show wpAny _ _ (getMethod (Value.ref _) (PySem.Str.ofString "count") _) _ _ _); k_dflt (refine my_count_method (by k_asm) (by repeat (first | assumption | refine List.Mem.tail _ ?_)) ?_)))
local macro_rules | `(tactic| walk_at "call builtin:list.count") => `(tactic| (k_dflt (refine my_count (by k_asm) (by repeat (first | assumption | refine List.Mem.tail _ ?_)) (by assumption) ?_)))
theorem from_c (w : World) (news : List (Addr × Obj)) (l : Addr) (ys : List Value) (ns : List Int) (place inner : Int) (t t' : Tok)
    (hl : (l, LCg.lst ys) ∈ news) (hi : IntsAre ys ns) :
    Ctr w 91 news 1 ((inner = 2 ∨ inner = 5) ∧ 0 ≤ place ∧ place < 10 ∧ ns.length ≤ 1000) [.int place t, .int inner t', .ref l] (fun u => .int (fromZ place inner ns) u) := by
  unfold Ctr PP LS
  k_fill
  w_top off
  dsimp only [CbRet]
  intro mean mg mb dp un gd cn cs a ccd cl outer A₀ base h₀ L m s Q E B F X N T hk hpre hdp hun hret
  obtain ⟨hin, hp0, hp10, hlen⟩ := hpre
  refine wpAny_call ?_
  k_dflt (refine' code_def ?k1 ?k2 ?k3 ?k4 ?k5 ?kA ?kF ?kK ?k6 ?k7 ?k8 ?k9 ?kB ?_ ?c2 ?c3 ?c4 ?c5; (case kA => exact rfl); (case kF => exact rfl); (case kK => assumption); (case k1 => k_asm); (case k2 => k_asm); (case k3 => k_asm); (case k4 => k_asm); (case k5 => k_asm); (case k6 => k_is); (case k7 => k_is); (case k8 => ktr_room); (case k9 => exact BindsTo.of_eq rfl); (case c5 => decide); (case kB => exact locs rfl); (case c2 => exact rfl); (case c3 => exact rfl); (case c4 => exact rfl); k_whole; intro g' L' h' FG' F' N' B' X' T'; (try dsimp only); (try k_lift B'))
  generalize s.toks + List.length _ = tk0
  replace F' : Fr g' L' h' (fun y => List.lookup y [(Str.ofString "widths", Value.ref l), (Str.ofString "inner", Value.int inner t'), (Str.ofString "place", Value.int place t)]) := F'
  have hc1 : ns.count inner ≤ ns.length := List.count_le_length
  have hc2 : ns.count 10 ≤ ns.length := List.count_le_length
  k_steps
  all_goals (
    refine cb_retI (x := fromZ place inner ns) hret ?_ (by assumption) (cb_drop (by assumption) (fun p hp => by repeat (first | assumption | refine List.Mem.tail _ ?_)))
    unfold fromZ
    simp only [decide_eq_true_eq, decide_eq_false_iff_not, Int.fmod_eq_emod_of_nonneg _ (show (0 : Int) ≤ 2 by decide)] at *
    rcases hin with rfl | rfl
    all_goals simp only [Int.fmod_eq_emod_of_nonneg _ (show (0 : Int) ≤ 2 by decide), Int.fmod_eq_emod_of_nonneg _ (show (0 : Int) ≤ 5 by decide), Int.fdiv_eq_ediv_of_nonneg _ (show (0 : Int) ≤ 2 by decide), Int.fdiv_eq_ediv_of_nonneg _ (show (0 : Int) ≤ 5 by decide)] at *
    all_goals ((repeat' split) <;> first | rfl | omega))
end Mine
end

/-! ## CF -/
section
open PySem PySem.W PyProof.Rows PySem.Calls PySem.Spec
set_option maxRecDepth 100000
set_option maxHeartbeats 8000000
namespace Mine
/-- the table of signs: where each row stands, and its entries -/
def tabs : List (Addr × List (Addr × Int × String)) :=
  [(45, [(38, 40960, "l"), (39, 49152, "s"), (40, 32768, "-"), (41, 24576, "b"), (42, 16384, "d"), (43, 8192, "c"), (44, 4096, "p")]),
   (47, [(46, 256, "r")]), (49, [(48, 128, "w")]), (53, [(50, 2112, "s"), (51, 2048, "S"), (52, 64, "x")]),
   (55, [(54, 32, "r")]), (57, [(56, 16, "w")]), (61, [(58, 1032, "s"), (59, 1024, "S"), (60, 8, "x")]),
   (63, [(62, 4, "r")]), (65, [(64, 2, "w")]), (69, [(66, 513, "t"), (67, 512, "T"), (68, 1, "x")])]
abbrev tupObj (vs : List Value) : Obj := { cls := .type "tuple", dict := none, data := .seq vs.toArray 0, slots := #[] }
theorem tab_top (P : Params) : (hd.heap_39 P).lookup 70 = some (tupObj (tabs.map fun r => .ref r.1)) := rfl
theorem tab_rows (P : Params) : ∀ r ∈ tabs, (hd.heap_39 P).lookup r.1 = some (tupObj (r.2.map fun e => .ref e.1)) := by
  unfold tabs
  repeat (first | exact List.forall_mem_nil _ | refine List.forall_mem_cons.mpr ⟨rfl, ?_⟩)
theorem tab_cells (P : Params) : ∀ r ∈ tabs, ∀ e ∈ r.2, ∃ tb tc, (hd.heap_39 P).lookup e.1 = some (tupObj [.int e.2.1 tb, .str (Str.ofString e.2.2) tc]) := by
  unfold tabs
  repeat (first | exact List.forall_mem_nil _ | refine List.forall_mem_cons.mpr ⟨?_, ?_⟩ | exact ⟨_, _, rfl⟩)
/-- does the entry's bit tell, in the row `i`? -/
def tells (i : Nat) (mode bit : Int) : Bool := if i = 0 then Builtin.bitAnd mode 61440 == bit else Builtin.bitAnd mode bit == bit
def sign (i : Nat) (mode : Int) (es : List (Addr × Int × String)) : Str := match es.find? (fun e => tells i mode e.2.1) with
  | some e => Str.ofString e.2.2
  | none => Str.ofString (if i = 0 then "?" else "-")
def chrs (mode : Int) (k : Nat) : List Str := (tabs.take k).zipIdx.map fun r => sign r.2 mode r.1.2
theorem chrs_succ {mode : Int} {k : Nat} {r : Addr × List (Addr × Int × String)} (h : tabs[k]? = some r) : chrs mode (k + 1) = chrs mode k ++ [sign k mode r.2] := by
  have hk : k < tabs.length := by
    rcases Nat.lt_or_ge k tabs.length with q | q
    · exact q
    · rw [List.getElem?_eq_none q] at h; cases h
  unfold chrs
  rw [List.take_add_one, h, List.zipIdx_append, List.map_append]
  simp [Nat.min_eq_left (Nat.le_of_lt hk)]
theorem sign_hit {i : Nat} {mode : Int} {es : List (Addr × Int × String)} {j : Nat} {e : Addr × Int × String} (hj : es[j]? = some e) (hno : ∀ x ∈ es.take j, tells i mode x.2.1 = false) (ht : tells i mode e.2.1 = true) : sign i mode es = Str.ofString e.2.2 := by
  have : es.find? (fun e => tells i mode e.2.1) = some e := by
    rw [← List.take_append_drop j es, List.find?_append, List.find?_eq_none.mpr (by intro x hx; rw [hno x hx]; decide)]
    have hlt : j < es.length := by
      rcases Nat.lt_or_ge j es.length with q | q
      · exact q
      · rw [List.getElem?_eq_none q] at hj; cases hj
    rw [List.drop_eq_getElem_cons hlt]
    rw [List.getElem?_eq_getElem hlt] at hj
    rw [Option.some.inj hj, List.find?_cons_of_pos (by simpa using ht)]
    rfl
  unfold sign
  rw [this]
theorem sign_miss {i : Nat} {mode : Int} {es : List (Addr × Int × String)} (hno : ∀ x ∈ es, tells i mode x.2.1 = false) : sign i mode es = Str.ofString (if i = 0 then "?" else "-") := by
  unfold sign
  rw [List.find?_eq_none.mpr (by intro x hx; rw [hno x hx]; decide)]
theorem tab_ones : ∀ r ∈ tabs, ∀ e ∈ r.2, (Str.ofString e.2.2).length = 1 := by decide
theorem sign_one (i : Nat) (mode : Int) {r : Addr × List (Addr × Int × String)} (hr : r ∈ tabs) : (sign i mode r.2).length = 1 := by
  unfold sign
  split
  · rename_i e he
    exact tab_ones r hr e (List.mem_of_find?_eq_some he)
  · split <;> rfl
theorem chrs_one {mode : Int} {k : Nat} : ∀ y ∈ chrs mode k, y.length = 1 := by
  intro y hy
  obtain ⟨r, hr, rfl⟩ := List.mem_map.mp hy
  have h1 : r.1 ∈ tabs.take k := by
    obtain ⟨a, b⟩ := r
    exact (List.mem_zipIdx' hr).2 ▸ List.getElem_mem _
  exact sign_one _ _ (List.mem_of_mem_take h1)
theorem sum_ones : ∀ {ys : List Str}, (∀ y ∈ ys, y.length = 1) → (ys.map (·.length)).sum = ys.length
  | [], _ => rfl
  | y :: r, h => by
    rw [List.map_cons, List.sum_cons, h y (.head _), sum_ones fun z hz => h z (.tail _ hz), List.length_cons]; omega

theorem sifmt_c (w : World) (news : List (Addr × Obj)) (mode : Int) (t : Tok) : Ctr w 37 news 1 True [.int mode t] (fun u => .int (Builtin.bitAnd mode 61440) u) := by
  unfold Ctr PP LS
  k_fill
  w_top off
  dsimp only [CbRet]
  intro mean mg mb dp un gd cn cs a ccd cl outer A₀ base h₀ L m s Q E B F X N T hk hpre hdp hun hret
  refine wpAny_call ?_
  k_dflt (refine' code_def ?k1 ?k2 ?k3 ?k4 ?k5 ?kA ?kF ?kK ?k6 ?k7 ?k8 ?k9 ?kB ?_ ?c2 ?c3 ?c4 ?c5; (case kA => exact rfl); (case kF => exact rfl); (case kK => assumption); (case k1 => k_asm); (case k2 => k_asm); (case k3 => k_asm); (case k4 => k_asm); (case k5 => k_asm); (case k6 => k_is); (case k7 => k_is); (case k8 => ktr_room); (case k9 => exact BindsTo.of_eq rfl); (case c5 => decide); (case kB => exact locs rfl); (case c2 => exact rfl); (case c3 => exact rfl); (case c4 => exact rfl); k_whole; intro g' L' h' FG' F' N' B' X' T'; (try dsimp only); (try k_lift B'))
  k_steps
  all_goals exact cb_retI hret rfl (by assumption) (by assumption)
local macro_rules | `(tactic| walk_at "call ref") => `(tactic| (k_dflt (refine ctr_use (sifmt_c _ _ _ _) (by k_asm) (by k_asm) (by k_asm) (by k_asm) (by k_asm) rfl trivial (by ktr_room) (by ktr_units) ?_); intro u9 h9 tk9 F9 N9))
local macro_rules | `(tactic| walk_at "exec For Tuple Call cons nil") => `(tactic| (with_unfolding_all refine For_own ?_))
local macro_rules | `(tactic| walk_at "exec For Tuple Name cons cons") => `(tactic| (with_unfolding_all refine For_own ?_))
theorem filemode_c (w : World) (news : List (Addr × Obj)) (mode : Int) (t : Tok) :
    Ctr w 77 news 2 (0 ≤ mode ∧ mode < 65536) [.int mode t] (fun u => .str (Txt.join (Str.ofString "") (chrs mode 10)) u) := by
  unfold Ctr PP LS
  k_fill
  w_top off
  dsimp only [CbRet]
  intro mean mg mb dp un gd cn cs a ccd cl outer A₀ base h₀ L m s Q E B F X N T hk hpre hdp hun hret
  obtain ⟨hm0, hm1⟩ := hpre
  refine wpAny_call ?_
  k_dflt (refine' code_def ?k1 ?k2 ?k3 ?k4 ?k5 ?kA ?kF ?kK ?k6 ?k7 ?k8 ?k9 ?kB ?_ ?c2 ?c3 ?c4 ?c5; (case kA => exact rfl); (case kF => exact rfl); (case kK => assumption); (case k1 => k_asm); (case k2 => k_asm); (case k3 => k_asm); (case k4 => k_asm); (case k5 => k_asm); (case k6 => k_is); (case k7 => k_is); (case k8 => ktr_room); (case k9 => exact BindsTo.of_eq rfl); (case c5 => decide); (case kB => exact locs rfl); (case c2 => exact rfl); (case c3 => exact rfl); (case c4 => exact rfl); k_whole; intro g' L' h' FG' F' N' B' X' T'; (try dsimp only); (try k_lift B'))
  generalize s.toks + List.length _ = tk0
  replace F' : Fr g' L' h' (fun y => List.lookup y [(Str.ofString "mode", Value.int mode t)]) := F'
  k_steps
  rename_i lp hx1 l1 hx2 F2 N2
  have hoff : OwnOff news [lp] := fun p hp b hb => by rw [List.mem_singleton.mp hb]; exact Nat.ne_of_lt (l1 p hp)
  refine iter_enumE (vs := tabs.map fun r => .ref r.1) (hh := rfl) (hg := X' _ _ (tab_top _)) (hc := rfl) (hd := rfl) (F := F2) (N := N2)
    (J := fun i m₁ news₁ => (m₁ (Str.ofString "perm") = some (.ref lp) ∧ m₁ (Str.ofString "mode") = some (.int mode t)) ∧ ∃ items : List Value, news₁ = (lp, W.listOf items.toArray i) :: news ∧ StrsAre items (chrs mode i))
    (h0 := ⟨⟨rfl, rfl⟩, [], rfl, .nil⟩) ?step ?fin (by passes_own)
  case step =>
    rintro i v T ti m₁ news₁ h₁ tk₁ I I' oI oI' hv hT ⟨⟨e1, e2⟩, items, rfl, hS⟩ hmap hlt hII F₁ N₁
    obtain ⟨r, hr1, rfl⟩ : ∃ r, tabs[i]? = some r ∧ Value.ref r.1 = v := by
      rw [List.getElem?_map] at hv
      exact Option.map_eq_some_iff.mp hv
    have hr : r ∈ tabs := List.mem_of_getElem? hr1
    rw [form2 e1 e2] at F₁
    have hlp : @LT.lt Nat _ lp I' := hlt _ (.head _)
    have hII2 : @LT.lt Nat _ I' I := hII
    have hlen : items.length = (chrs mode i).length := hS.length
    have hi10 : i < 10 := by
      rcases Nat.lt_or_ge i 10 with q | q
      · exact q
      · rw [List.getElem?_eq_none (by exact q)] at hr1; cases hr1
    have hlen2 : (chrs mode i).length = i := by
      unfold chrs
      rw [List.length_map, List.length_zipIdx, List.length_take]
      exact Nat.min_eq_left (Nat.le_of_lt hi10)
    have hsz : items.toArray.size ≤ 10 := by simp; omega
    k_steps
    refine iter_tupE (vs := r.2.map fun e => .ref e.1) (hh := rfl) (hg := X' _ _ (tab_rows _ r hr)) (hc := rfl) (hd := rfl) (F := by assumption) (N := by assumption)
      (J := fun j m₂ news₂ => (m₂ (Str.ofString "perm") = some (.ref lp) ∧ m₂ (Str.ofString "mode") = some (.int mode t) ∧ m₂ (Str.ofString "index") = some (.int i ti)) ∧ news₂ = (I, oI) :: (I', oI') :: (lp, W.listOf items.toArray i) :: news ∧ ∀ x ∈ r.2.take j, tells i mode x.2.1 = false)
      (h0 := ⟨⟨rfl, rfl, rfl⟩, rfl, fun x hx => by simp at hx⟩) ?step2 ?fin2 (by passes_own)
    case step2 =>
      rintro j v₂ m₂ news₂ h₂ tk₂ I₂ oI₂ hv₂ ⟨⟨e1, e2, e3⟩, rfl, hno⟩ hmap₂ hlt₂ F₂ N₂
      obtain ⟨e, he1, rfl⟩ : ∃ e, r.2[j]? = some e ∧ Value.ref e.1 = v₂ := by
        rw [List.getElem?_map] at hv₂
        exact Option.map_eq_some_iff.mp hv₂
      obtain ⟨tb, tc, hcell⟩ := tab_cells w.params r hr e (List.mem_of_getElem? he1)
      have hIT : IsTup h₂ e.1 #[.int e.2.1 tb, .str (Str.ofString e.2.2) tc] := ⟨_, F₂.keep _ _ (X' _ _ hcell), rfl, _, rfl⟩
      rw [form3 e1 e2 e3] at F₂
      have hI₂ : @LT.lt Nat _ I I₂ := hlt₂ _ (.head _)
      k_steps
      all_goals first
        | (have ht : tells i mode e.2.1 = true := by
            unfold tells
            first | (rw [if_pos (by omega)]; exact beq_iff_eq.mpr (by assumption)) | (rw [if_neg (by omega)]; exact beq_iff_eq.mpr (by assumption))
           unfold TurnPost
           dsimp only
           refine wpAny_execs_nil ?_
           rename News _ _ _ _ => N9
           rw [List.push_toArray] at N9
           exact ⟨_, _, _, (lp, W.listOf (items ++ [Value.str (Str.ofString e.2.2) tc]).toArray (i + 1)) :: news, rfl, by assumption, fun p hp => N9 p (.tail _ hp), rfl, ⟨rfl, rfl⟩, items ++ [Value.str (Str.ofString e.2.2) tc], rfl, by rw [chrs_succ hr1, sign_hit he1 hno ht]; exact kct_snoc hS⟩)
        | (have ht : tells i mode e.2.1 = false := by
            unfold tells
            first | (rw [if_pos (by omega)]; exact beq_eq_false_iff_ne.mpr (by assumption)) | (rw [if_neg (by omega)]; exact beq_eq_false_iff_ne.mpr (by assumption))
           refine ⟨_, _, _, (I, oI) :: (I', oI') :: (lp, W.listOf items.toArray i) :: news, rfl, by assumption, by assumption, rfl, ⟨rfl, rfl, rfl⟩, rfl, fun x hx => ?_⟩
           rw [List.take_add_one, he1] at hx
           rcases List.mem_append.mp hx with hx | hx
           · exact hno x hx
           · rw [List.mem_singleton.mp hx]; exact ht)
    case fin2 =>
      rintro h3 tk3 m3 news3 F3 N3 ⟨⟨e1, e2, e3⟩, rfl, hno⟩ hmap3
      rw [form3 e1 e2 e3] at F3
      rw [List.length_map, List.take_length] at hno
      have hsg := sign_miss hno
      k_steps
      · rename News _ _ _ _ => N9
        rw [List.push_toArray] at N9
        refine ⟨_, _, _, (lp, W.listOf (items ++ [Value.str (Str.ofString "?") _]).toArray (i + 1)) :: news, rfl, by assumption, N9, rfl, ⟨rfl, rfl⟩, _, rfl, ?_⟩
        rw [chrs_succ hr1, hsg, if_pos (by omega)]
        exact kct_snoc hS
      · rename News _ _ _ _ => N9
        rw [List.push_toArray] at N9
        refine ⟨_, _, _, (lp, W.listOf (items ++ [Value.str (Str.ofString "-") _]).toArray (i + 1)) :: news, rfl, by assumption, N9, rfl, ⟨rfl, rfl⟩, _, rfl, ?_⟩
        rw [chrs_succ hr1, hsg, if_neg (by omega)]
        exact kct_snoc hS
  case fin =>
    rintro h3 tk3 m3 news3 F3 N3 ⟨⟨e1, e2⟩, items, rfl, hS⟩ hmap3
    rw [form2 e1 e2] at F3
    have e10 : (tabs.map fun r => Value.ref r.1).length = 10 := rfl
    rw [e10] at hS N3
    have hl10 : (chrs mode 10).length = 10 := rfl
    k_steps
    refine join_list (items := items.toArray) (ys := chrs mode 10) ⟨_, (N3 _ (.head _)).1, rfl, _, rfl⟩ hS (by rw [sum_ones chrs_one, hl10]; decide) ?_
    intro t9 k9
    exact ⟨_, _, news, F3, fun p hp => N3 p (.tail _ hp), fun kF kN => hret _ _ _ kF kN⟩
end Mine
end

/-! ## CS -/
section
open PySem PySem.W PyProof.Rows PySem.Calls PySem.Spec
set_option maxRecDepth 100000
set_option maxHeartbeats 8000000
namespace Mine
/-- a statement walked apart: what holds behind it, on every way -/
theorem stmt_cut {M : Model} {A : Around} {E : Value → Shared → Prop} {s : Shared} {env : Env} {st : Stmt} {rest : List Stmt} {Q : Flow → Shared → Prop} (P : Shared → Prop)
    (h : ∀ (rest' : List Stmt) (Q' : Flow → Shared → Prop), (∀ s', P s' → wpAny M A (execs rest' env) Q' E s') → wpAny M A (execs (st :: rest') env) Q' E s)
    (k : ∀ s', P s' → wpAny M A (execs rest env) Q E s') : wpAny M A (execs (st :: rest) env) Q E s := h rest Q k
/-- behind a statement that stores one text: the frame and the ledger as they were, but for that name -/
def TextAt (g : Heap) (L : Addr) (m : Str → Option Value) (news : List (Addr × Obj)) (s : Shared) (n : Str) (x : Str) (s' : Shared) : Prop :=
  ∃ h' tk tt, s' = { s with heap := h', toks := tk } ∧ Fr g L h' (fun y => if y = n then some (.str x tt) else m y) ∧ News g L h' news
/-- the first sign, as the law tells it -/
noncomputable def firstS (mode : Int) : Str := Str.ofString (if (mode.fdiv 4096).fmod 16 = 10 then "l" else if (mode.fdiv 4096).fmod 16 = 12 then "s" else if (mode.fdiv 4096).fmod 16 = 8 then "-" else if (mode.fdiv 4096).fmod 16 = 6 then "b" else if (mode.fdiv 4096).fmod 16 = 4 then "d" else if (mode.fdiv 4096).fmod 16 = 2 then "c" else if (mode.fdiv 4096).fmod 16 = 1 then "p" else "?")
/-- three signs, told by their three bits and the bit above -/
noncomputable def rS (d mode : Int) : Str := Str.ofString (if 3 < (mode.fdiv d).fmod 8 then "r" else "-")
noncomputable def wS (d mode : Int) : Str := Str.ofString (if (((mode.fdiv d).fmod 8).fdiv 2).fmod 2 = 1 then "w" else "-")
noncomputable def lS (d mode : Int) (lo up : String) : Str := Str.ofString (if ((mode.fdiv d).fmod 8).fmod 2 = 1 then lo else up)
noncomputable def xS (d e mode : Int) (lo up : String) : Str := if ((mode.fdiv 512).fdiv e).fmod 2 = 1 then lS d mode lo up else Str.ofString (if ((mode.fdiv d).fmod 8).fmod 2 = 1 then "x" else "-")
noncomputable def turnS (d e mode : Int) (lo up : String) (x : Str) : Str := x ++ rS d mode ++ wS d mode ++ xS d e mode lo up
noncomputable abbrev text1 (mode : Int) : Str := turnS (8 ^ Int.toNat 2) (2 ^ Int.toNat 2) mode "s" "S" (firstS mode)
noncomputable abbrev text2 (mode : Int) : Str := turnS (8 ^ Int.toNat 1) (2 ^ Int.toNat 1) mode "s" "S" (text1 mode)
noncomputable abbrev text3 (mode : Int) : Str := turnS (8 ^ Int.toNat 0) (2 ^ Int.toNat 0) mode "t" "T" (text2 mode)
noncomputable def textS (mode : Int) (i : Nat) : Str := match i with
  | 0 => firstS mode
  | 1 => text1 mode
  | 2 => text2 mode
  | _ => text3 mode
theorem any_cut {α : Type} {M : Model} {A : Around} {E : Value → Shared → Prop} {s : Shared} {t : Sem α} {Q : α → Shared → Prop} (P : Shared → Prop)
    (h : ∀ Q' : α → Shared → Prop, (∀ a s', P s' → Q' a s') → wpAny M A t Q' E s) (k : ∀ a s', P s' → Q a s') : wpAny M A t Q E s := h Q k
def FrAt (g : Heap) (L : Addr) (m : Str → Option Value) (news : List (Addr × Obj)) (s : Shared) (s' : Shared) : Prop := ∃ h' tk, s' = { s with heap := h', toks := tk } ∧ Fr g L h' m ∧ News g L h' news
def IntAt (g : Heap) (L : Addr) (m : Str → Option Value) (news : List (Addr × Obj)) (s : Shared) (n : Str) (x : Int) (s' : Shared) : Prop :=
  ∃ h' tk tt, s' = { s with heap := h', toks := tk } ∧ Fr g L h' (fun y => if y = n then some (.int x tt) else m y) ∧ News g L h' news
theorem one_len (c : Prop) [Decidable c] (a b : String) (ha : (Str.ofString a).length ≤ 1) (hb : (Str.ofString b).length ≤ 1) : (Str.ofString (if c then a else b)).length ≤ 1 := by split <;> assumption
theorem firstS_len (mode : Int) : (firstS mode).length ≤ 1 := by
  unfold firstS
  repeat (first | decide | refine one_len _ _ _ (by decide) ?_ | (split; decide))
theorem turnS_len {d e mode : Int} {lo up : String} {x : Str} (h1 : (Str.ofString lo).length ≤ 1) (h2 : (Str.ofString up).length ≤ 1) : (turnS d e mode lo up x).length ≤ x.length + 3 := by
  have a : (rS d mode).length ≤ 1 := one_len _ _ _ (by decide) (by decide)
  have b : (wS d mode).length ≤ 1 := one_len _ _ _ (by decide) (by decide)
  have c : (xS d e mode lo up).length ≤ 1 := by
    unfold xS
    split
    · exact one_len _ _ _ h1 h2
    · exact one_len _ _ _ (by decide) (by decide)
  unfold turnS
  simp only [Str.length_append]
  omega
theorem text1_len (mode : Int) : (text1 mode).length ≤ 4 := by
  have h1 := firstS_len mode
  have h2 : (text1 mode).length ≤ (firstS mode).length + 3 := turnS_len (by decide) (by decide)
  omega
theorem text2_len (mode : Int) : (text2 mode).length ≤ 7 := by
  have h1 := text1_len mode
  have h2 : (text2 mode).length ≤ (text1 mode).length + 3 := turnS_len (by decide) (by decide)
  omega
theorem add_ok {prog : Program} {w : World} {A : Around} {E : Value → Shared → Prop} {s : Shared} {x y : Str} {t u : Tok} {Q : Value → Shared → Prop} (hx : x.length ≤ 100) (hy : y.length ≤ 100)
    (h : ∀ t' tk, Q (.str (x ++ y) t') { s with toks := tk }) : wpAny (model prog w) A (binaryOp .Add (.str x t) (.str y u)) Q E s :=
  PyProof.Rows.add_str h (by rw [sizeLine_eq]; omega)
theorem lS_len (d mode : Int) (lo up : String) (h1 : (Str.ofString lo).length ≤ 1) (h2 : (Str.ofString up).length ≤ 1) : (lS d mode lo up).length ≤ 1 := one_len _ _ _ h1 h2
theorem rS_len (d mode : Int) : (rS d mode).length ≤ 1 := one_len _ _ _ (by decide) (by decide)
theorem wS_len (d mode : Int) : (wS d mode).length ≤ 1 := one_len _ _ _ (by decide) (by decide)
local macro_rules | `(tactic| walk_at "binaryOp Add str str") => `(tactic| (k_dflt (refine add_ok (by first | decide | (simp only [Str.length_append]; first | omega | (have q9 := rS_len; have q8 := wS_len; grind)) | omega) (by first | decide | (exact Nat.le_trans (lS_len _ _ _ _ (by decide) (by decide)) (by decide))) ?_); intro u9 k9))
local macro_rules | `(tactic| walk_at "exec For Tuple List cons nil") => `(tactic| (with_unfolding_all refine For_own ?_))
theorem signs_c (w : World) (news : List (Addr × Obj)) (mode : Int) (t : Tok) :
    Ctr w 84 news 1 (0 ≤ mode ∧ mode < 65536) [.int mode t] (fun u => .str (text3 mode) u) := by
  unfold Ctr PP LS
  k_fill
  w_top off
  dsimp only [CbRet]
  intro mean mg mb dp un gd cn cs a ccd cl outer A₀ base h₀ L m s Q E B F X N T hk hpre hdp hun hret
  obtain ⟨hm0, hm1⟩ := hpre
  refine wpAny_call ?_
  k_dflt (refine' code_def ?k1 ?k2 ?k3 ?k4 ?k5 ?kA ?kF ?kK ?k6 ?k7 ?k8 ?k9 ?kB ?_ ?c2 ?c3 ?c4 ?c5; (case kA => exact rfl); (case kF => exact rfl); (case kK => assumption); (case k1 => k_asm); (case k2 => k_asm); (case k3 => k_asm); (case k4 => k_asm); (case k5 => k_asm); (case k6 => k_is); (case k7 => k_is); (case k8 => ktr_room); (case k9 => exact BindsTo.of_eq rfl); (case c5 => decide); (case kB => exact locs rfl); (case c2 => exact rfl); (case c3 => exact rfl); (case c4 => exact rfl); k_whole; intro g' L' h' FG' F' N' B' X' T'; (try dsimp only); (try k_lift B'))
  generalize s.toks + List.length _ = tk0
  replace F' : Fr g' L' h' (fun y => List.lookup y [(Str.ofString "mode", Value.int mode t)]) := F'
  with_reducible refine stmt_cut (TextAt g' L' (fun y => List.lookup y [(Str.ofString "mode", Value.int mode t)]) news s (Str.ofString "text") (firstS mode)) ?a ?b
  case a =>
    intro rest' Q' hK
    k_steps
    all_goals (
      unfold TextAt firstS at hK
      (repeat (first | rw [if_pos (by assumption)] at hK | rw [if_neg (by assumption)] at hK))
      exact hK _ ⟨_, _, _, rfl, by assumption, cb_drop (by assumption) (fun p hp => .tail _ hp)⟩)
  case b =>
    rintro s1 ⟨h1, tk1, tt, rfl, F1, N1⟩
    k_steps
    rename_i l3 _ _ l2 _ _ l1 _ _ l0 hp0 F2 N2 _
    obtain ⟨nl, N2', hm_l0, hm_l3, hm_l2, hm_l1, hsub⟩ : ∃ nl, News g' L' hp0 nl ∧ (l0, W.listOf #[Value.ref l3, Value.ref l2, Value.ref l1] 0) ∈ nl ∧ (∃ a b, (l3, W.listOf #[Value.int 2 a, Value.str (Str.ofString "s") b] 0) ∈ nl) ∧ (∃ a b, (l2, W.listOf #[Value.int 1 a, Value.str (Str.ofString "s") b] 0) ∈ nl) ∧ (∃ a b, (l1, W.listOf #[Value.int 0 a, Value.str (Str.ofString "t") b] 0) ∈ nl) ∧ ∀ p ∈ news, p ∈ nl :=
      ⟨_, N2, .head _, ⟨_, _, .tail _ (.tail _ (.tail _ (.head _)))⟩, ⟨_, _, .tail _ (.tail _ (.head _))⟩, ⟨_, _, .tail _ (.head _)⟩, fun p hp => .tail _ (.tail _ (.tail _ (.tail _ hp)))⟩
    clear N2
    refine iter_listE (l := l0) (vs := [.ref l3, .ref l2, .ref l1]) (n := 0) (hh := rfl) (hm := hm_l0) (hc := rfl) (hd := rfl) (F := F2) (N := N2')
      (J := fun i m₁ => m₁ (Str.ofString "mode") = some (.int mode t) ∧ ∃ u, m₁ (Str.ofString "text") = some (.str (textS mode i) u)) (h0 := ⟨rfl, _, rfl⟩) ?step ?fin (by passes_own)
    case step =>
      rintro i v m₁ h₂ tk₂ I oI hv ⟨e1, u, e2⟩ hI F₁ N₁
      have hi : i = 0 ∨ i = 1 ∨ i = 2 := by
        rcases Nat.lt_or_ge i 3 with q | q
        · omega
        · rw [List.getElem?_eq_none (by exact q)] at hv; cases hv
      rcases hi with rfl | rfl | rfl
      · obtain rfl := Option.some.inj hv
        obtain ⟨ta, tb, hml⟩ := hm_l3
        replace e2 : m₁ (Str.ofString "text") = some (.str (firstS mode) u) := e2
        rw [form2 e1 e2] at F₁
        have hpl : (firstS mode).length ≤ 1 := firstS_len mode
        have hL9 : h₂.IsList l3 #[Value.int 2 ta, Value.str (Str.ofString "s") tb] := ⟨_, (N₁ _ (.tail _ hml)).1, rfl, _, rfl⟩
        with_reducible refine any_cut (FrAt g' L' (fun y => if y = Str.ofString "more" then some (Value.str (Str.ofString "s") tb) else if y = Str.ofString "k" then some (Value.int 2 ta) else if y = Str.ofString "mode" then some (.int mode t) else if y = Str.ofString "text" then some (.str (firstS mode) u) else m₁ y) ((I, oI) :: nl) s) ?_ ?_
        · intro Q' hK
          k_steps
          exact hK _ _ ⟨_, _, rfl, by assumption, by assumption⟩
        rintro _ _ ⟨h3, tk3, rfl, F3, N3⟩
        with_reducible refine stmt_cut (IntAt g' L' (fun y => if y = Str.ofString "more" then some (Value.str (Str.ofString "s") tb) else if y = Str.ofString "k" then some (Value.int 2 ta) else if y = Str.ofString "mode" then some (.int mode t) else if y = Str.ofString "text" then some (.str (firstS mode) u) else m₁ y) ((I, oI) :: nl) s (Str.ofString "three") ((mode.fdiv (8 ^ Int.toNat 2)).fmod 8)) ?_ ?_
        · intro rest' Q' hK
          k_steps
          exact hK _ ⟨_, _, _, rfl, by assumption, by assumption⟩
        rintro _ ⟨h4, tk4, t4, rfl, F4, N4⟩
        with_reducible refine stmt_cut (TextAt g' L' (fun y => if y = Str.ofString "three" then some (Value.int ((mode.fdiv (8 ^ Int.toNat 2)).fmod 8) t4) else (fun y => if y = Str.ofString "more" then some (Value.str (Str.ofString "s") tb) else if y = Str.ofString "k" then some (Value.int 2 ta) else if y = Str.ofString "mode" then some (.int mode t) else if y = Str.ofString "text" then some (.str (firstS mode) u) else m₁ y) y) ((I, oI) :: nl) s (Str.ofString "last") (lS (8 ^ Int.toNat 2) mode "s" "S")) ?_ ?_
        · intro rest' Q' hK
          unfold TextAt lS at hK
          k_steps
          · rw [if_pos (by assumption)] at hK
            exact hK _ ⟨_, _, _, rfl, by assumption, by assumption⟩
          · rw [if_neg (by assumption)] at hK
            exact hK _ ⟨_, _, _, rfl, by assumption, by assumption⟩
        rintro _ ⟨h5, tk5, t5, rfl, F5, N5⟩
        with_reducible refine stmt_cut (TextAt g' L' (fun y => if y = Str.ofString "last" then some (Value.str (lS (8 ^ Int.toNat 2) mode "s" "S") t5) else if y = Str.ofString "three" then some (Value.int ((mode.fdiv (8 ^ Int.toNat 2)).fmod 8) t4) else (fun y => if y = Str.ofString "more" then some (Value.str (Str.ofString "s") tb) else if y = Str.ofString "k" then some (Value.int 2 ta) else if y = Str.ofString "mode" then some (.int mode t) else if y = Str.ofString "text" then some (.str (firstS mode) u) else m₁ y) y) ((I, oI) :: nl) s (Str.ofString "text") (firstS mode ++ rS (8 ^ Int.toNat 2) mode ++ wS (8 ^ Int.toNat 2) mode)) ?_ ?_
        · intro rest' Q' hK
          unfold TextAt rS wS at hK
          k_steps
          all_goals (
            (repeat (first | rw [if_pos (by assumption)] at hK | rw [if_neg (by assumption)] at hK))
            exact hK _ ⟨_, _, _, rfl, by assumption, by assumption⟩)
        rintro _ ⟨h6, tk6, t6, rfl, F6, N6⟩
        have hpl6 : (firstS mode ++ rS (8 ^ Int.toNat 2) mode ++ wS (8 ^ Int.toNat 2) mode).length ≤ 3 := by
          have q9 := rS_len (8 ^ Int.toNat 2) mode
          have q8 := wS_len (8 ^ Int.toNat 2) mode
          simp only [Str.length_append]
          omega
        generalize hx6 : firstS mode ++ rS (8 ^ Int.toNat 2) mode ++ wS (8 ^ Int.toNat 2) mode = x6 at F6 hpl6
        with_reducible refine stmt_cut (TextAt g' L' (fun y => if y = Str.ofString "text" then some (Value.str x6 t6) else if y = Str.ofString "last" then some (Value.str (lS (8 ^ Int.toNat 2) mode "s" "S") t5) else if y = Str.ofString "three" then some (Value.int ((mode.fdiv (8 ^ Int.toNat 2)).fmod 8) t4) else (fun y => if y = Str.ofString "more" then some (Value.str (Str.ofString "s") tb) else if y = Str.ofString "k" then some (Value.int 2 ta) else if y = Str.ofString "mode" then some (.int mode t) else if y = Str.ofString "text" then some (.str (firstS mode) u) else m₁ y) y) ((I, oI) :: nl) s (Str.ofString "text") (x6 ++ xS (8 ^ Int.toNat 2) (2 ^ Int.toNat 2) mode "s" "S")) ?_ ?_
        · intro rest' Q' hK
          unfold TextAt xS at hK
          k_steps
          all_goals (
            (repeat (first | rw [if_pos (by assumption)] at hK | rw [if_neg (by assumption)] at hK))
            exact hK _ ⟨_, _, _, rfl, by assumption, by assumption⟩)
        rintro _ ⟨h7, tk7, t7, rfl, F7, N7⟩
        subst hx6
        refine wpAny_execs_nil ?_
        exact ⟨_, _, _, nl, rfl, F7, N7, rfl, rfl, _, rfl⟩
      · obtain rfl := Option.some.inj hv
        obtain ⟨ta, tb, hml⟩ := hm_l2
        replace e2 : m₁ (Str.ofString "text") = some (.str (text1 mode) u) := e2
        rw [form2 e1 e2] at F₁
        have hpl : (text1 mode).length ≤ 4 := text1_len mode
        have hL9 : h₂.IsList l2 #[Value.int 1 ta, Value.str (Str.ofString "s") tb] := ⟨_, (N₁ _ (.tail _ hml)).1, rfl, _, rfl⟩
        with_reducible refine any_cut (FrAt g' L' (fun y => if y = Str.ofString "more" then some (Value.str (Str.ofString "s") tb) else if y = Str.ofString "k" then some (Value.int 1 ta) else if y = Str.ofString "mode" then some (.int mode t) else if y = Str.ofString "text" then some (.str (text1 mode) u) else m₁ y) ((I, oI) :: nl) s) ?_ ?_
        · intro Q' hK
          k_steps
          exact hK _ _ ⟨_, _, rfl, by assumption, by assumption⟩
        rintro _ _ ⟨h3, tk3, rfl, F3, N3⟩
        with_reducible refine stmt_cut (IntAt g' L' (fun y => if y = Str.ofString "more" then some (Value.str (Str.ofString "s") tb) else if y = Str.ofString "k" then some (Value.int 1 ta) else if y = Str.ofString "mode" then some (.int mode t) else if y = Str.ofString "text" then some (.str (text1 mode) u) else m₁ y) ((I, oI) :: nl) s (Str.ofString "three") ((mode.fdiv (8 ^ Int.toNat 1)).fmod 8)) ?_ ?_
        · intro rest' Q' hK
          k_steps
          exact hK _ ⟨_, _, _, rfl, by assumption, by assumption⟩
        rintro _ ⟨h4, tk4, t4, rfl, F4, N4⟩
        with_reducible refine stmt_cut (TextAt g' L' (fun y => if y = Str.ofString "three" then some (Value.int ((mode.fdiv (8 ^ Int.toNat 1)).fmod 8) t4) else (fun y => if y = Str.ofString "more" then some (Value.str (Str.ofString "s") tb) else if y = Str.ofString "k" then some (Value.int 1 ta) else if y = Str.ofString "mode" then some (.int mode t) else if y = Str.ofString "text" then some (.str (text1 mode) u) else m₁ y) y) ((I, oI) :: nl) s (Str.ofString "last") (lS (8 ^ Int.toNat 1) mode "s" "S")) ?_ ?_
        · intro rest' Q' hK
          unfold TextAt lS at hK
          k_steps
          · rw [if_pos (by assumption)] at hK
            exact hK _ ⟨_, _, _, rfl, by assumption, by assumption⟩
          · rw [if_neg (by assumption)] at hK
            exact hK _ ⟨_, _, _, rfl, by assumption, by assumption⟩
        rintro _ ⟨h5, tk5, t5, rfl, F5, N5⟩
        with_reducible refine stmt_cut (TextAt g' L' (fun y => if y = Str.ofString "last" then some (Value.str (lS (8 ^ Int.toNat 1) mode "s" "S") t5) else if y = Str.ofString "three" then some (Value.int ((mode.fdiv (8 ^ Int.toNat 1)).fmod 8) t4) else (fun y => if y = Str.ofString "more" then some (Value.str (Str.ofString "s") tb) else if y = Str.ofString "k" then some (Value.int 1 ta) else if y = Str.ofString "mode" then some (.int mode t) else if y = Str.ofString "text" then some (.str (text1 mode) u) else m₁ y) y) ((I, oI) :: nl) s (Str.ofString "text") (text1 mode ++ rS (8 ^ Int.toNat 1) mode ++ wS (8 ^ Int.toNat 1) mode)) ?_ ?_
        · intro rest' Q' hK
          unfold TextAt rS wS at hK
          k_steps
          all_goals (
            (repeat (first | rw [if_pos (by assumption)] at hK | rw [if_neg (by assumption)] at hK))
            exact hK _ ⟨_, _, _, rfl, by assumption, by assumption⟩)
        rintro _ ⟨h6, tk6, t6, rfl, F6, N6⟩
        have hpl6 : (text1 mode ++ rS (8 ^ Int.toNat 1) mode ++ wS (8 ^ Int.toNat 1) mode).length ≤ 6 := by
          have q9 := rS_len (8 ^ Int.toNat 1) mode
          have q8 := wS_len (8 ^ Int.toNat 1) mode
          simp only [Str.length_append]
          omega
        generalize hx6 : text1 mode ++ rS (8 ^ Int.toNat 1) mode ++ wS (8 ^ Int.toNat 1) mode = x6 at F6 hpl6
        with_reducible refine stmt_cut (TextAt g' L' (fun y => if y = Str.ofString "text" then some (Value.str x6 t6) else if y = Str.ofString "last" then some (Value.str (lS (8 ^ Int.toNat 1) mode "s" "S") t5) else if y = Str.ofString "three" then some (Value.int ((mode.fdiv (8 ^ Int.toNat 1)).fmod 8) t4) else (fun y => if y = Str.ofString "more" then some (Value.str (Str.ofString "s") tb) else if y = Str.ofString "k" then some (Value.int 1 ta) else if y = Str.ofString "mode" then some (.int mode t) else if y = Str.ofString "text" then some (.str (text1 mode) u) else m₁ y) y) ((I, oI) :: nl) s (Str.ofString "text") (x6 ++ xS (8 ^ Int.toNat 1) (2 ^ Int.toNat 1) mode "s" "S")) ?_ ?_
        · intro rest' Q' hK
          unfold TextAt xS at hK
          k_steps
          all_goals (
            (repeat (first | rw [if_pos (by assumption)] at hK | rw [if_neg (by assumption)] at hK))
            exact hK _ ⟨_, _, _, rfl, by assumption, by assumption⟩)
        rintro _ ⟨h7, tk7, t7, rfl, F7, N7⟩
        subst hx6
        refine wpAny_execs_nil ?_
        exact ⟨_, _, _, nl, rfl, F7, N7, rfl, rfl, _, rfl⟩
      · obtain rfl := Option.some.inj hv
        obtain ⟨ta, tb, hml⟩ := hm_l1
        replace e2 : m₁ (Str.ofString "text") = some (.str (text2 mode) u) := e2
        rw [form2 e1 e2] at F₁
        have hpl : (text2 mode).length ≤ 7 := text2_len mode
        have hL9 : h₂.IsList l1 #[Value.int 0 ta, Value.str (Str.ofString "t") tb] := ⟨_, (N₁ _ (.tail _ hml)).1, rfl, _, rfl⟩
        with_reducible refine any_cut (FrAt g' L' (fun y => if y = Str.ofString "more" then some (Value.str (Str.ofString "t") tb) else if y = Str.ofString "k" then some (Value.int 0 ta) else if y = Str.ofString "mode" then some (.int mode t) else if y = Str.ofString "text" then some (.str (text2 mode) u) else m₁ y) ((I, oI) :: nl) s) ?_ ?_
        · intro Q' hK
          k_steps
          exact hK _ _ ⟨_, _, rfl, by assumption, by assumption⟩
        rintro _ _ ⟨h3, tk3, rfl, F3, N3⟩
        with_reducible refine stmt_cut (IntAt g' L' (fun y => if y = Str.ofString "more" then some (Value.str (Str.ofString "t") tb) else if y = Str.ofString "k" then some (Value.int 0 ta) else if y = Str.ofString "mode" then some (.int mode t) else if y = Str.ofString "text" then some (.str (text2 mode) u) else m₁ y) ((I, oI) :: nl) s (Str.ofString "three") ((mode.fdiv (8 ^ Int.toNat 0)).fmod 8)) ?_ ?_
        · intro rest' Q' hK
          k_steps
          exact hK _ ⟨_, _, _, rfl, by assumption, by assumption⟩
        rintro _ ⟨h4, tk4, t4, rfl, F4, N4⟩
        with_reducible refine stmt_cut (TextAt g' L' (fun y => if y = Str.ofString "three" then some (Value.int ((mode.fdiv (8 ^ Int.toNat 0)).fmod 8) t4) else (fun y => if y = Str.ofString "more" then some (Value.str (Str.ofString "t") tb) else if y = Str.ofString "k" then some (Value.int 0 ta) else if y = Str.ofString "mode" then some (.int mode t) else if y = Str.ofString "text" then some (.str (text2 mode) u) else m₁ y) y) ((I, oI) :: nl) s (Str.ofString "last") (lS (8 ^ Int.toNat 0) mode "t" "T")) ?_ ?_
        · intro rest' Q' hK
          unfold TextAt lS at hK
          k_steps
          · rw [if_pos (by assumption)] at hK
            exact hK _ ⟨_, _, _, rfl, by assumption, by assumption⟩
          · rw [if_neg (by assumption)] at hK
            exact hK _ ⟨_, _, _, rfl, by assumption, by assumption⟩
        rintro _ ⟨h5, tk5, t5, rfl, F5, N5⟩
        with_reducible refine stmt_cut (TextAt g' L' (fun y => if y = Str.ofString "last" then some (Value.str (lS (8 ^ Int.toNat 0) mode "t" "T") t5) else if y = Str.ofString "three" then some (Value.int ((mode.fdiv (8 ^ Int.toNat 0)).fmod 8) t4) else (fun y => if y = Str.ofString "more" then some (Value.str (Str.ofString "t") tb) else if y = Str.ofString "k" then some (Value.int 0 ta) else if y = Str.ofString "mode" then some (.int mode t) else if y = Str.ofString "text" then some (.str (text2 mode) u) else m₁ y) y) ((I, oI) :: nl) s (Str.ofString "text") (text2 mode ++ rS (8 ^ Int.toNat 0) mode ++ wS (8 ^ Int.toNat 0) mode)) ?_ ?_
        · intro rest' Q' hK
          unfold TextAt rS wS at hK
          k_steps
          all_goals (
            (repeat (first | rw [if_pos (by assumption)] at hK | rw [if_neg (by assumption)] at hK))
            exact hK _ ⟨_, _, _, rfl, by assumption, by assumption⟩)
        rintro _ ⟨h6, tk6, t6, rfl, F6, N6⟩
        have hpl6 : (text2 mode ++ rS (8 ^ Int.toNat 0) mode ++ wS (8 ^ Int.toNat 0) mode).length ≤ 9 := by
          have q9 := rS_len (8 ^ Int.toNat 0) mode
          have q8 := wS_len (8 ^ Int.toNat 0) mode
          simp only [Str.length_append]
          omega
        generalize hx6 : text2 mode ++ rS (8 ^ Int.toNat 0) mode ++ wS (8 ^ Int.toNat 0) mode = x6 at F6 hpl6
        with_reducible refine stmt_cut (TextAt g' L' (fun y => if y = Str.ofString "text" then some (Value.str x6 t6) else if y = Str.ofString "last" then some (Value.str (lS (8 ^ Int.toNat 0) mode "t" "T") t5) else if y = Str.ofString "three" then some (Value.int ((mode.fdiv (8 ^ Int.toNat 0)).fmod 8) t4) else (fun y => if y = Str.ofString "more" then some (Value.str (Str.ofString "t") tb) else if y = Str.ofString "k" then some (Value.int 0 ta) else if y = Str.ofString "mode" then some (.int mode t) else if y = Str.ofString "text" then some (.str (text2 mode) u) else m₁ y) y) ((I, oI) :: nl) s (Str.ofString "text") (x6 ++ xS (8 ^ Int.toNat 0) (2 ^ Int.toNat 0) mode "t" "T")) ?_ ?_
        · intro rest' Q' hK
          unfold TextAt xS at hK
          k_steps
          all_goals (
            (repeat (first | rw [if_pos (by assumption)] at hK | rw [if_neg (by assumption)] at hK))
            exact hK _ ⟨_, _, _, rfl, by assumption, by assumption⟩)
        rintro _ ⟨h7, tk7, t7, rfl, F7, N7⟩
        subst hx6
        refine wpAny_execs_nil ?_
        exact ⟨_, _, _, nl, rfl, F7, N7, rfl, rfl, _, rfl⟩

    case fin =>
      rintro h3 tk3 m3 F3 N3 ⟨e1, u, e2⟩
      replace e2 : m3 (Str.ofString "text") = some (.str (text3 mode) u) := e2
      rw [form2 e1 e2] at F3
      k_steps
      exact hret _ _ _ (by assumption) (cb_drop (by assumption) hsub)
end Mine
end

/-! ## D1 -/
section
open PySem PySem.W PyProof.Rows PySem.Calls PySem.Spec
set_option maxRecDepth 100000
namespace Mine
open Builtin
theorem forIn_steps {β : Type} (f : Nat → β → Sem (ForInStep β)) (st : Nat → β) : ∀ (n a : Nat), (∀ i, a ≤ i → i < a + n → f i (st i) = pure (.yield (st (i + 1)))) → forIn (List.range' a n 1) (st a) f = pure (st (a + n))
  | 0, a, _ => by simp
  | n + 1, a, h => by
    rw [List.range'_succ, List.forIn_cons, h a (Nat.le_refl _) (by omega)]
    show forIn (List.range' (a + 1) n 1) (st (a + 1)) f = _
    rw [forIn_steps f st n (a + 1) (fun i h1 h2 => h i (by omega) (by omega))]
    rw [show a + 1 + n = a + (n + 1) by omega]
theorem forIn_stepsI {β : Type} (f : Nat → β → Sem (ForInStep β)) (st : Nat → β) (n a : Nat) (b0 : β) (hb : b0 = st a) (h : ∀ i, a ≤ i → i < a + n → f i (st i) = pure (.yield (st (i + 1)))) : forIn (List.range' a n 1) b0 f = pure (st (a + n)) := by
  rw [hb]; exact forIn_steps f st n a h
theorem forIn_twoD {β : Type} {n : Nat} {f : Nat → β → Sem (ForInStep β)} {b0 b1 : β} (hn : 2 ≤ n) (h0 : f 0 b0 = pure (.yield b1)) (h1 : f 1 b1 = pure (.done b1)) : forIn [0:n] b0 f = pure b1 := by
  rw [KPc.range_list]
  obtain ⟨k, rfl⟩ : ∃ k, n = k + 2 := ⟨n - 2, by omega⟩
  rw [List.range'_succ, List.forIn_cons, h0]
  show forIn (List.range' 1 (k + 1) 1) b1 f = _
  rw [List.range'_succ, List.forIn_cons, h1]
  rfl
theorem fold_bytes : ∀ (l : List Nat) (acc : Array UInt8), l.foldl (fun acc y => acc ++ (_codecs.asciiCodec.bytesOf y).toArray) acc = acc ++ (l.map Nat.toUInt8).toArray
  | [], acc => by simp
  | y :: r, acc => by
    rw [List.foldl_cons, fold_bytes r]
    apply Array.toList_inj.mp
    simp [_codecs.asciiCodec]
theorem narrow_ascii (id : String) (self : Value) (l : List Nat) (h2 : 2 ≤ l.length) (h3 : l.length ≤ 1000) (h : ∀ c ∈ l, c < 128) :
    _codecs.encodeNarrow id _codecs.asciiCodec none self ⟨l.toArray⟩ = pure (l.map Nat.toUInt8).toArray := by
  unfold _codecs.encodeNarrow
  have hb : ∀ c, _codecs.asciiCodec.bad c = decide (c ≥ 128) := fun _ => rfl
  dsimp only [Str.length]
  obtain ⟨c, r, rfl⟩ : ∃ c r, l = c :: r := by cases l with
    | nil => simp at h2
    | cons c r => exact ⟨c, r, rfl⟩
  have hf : Array.findIdx? _codecs.asciiCodec.bad (c :: r).toArray = none := by
    rw [Array.findIdx?_eq_none_iff]
    intro x hx
    rw [hb]
    exact decide_eq_false (by have := h x (by simpa using hx); omega)
  have hex : (c :: r).toArray.extract 0 = (c :: r).toArray := by simp
  rw [forIn_twoD (b1 := ((c :: r).length, ((c :: r).map Nat.toUInt8).toArray, ({} : _codecs.Faults))) (by simpa [Str.length] using h2) ?h0 ?h1]
  case h0 =>
    rw [if_neg (by simp)]
    show (if (!_codecs.asciiCodec.bad c) = true then _ else _) = _
    rw [if_pos (by rw [hb, decide_eq_false (by have := h c (.head _); omega)]; rfl)]
    dsimp only
    rw [hex, hf]
    dsimp only [Option.getD]
    rw [Nat.zero_add, Array.extract_size, List.foldl_toArray, fold_bytes]
    simp
  case h1 =>
    rw [if_neg (by dsimp only; rw [sizeLine_eq]; simp at h3 ⊢; omega)]
    have e0 : (c :: r).toArray[(c :: r).length]? = none := by simp
    dsimp only
    rw [e0]
  rfl
theorem road_ascii (id : String) (self : Value) (x : Str) (errors : Option Str) : _codecs.encodeRoad id self x (Str.ofString "ascii") errors = (do mkBytes (← _codecs.encodeNarrow id _codecs.asciiCodec errors self x)) := by kernel_rfl
theorem encode_treeA (x : Str) (t u : Tok) : «str.encode» ⟨[.str x t, .str (Str.ofString "ascii") u], []⟩ = (do ret (← _codecs.encodeRoad "str.encode" (.str x t) x (Str.ofString "ascii") none)) := by kernel_rfl
theorem meets_encode (l : List Nat) (t u : Tok) (h2 : 2 ≤ l.length) (h3 : l.length ≤ 1000) (h : ∀ c ∈ l, c < 128) :
    Meets («str.encode» ⟨[.str ⟨l.toArray⟩ t, .str (Str.ofString "ascii") u], []⟩) (fun _ R s => ∀ t' k, R (.ok (.ret (.bytes (l.map Nat.toUInt8).toArray t'))) { s with toks := k }) := by
  refine .of_wp fun prog w A R s hS => ?_
  rw [encode_treeA, road_ascii, narrow_ascii _ _ l h2 h3 h]
  refine wpAny_bind (wpAny_bind (wpAny_pure ?_))
  exact wpAny_mkBytes (wpAny_pure ⟨_, rfl, hS _ _⟩) (by simp; rw [sizeLine_eq]; omega)
theorem call_encode {prog : Program} {w : World} {A : Around} {E : Value → Shared → Prop} {s : Shared} {l : List Nat} {t u : Tok} {Q : Value → Shared → Prop} (h2 : 2 ≤ l.length) (h3 : l.length ≤ 1000) (h : ∀ c ∈ l, c < 128)
    (hQ : ∀ t' k, Q (.bytes (l.map Nat.toUInt8).toArray t') { s with toks := k }) : wpAny (model prog w) A (call (.builtin "str.encode") [.str ⟨l.toArray⟩ t, .str (Str.ofString "ascii") u]) Q E s :=
  call_meets F.slot_str_encode (typeIs_str _ _ _) F.entry_str_encode (F.args_str_encode_2 _ _) (meets_encode l t u h2 h3 h) hQ
/-! the way back -/
theorem run_ascii (id : String) (l : List UInt8) (h : ∀ c ∈ l, c.toNat < 128) (hl : l.length ≤ 1000) : _codecs.runDecoder id _codecs.asciiDecoder none true l.toArray 0 [] = pure ((l.map UInt8.toNat).toArray, l.length) := by
  unfold _codecs.runDecoder
  dsimp only
  rw [KPc.range_list]
  rw [forIn_stepsI _ (fun i => (i, ((l.take i).map UInt8.toNat).toArray, ({} : _codecs.Faults))) l.toArray.size 0 (0, #[], ({} : _codecs.Faults)) (by simp) ?h]
  case h =>
    intro i _ hi
    have hi : i < l.length := by simpa using hi
    dsimp only
    rw [if_neg (by rw [sizeLine_eq]; simp; omega), if_neg (by simp; omega)]
    have e1 : l.toArray.getD i 0 = l[i] := by simp [Array.getD, hi]
    have e2 : _codecs.asciiDecoder.find true l.toArray i = .text [l[i].toNat] (i + 1) := by
      show (if (l.toArray.getD i 0).toNat < 128 then _ else _) = _
      rw [e1, if_pos (h _ (List.getElem_mem _))]
      rfl
    rw [e2]
    dsimp only
    have e3 : (List.map UInt8.toNat (List.take i l)).toArray ++ [l[i].toNat].toArray = (List.map UInt8.toNat (List.take (i + 1) l)).toArray := by
      rw [List.take_succ_eq_append_getElem hi, List.map_append, List.append_toArray]
      rfl
    rw [e3]
  have e9 : List.take (0 + l.toArray.size) l = l := by rw [Nat.zero_add, List.size_toArray, List.take_length]
  have e8 : 0 + l.toArray.size = l.length := by simp
  rw [e9, e8]
  rfl
theorem droad_ascii (id : String) (b : Array UInt8) : _codecs.decodeRoad id b (Str.ofString "ascii") none [] = (_codecs.runDecoder id _codecs.asciiDecoder none true b 0 [] >>= fun r => mkStr ⟨r.1⟩) := by kernel_rfl
theorem meets_textA {l : List UInt8} {t t1 t2 : Tok} {d : Str} (hd : ∀ c ∈ l, c.toNat < 128) (hl : l.length ≤ 1000) :
    Meets («_codecs.decode.text» ⟨[.bytes l.toArray t, .str (Str.ofString "ascii") t1, .none, .str d t2], []⟩) (fun _ R s => R (.ok (.ret (.str ⟨(l.map UInt8.toNat).toArray⟩ s.toks))) { s with toks := s.toks + 1 }) := by
  refine .of_wp fun prog w A R s h => ?_
  show wpAny _ _ (Bytes.bytesLike _ (.bytes l.toArray t) >>= fun r => _) _ _ s
  refine wpAny_bind (wpAny_of_eq KBd.like_eq ?_)
  refine wpAny_bind (wpAny_of_eq KBd.held_eq ?_)
  show wpAny _ _ (_codecs.decodeRoad _ l.toArray (Str.ofString "ascii") none [] >>= fun v => _) _ _ s
  rw [droad_ascii, run_ascii _ l hd hl]
  refine wpAny_bind (wpAny_bind (wpAny_pure ?_))
  exact wpAny_mkStr (wpAny_pure ⟨_, rfl, h⟩) (by rw [sizeLine_eq]; simp [Str.length]; omega)
theorem entry_eqA (c : UInt8) (cs : List UInt8) (t u : Tok) : «bytes.decode» ⟨[.bytes (c :: cs).toArray t, .str (Str.ofString "ascii") u], []⟩ = (mkStr (Str.ofString "utf-8") >>= fun _ => mkStr (Str.ofString "ascii") >>= fun e => mkStr (Str.ofString "bytes.decode") >>= fun d =>
    call (.builtin "_codecs.decode.text") [.bytes (c :: cs).toArray t, e, .none, d] >>= fun v => ret v) := by kernel_rfl
theorem meets_decodeA {c : UInt8} {cs : List UInt8} {t u : Tok} (hd : ∀ x ∈ c :: cs, x.toNat < 128) (hl : (c :: cs).length ≤ 1000) :
    Meets («bytes.decode» ⟨[.bytes (c :: cs).toArray t, .str (Str.ofString "ascii") u], []⟩) (fun _ R s => ∀ t' k, R (.ok (.ret (.str ⟨((c :: cs).map UInt8.toNat).toArray⟩ t'))) { s with toks := k }) := by
  refine .of_wp fun prog w A R s h => ?_
  rw [entry_eqA]
  refine wpAny_bind (wpAny_mkStr ?_ (by decide))
  refine wpAny_bind (wpAny_mkStr ?_ (by decide))
  refine wpAny_bind (wpAny_mkStr ?_ (by decide))
  exact wpAny_bind (call_function_meets KBd.kind_text KBd.plain_text KBd.entry_text (KBd.args_text _ _ _ _) (meets_textA hd hl) (wpAny_pure ⟨_, rfl, h _ _⟩))
theorem args_decode_2 (a b : Value) : argsOk "bytes.decode" ⟨[a, b], []⟩ := by
  unfold argsOk; rw [signature?_of (id := "bytes.decode") (n := ['e', 'd', 'o', 'c', 'e', 'd']) (o := ['s', 'e', 't', 'y', 'b']) (by kernel_rfl) FB.owner_bytes]; kernel_rfl
theorem call_decode {prog : Program} {w : World} {A : Around} {E : Value → Shared → Prop} {s : Shared} {l : List UInt8} {t u : Tok} {Q : Value → Shared → Prop} (h1 : 1 ≤ l.length) (hl : l.length ≤ 1000) (hd : ∀ c ∈ l, c.toNat < 128)
    (hQ : ∀ t' k, Q (.str ⟨(l.map UInt8.toNat).toArray⟩ t') { s with toks := k }) : wpAny (model prog w) A (call (.builtin "bytes.decode") [.bytes l.toArray t, .str (Str.ofString "ascii") u]) Q E s := by
  cases l with
  | nil => simp at h1
  | cons c cs => exact call_meets FB.slot_bytes_decode (typeIs_bytes _ _ _) FB.entry_bytes_decode (args_decode_2 _ _) (meets_decodeA hd hl) hQ
end Mine
namespace Mine
theorem call_encodeX {prog : Program} {w : World} {A : Around} {E : Value → Shared → Prop} {s : Shared} {x : Str} {t u : Tok} {Q : Value → Shared → Prop} (h2 : 2 ≤ x.cps.toList.length) (h3 : x.cps.toList.length ≤ 1000) (h : ∀ c ∈ x.cps.toList, c < 128)
    (hQ : ∀ t' k, Q (.bytes (x.cps.toList.map Nat.toUInt8).toArray t') { s with toks := k }) : wpAny (model prog w) A (call (.builtin "str.encode") [.str x t, .str (Str.ofString "ascii") u]) Q E s := by
  have e : x = ⟨x.cps.toList.toArray⟩ := by cases x; simp
  have := call_encode (prog := prog) (w := w) (A := A) (E := E) (s := s) (l := x.cps.toList) (t := t) (u := u) (Q := Q) h2 h3 h hQ
  rw [← e] at this
  exact this
theorem encode_method {M : Model} {A : Around} {E : Value → Shared → Prop} {s : Shared} {x : Str} {t : Tok} {pl : Sem Bool} {Q : Value × List Value → Shared → Prop} (h : Q (.builtin "str.encode", [.str x t]) s) :
    wpAny M A (getMethod (.str x t) (Str.ofString "encode") pl) Q E s :=
  getMethod_builtin (typeIs_str _ _ _) F.plainAttrs_str F.slot_str_encode F.type_str_encode (fun _ e => nomatch e) h
theorem decode_method {M : Model} {A : Around} {E : Value → Shared → Prop} {s : Shared} {b : Array UInt8} {t : Tok} {pl : Sem Bool} {Q : Value × List Value → Shared → Prop} (h : Q (.builtin "bytes.decode", [.bytes b t]) s) :
    wpAny M A (getMethod (.bytes b t) (Str.ofString "decode") pl) Q E s :=
  KBd.method h
end Mine
end

/-! ## PA -/
section
open PySem PySem.W PyProof.Rows PySem.Calls PySem.Spec
set_option maxRecDepth 100000
namespace Mine
/-! the words of the law, plainly -/
abbrev modesOf (script : List Int) : List Int := List.map (fun k' => k'.fmod (2 ^ Int.toNat 16)) (List.take 3 script ++ [33261, 17407])
abbrev innOf (script : List Int) : Int := 2 + 3 * (script.take 6).sum.fmod 2
abbrev widthsOf (script : List Int) : List Int := List.map (fun k' => if k'.fmod 3 = 0 then 1 else if k'.fmod 3 = 1 then 2 + 3 * (script.take 6).sum.fmod 2 else if k'.fmod 3 = 2 then 10 else k') (List.take 6 script ++ [1, 2, 0, 2, 1, 1])
noncomputable def fmText (k : Int) : Str := Txt.join (Str.ofString "") (chrs k 10)
noncomputable def listT (ms : List Int) : Str := Txt.join (Str.ofString "") (ms.map fmText)
noncomputable def listB (ms : List Int) : List UInt8 := (listT ms).cps.toList.map Nat.toUInt8
noncomputable def turnedB (script : List Int) : List UInt8 := (widthsOf script).foldl (fun x n => swapL x n.toNat) (listB (modesOf script))
theorem modes_rng {l : List Int} {k : Int} (h : k ∈ List.map (fun k' => k'.fmod (2 ^ Int.toNat 16)) l) : 0 ≤ k ∧ k < 65536 := by
  obtain ⟨x, _, rfl⟩ := List.mem_map.mp h
  have e : (2 : Int) ^ Int.toNat 16 = 65536 := rfl
  rw [e, Int.fmod_eq_emod_of_nonneg _ (by decide)]
  omega
theorem modes_len (script : List Int) : 2 ≤ (modesOf script).length ∧ (modesOf script).length ≤ 5 := by
  unfold modesOf
  rw [List.length_map, List.length_append, List.length_take]
  simp
  omega
theorem inn_or (script : List Int) : innOf script = 2 ∨ innOf script = 5 := by
  unfold innOf
  rw [Int.fmod_eq_emod_of_nonneg _ (by decide)]
  omega
theorem widths_ok (script : List Int) : ∀ n ∈ widthsOf script, n = 1 ∨ n = innOf script ∨ n = 10 := by
  intro n hn
  obtain ⟨x, _, rfl⟩ := List.mem_map.mp hn
  have h := Int.fmod_eq_emod_of_nonneg x (show (0 : Int) ≤ 3 by decide)
  split
  · exact .inl rfl
  · split
    · exact .inr (.inl rfl)
    · split
      · exact .inr (.inr rfl)
      · omega
theorem widths_ok4 (script : List Int) : ∀ n ∈ widthsOf script, n = 1 ∨ n = 2 ∨ n = 5 ∨ n = 10 := by
  intro n hn
  have h1 := widths_ok script n hn
  have h2 := inn_or script
  omega
theorem widths_len (script : List Int) : (widthsOf script).length ≤ 12 := by
  unfold widthsOf
  rw [List.length_map, List.length_append, List.length_take]
  simp
  omega
/-- a join by nothing lays the parts one behind the other -/
theorem join_cps (ys : List Str) : (Txt.join (Str.ofString "") ys).cps.toList = (ys.map fun y => y.cps.toList).flatten := by
  have key : ∀ (l : List Str) (acc : Array Nat), (l.foldl (fun acc p => acc ++ (Str.ofString "").cps ++ p.cps) acc).toList = acc.toList ++ (l.map fun y => y.cps.toList).flatten := by
    intro l
    induction l with
    | nil => intro acc; simp
    | cons y r ih =>
      intro acc
      rw [List.foldl_cons, ih]
      have e : (Str.ofString "").cps = #[] := by decide
      rw [e]
      simp
  cases ys with
  | nil => rfl
  | cons y r =>
    show (List.foldl (fun acc p => acc ++ (Str.ofString "").cps ++ p.cps) y.cps r).toList = _
    rw [key]
    simp
theorem tab_asc : ∀ r ∈ tabs, ∀ e ∈ r.2, ∀ c ∈ (Str.ofString e.2.2).cps.toList, c < 128 := by decide
theorem sign_asc (i : Nat) (mode : Int) {r : Addr × List (Addr × Int × String)} (hr : r ∈ tabs) : ∀ c ∈ (sign i mode r.2).cps.toList, c < 128 := by
  unfold sign
  split
  · rename_i e he
    exact tab_asc r hr e (List.mem_of_find?_eq_some he)
  · split <;> decide
theorem chrs_mem {mode : Int} {k : Nat} {y : Str} (hy : y ∈ chrs mode k) : ∃ i r, r ∈ tabs ∧ y = sign i mode r.2 := by
  obtain ⟨r, hr, rfl⟩ := List.mem_map.mp hy
  have h1 : r.1 ∈ tabs.take k := by
    obtain ⟨a, b⟩ := r
    exact (List.mem_zipIdx' hr).2 ▸ List.getElem_mem _
  exact ⟨r.2, r.1, List.mem_of_mem_take h1, rfl⟩
theorem flat_len {α : Type} {n : Nat} : ∀ (l : List (List α)), (∀ x ∈ l, x.length = n) → l.flatten.length = n * l.length
  | [], _ => by simp
  | x :: r, h => by
    rw [List.flatten_cons, List.length_append, h x (.head _), flat_len r fun y hy => h y (.tail _ hy), List.length_cons, Nat.mul_succ, Nat.add_comm]
theorem fm_len (k : Int) : (fmText k).cps.toList.length = 10 := by
  unfold fmText
  rw [join_cps, flat_len (n := 1)]
  · rw [List.length_map]
    rfl
  · intro x hx
    obtain ⟨y, hy, rfl⟩ := List.mem_map.mp hx
    exact chrs_one y hy
theorem fm_asc (k : Int) : ∀ c ∈ (fmText k).cps.toList, c < 128 := by
  unfold fmText
  rw [join_cps]
  intro c hc
  obtain ⟨x, hx, hc⟩ := List.mem_flatten.mp hc
  obtain ⟨y, hy, rfl⟩ := List.mem_map.mp hx
  obtain ⟨i, r, hr, rfl⟩ := chrs_mem hy
  exact sign_asc i k hr c hc
theorem listT_len (ms : List Int) : (listT ms).cps.toList.length = 10 * ms.length := by
  unfold listT
  rw [join_cps, flat_len (n := 10)]
  · rw [List.length_map, List.length_map]
  · intro x hx
    obtain ⟨y, hy, rfl⟩ := List.mem_map.mp hx
    obtain ⟨k, _, rfl⟩ := List.mem_map.mp hy
    exact fm_len k
theorem listT_asc (ms : List Int) : ∀ c ∈ (listT ms).cps.toList, c < 128 := by
  unfold listT
  rw [join_cps]
  intro c hc
  obtain ⟨x, hx, hc⟩ := List.mem_flatten.mp hc
  obtain ⟨y, hy, rfl⟩ := List.mem_map.mp hx
  obtain ⟨k, _, rfl⟩ := List.mem_map.mp hy
  exact fm_asc k c hc
theorem listB_len (ms : List Int) : (listB ms).length = 10 * ms.length := by
  unfold listB
  rw [List.length_map, listT_len]
theorem sum_fm : ∀ ms : List Int, ((ms.map fmText).map (·.length)).sum = 10 * ms.length
  | [] => rfl
  | m :: r => by
    have h : (fmText m).length = 10 := by have := fm_len m; rw [Array.length_toList] at this; exact this
    rw [List.map_cons, List.map_cons, List.sum_cons, sum_fm r, List.length_cons, h]; omega
theorem join_fm (ms : List Int) (h : ms.length ≤ 5) : ((ms.map fmText).map (·.length)).sum + (ms.map fmText).length * (Str.ofString "").length ≤ 16777216 := by
  rw [sum_fm, List.length_map, show (Str.ofString "").length = 0 from by decide]; omega
end Mine
end

/-! ## PB -/
section
open PySem PySem.W PyProof.Rows PySem.Calls PySem.Spec
set_option maxRecDepth 100000
namespace Mine
theorem one_lenE (c : Prop) [Decidable c] (a b : String) (ha : (Str.ofString a).length = 1) (hb : (Str.ofString b).length = 1) : (Str.ofString (if c then a else b)).length = 1 := by split <;> assumption
theorem firstS_lenE (mode : Int) : (firstS mode).length = 1 := by
  unfold firstS
  repeat (first | decide | (split; decide))
theorem turnS_lenE {d e mode : Int} {lo up : String} {x : Str} (h1 : (Str.ofString lo).length = 1) (h2 : (Str.ofString up).length = 1) : (turnS d e mode lo up x).length = x.length + 3 := by
  have a : (rS d mode).length = 1 := one_lenE _ _ _ (by decide) (by decide)
  have b : (wS d mode).length = 1 := one_lenE _ _ _ (by decide) (by decide)
  have c : (xS d e mode lo up).length = 1 := by
    unfold xS
    split
    · exact one_lenE _ _ _ h1 h2
    · exact one_lenE _ _ _ (by decide) (by decide)
  unfold turnS
  simp only [Str.length_append]
  omega
theorem text3_len (mode : Int) : (text3 mode).length = 10 := by
  unfold text3
  rw [turnS_lenE (by decide) (by decide)]
  unfold text2
  rw [turnS_lenE (by decide) (by decide)]
  unfold text1
  rw [turnS_lenE (by decide) (by decide), firstS_lenE]
theorem fromZ_rng {place inner : Int} {ns : List Int} (hi : inner = 2 ∨ inner = 5) (h0 : 0 ≤ place) (h1 : place < 10) : 0 ≤ fromZ place inner ns ∧ fromZ place inner ns < 10 := by
  unfold fromZ
  rcases hi with rfl | rfl <;> (split <;> split <;> omega)
noncomputable def dueS (script : List Int) (k : Int) : List Str := (rangeKs 0 10).map fun p => Txt.item (text3 k) (fromZ p (innOf script) (widthsOf script))
/-- the lists of signs, as the ledger bears them -/
def DueAre (nw : List (Addr × Obj)) (f : Int → List Str) : List Value → List Int → Prop
  | [], [] => True
  | v :: r, k :: ks => (∃ d zs, v = .ref d ∧ (d, LCg.lst zs) ∈ nw ∧ StrsAre zs (f k)) ∧ DueAre nw f r ks
  | _, _ => False
theorem DueAre.mono {nw nw' : List (Addr × Obj)} {f : Int → List Str} (h : ∀ p ∈ nw, p ∈ nw') : ∀ {ys : List Value} {ks : List Int}, DueAre nw f ys ks → DueAre nw' f ys ks
  | [], [], _ => trivial
  | _ :: _, _ :: _, ⟨⟨d, zs, e, hm, hs⟩, r⟩ => ⟨⟨d, zs, e, h _ hm, hs⟩, DueAre.mono h r⟩
theorem DueAre.snoc {nw : List (Addr × Obj)} {f : Int → List Str} {v : Value} {k : Int} (hv : ∃ d zs, v = .ref d ∧ (d, LCg.lst zs) ∈ nw ∧ StrsAre zs (f k)) : ∀ {ys : List Value} {ks : List Int}, DueAre nw f ys ks → DueAre nw f (ys ++ [v]) (ks ++ [k])
  | [], [], _ => ⟨hv, trivial⟩
  | _ :: _, _ :: _, ⟨h, r⟩ => ⟨h, DueAre.snoc hv r⟩
theorem DueAre.length {nw : List (Addr × Obj)} {f : Int → List Str} : ∀ {ys : List Value} {ks : List Int}, DueAre nw f ys ks → ys.length = ks.length
  | [], [], _ => rfl
  | _ :: _, _ :: _, ⟨_, r⟩ => by rw [List.length_cons, List.length_cons, DueAre.length r]
theorem DueAre.at {nw : List (Addr × Obj)} {f : Int → List Str} : ∀ {ys : List Value} {ks : List Int} {i : Nat} {v : Value}, DueAre nw f ys ks → ys[i]? = some v → ∃ k, ks[i]? = some k ∧ ∃ d zs, v = .ref d ∧ (d, LCg.lst zs) ∈ nw ∧ StrsAre zs (f k)
  | _ :: _, k :: _, 0, _, ⟨h, _⟩, e => ⟨k, rfl, Option.some.inj e ▸ h⟩
  | _ :: _, _ :: _, i + 1, _, ⟨_, r⟩, e => DueAre.at (i := i) r (by simpa using e)
end Mine
end

/-! ## PC -/
section
open PySem PySem.W PyProof.Rows PySem.Calls PySem.Spec
set_option maxRecDepth 100000
namespace Mine
theorem foldl_len (ws : List Int) : ∀ b : List UInt8, (ws.foldl (fun x n => swapL x n.toNat) b).length = b.length := by
  induction ws with
  | nil => intro b; rfl
  | cons w r ih => intro b; rw [List.foldl_cons, ih, swapL_length]
theorem swap_mem {l : List UInt8} {w : Nat} {c : UInt8} (h : c ∈ swapL l w) : c ∈ l ∨ c = 0 := by
  unfold swapL at h
  rw [List.mem_ofFn] at h
  obtain ⟨i, rfl⟩ := h
  rw [List.getD_eq_getElem?_getD]
  cases e : l[i.val / w * w + (w - 1 - i.val % w)]? with
  | none => exact .inr rfl
  | some y => exact .inl (List.mem_of_getElem? e)
theorem fold_mem (ws : List Int) : ∀ {b : List UInt8} {c : UInt8}, c ∈ ws.foldl (fun x n => swapL x n.toNat) b → c ∈ b ∨ c = 0 := by
  induction ws with
  | nil => intro b c h; exact .inl h
  | cons w r ih =>
    intro b c h
    rw [List.foldl_cons] at h
    rcases ih h with h | h
    · exact swap_mem h
    · exact .inr h
theorem turned_len (script : List Int) : (turnedB script).length = 10 * (modesOf script).length := by
  unfold turnedB
  rw [foldl_len, listB_len]
theorem turned_asc (script : List Int) : ∀ c ∈ turnedB script, c.toNat < 128 := by
  intro c hc
  rcases fold_mem _ hc with h | rfl
  · obtain ⟨x, hx, rfl⟩ := List.mem_map.mp h
    have := listT_asc _ x hx
    simp only [Nat.toUInt8, UInt8.toNat_ofNat']
    omega
  · decide
/-- the text that the law's right side writes -/
noncomputable def dueT (script : List Int) : Str := Txt.join (Str.ofString "") ((modesOf script).map fun k => Txt.join (Str.ofString "") (dueS script k))
theorem due_one (script : List Int) (k : Int) : ∀ y ∈ dueS script k, y.length = 1 := by
  intro y hy
  obtain ⟨p, _, rfl⟩ := List.mem_map.mp hy
  exact len_item _ _
theorem due_ten (script : List Int) (k : Int) : (dueS script k).length = 10 := by
  unfold dueS
  rw [List.length_map]
  rfl
theorem due_sum (script : List Int) (k : Int) : ((dueS script k).map (·.length)).sum = 10 := by rw [sum_ones (due_one script k), due_ten]
theorem join_due (script : List Int) (k : Int) : ((dueS script k).map (·.length)).sum + (dueS script k).length * (Str.ofString "").length ≤ 16777216 := by
  rw [due_sum, show (Str.ofString "").length = 0 from by decide]; omega
theorem dueText_len (script : List Int) (k : Int) : (Txt.join (Str.ofString "") (dueS script k)).length = 10 := by
  have h : (Txt.join (Str.ofString "") (dueS script k)).cps.toList.length = 10 := by
    rw [join_cps, flat_len (n := 1)]
    · rw [List.length_map, due_ten]
    · intro x hx
      obtain ⟨y, hy, rfl⟩ := List.mem_map.mp hx
      have := due_one script k y hy
      rw [Array.length_toList]
      exact this
  rw [Array.length_toList] at h
  exact h
theorem join_dues (script : List Int) : ∀ ms : List Int, ms.length ≤ 5 → (((ms.map fun k => Txt.join (Str.ofString "") (dueS script k))).map (·.length)).sum + (ms.map fun k => Txt.join (Str.ofString "") (dueS script k)).length * (Str.ofString "").length ≤ 16777216 := by
  intro ms h
  have e : ∀ ms : List Int, ((ms.map fun k => Txt.join (Str.ofString "") (dueS script k)).map (·.length)).sum = 10 * ms.length := by
    intro ms
    induction ms with
    | nil => rfl
    | cons m r ih => rw [List.map_cons, List.map_cons, List.sum_cons, ih, dueText_len, List.length_cons]; omega
  rw [e, show (Str.ofString "").length = 0 from by decide]; omega
end Mine
end

/-! ## PD -/
section
open PySem PySem.W PyProof.Rows PySem.Calls PySem.Spec
set_option maxRecDepth 100000
namespace Mine
/-! the turns, on runs of ten -/
theorem ten_of {w : Nat} (hw : w = 1 ∨ w = 2 ∨ w = 5 ∨ w = 10) : 0 < w ∧ ∃ m, 10 = w * m := by
  rcases hw with rfl | rfl | rfl | rfl
  · exact ⟨by decide, 10, rfl⟩
  · exact ⟨by decide, 5, rfl⟩
  · exact ⟨by decide, 2, rfl⟩
  · exact ⟨by decide, 1, rfl⟩
theorem perm_low {w m i : Nat} (hw : 0 < w) (h : i < w * m) : i / w * w + (w - 1 - i % w) < w * m := by
  have h1 : i / w < m := (Nat.div_lt_iff_lt_mul hw).mpr (by rw [Nat.mul_comm]; exact h)
  have h2 : (i / w + 1) * w ≤ m * w := Nat.mul_le_mul_right w h1
  rw [Nat.add_mul, Nat.one_mul] at h2
  rw [Nat.mul_comm w m]
  clear h h1
  generalize i / w * w = a at h2 ⊢
  generalize i % w = b
  generalize m * w = c at h2 ⊢
  omega
theorem perm_high {w m i : Nat} (hw : 0 < w) (h : w * m ≤ i) : w * m ≤ i / w * w + (w - 1 - i % w) ∧ i / w * w + (w - 1 - i % w) - w * m = (i - w * m) / w * w + (w - 1 - (i - w * m) % w) := by
  have h1 : m ≤ i / w := (Nat.le_div_iff_mul_le hw).mpr (by rw [Nat.mul_comm]; exact h)
  have h2 : m * w ≤ i / w * w := Nat.mul_le_mul_right w h1
  rw [Nat.sub_mul_div, Nat.sub_mul_mod h, Nat.sub_mul, Nat.mul_comm w m]
  clear h h1
  generalize i / w * w = a at h2 ⊢
  generalize w - 1 - i % w = b
  generalize m * w = c at h2 ⊢
  omega
theorem swap_append (c r : List UInt8) (hc : c.length = 10) {w : Nat} (hw : w = 1 ∨ w = 2 ∨ w = 5 ∨ w = 10) : swapL (c ++ r) w = swapL c w ++ swapL r w := by
  obtain ⟨hw0, m, hm⟩ := ten_of hw
  apply List.ext_getElem
  · rw [List.length_append, swapL_length, swapL_length, swapL_length, List.length_append]
  · intro i h1 h2
    by_cases hi : i < w * m
    · rw [List.getElem_append_left (by rw [swapL_length, hc, hm]; exact hi)]
      simp only [swapL, List.getElem_ofFn]
      have hp : i / w * w + (w - 1 - i % w) < c.length := by rw [hc, hm]; exact perm_low hw0 hi
      rw [List.getD_eq_getElem?_getD, List.getD_eq_getElem?_getD, List.getElem?_append_left hp]
    · have hq := perm_high hw0 (Nat.not_lt.mp hi)
      rw [← hm, ← hc] at hq
      rw [List.getElem_append_right (by rw [swapL_length, hc, hm]; exact Nat.not_lt.mp hi)]
      simp only [swapL, List.getElem_ofFn, List.length_ofFn]
      rw [List.getD_eq_getElem?_getD, List.getD_eq_getElem?_getD, List.getElem?_append_right hq.1, hq.2]
abbrev turns (ws : List Int) (b : List UInt8) : List UInt8 := ws.foldl (fun x n => swapL x n.toNat) b
theorem turns_append (ws : List Int) : ∀ (c r : List UInt8), c.length = 10 → (∀ n ∈ ws, n = 1 ∨ n = 2 ∨ n = 5 ∨ n = 10) → turns ws (c ++ r) = turns ws c ++ turns ws r := by
  induction ws with
  | nil => intro c r _ _; rfl
  | cons w ws ih =>
    intro c r hc hw
    have h2 : w.toNat = 1 ∨ w.toNat = 2 ∨ w.toNat = 5 ∨ w.toNat = 10 := by
      rcases hw w (.head _) with rfl | rfl | rfl | rfl
      · exact .inl rfl
      · exact .inr (.inl rfl)
      · exact .inr (.inr (.inl rfl))
      · exact .inr (.inr (.inr rfl))
    show turns ws (swapL (c ++ r) w.toNat) = turns ws (swapL c w.toNat) ++ turns ws (swapL r w.toNat)
    rw [swap_append c r hc h2, ih _ _ (by rw [swapL_length, hc]) fun n hn => hw n (.tail _ hn)]
theorem turns_nil (ws : List Int) : turns ws [] = [] := by
  have h : (turns ws []).length = 0 := foldl_len ws []
  exact List.eq_nil_of_length_eq_zero h
theorem turns_flat (ws : List Int) (hw : ∀ n ∈ ws, n = 1 ∨ n = 2 ∨ n = 5 ∨ n = 10) : ∀ cs : List (List UInt8), (∀ c ∈ cs, c.length = 10) → turns ws cs.flatten = (cs.map (turns ws)).flatten
  | [], _ => turns_nil ws
  | c :: r, h => by rw [List.flatten_cons, turns_append ws _ _ (h c (.head _)) hw, turns_flat ws hw r fun x hx => h x (.tail _ hx), List.map_cons, List.flatten_cons]
def fz (a b : Bool) (inner p : Int) : Int := (if b then 10 / inner - 1 - p / inner else p / inner) * inner + (if a then inner - 1 - p % inner else p % inner)
theorem fromZ_fz (p inner : Int) (ns : List Int) : fromZ p inner ns = fz (decide (((ns.count inner : Int) + (ns.count 10 : Int)) % 2 = 1)) (decide ((ns.count 10 : Int) % 2 = 1)) inner p := by
  unfold fromZ fz
  simp only [decide_eq_true_eq]
abbrev permN (w i : Nat) : Nat := i / w * w + (w - 1 - i % w)
theorem p2_1 : ∀ (q : Fin 10) (a b : Bool), permN 1 (fz a b 2 q.val).toNat = (fz a b 2 q.val).toNat := by decide
theorem p2_2 : ∀ (q : Fin 10) (a b : Bool), permN 2 (fz a b 2 q.val).toNat = (fz (!a) b 2 q.val).toNat := by decide
theorem p2_10 : ∀ (q : Fin 10) (a b : Bool), permN 10 (fz a b 2 q.val).toNat = (fz (!a) (!b) 2 q.val).toNat := by decide
theorem p5_1 : ∀ (q : Fin 10) (a b : Bool), permN 1 (fz a b 5 q.val).toNat = (fz a b 5 q.val).toNat := by decide
theorem p5_5 : ∀ (q : Fin 10) (a b : Bool), permN 5 (fz a b 5 q.val).toNat = (fz (!a) b 5 q.val).toNat := by decide
theorem p5_10 : ∀ (q : Fin 10) (a b : Bool), permN 10 (fz a b 5 q.val).toNat = (fz (!a) (!b) 5 q.val).toNat := by decide
theorem fz_odd {x y : Int} (h : y = x + 1) : decide (y % 2 = 1) = !decide (x % 2 = 1) := by
  subst h
  by_cases e : x % 2 = 1
  · rw [decide_eq_true e, decide_eq_false (by omega)]; rfl
  · rw [decide_eq_false e, decide_eq_true (by omega)]; rfl
theorem fz_two {x y : Int} (h : y = x + 2) : decide (y % 2 = 1) = decide (x % 2 = 1) := by
  subst h
  rw [show (x + 2) % 2 = x % 2 by omega]
theorem cnt_hit (a : Int) (r : List Int) : ((a :: r).count a : Int) = (r.count a : Int) + 1 := by rw [List.count_cons_self]; rfl
theorem cnt_miss {a b : Int} (h : b ≠ a) (r : List Int) : ((b :: r).count a : Int) = (r.count a : Int) := by rw [List.count_cons_of_ne h]
theorem perm_from {inner w p : Int} {r : List Int} (hi : inner = 2 ∨ inner = 5) (hw : w = 1 ∨ w = inner ∨ w = 10) (h0 : 0 ≤ p) (h1 : p < 10) :
    permN w.toNat (fromZ p inner r).toNat = (fromZ p inner (w :: r)).toNat := by
  obtain ⟨q, rfl⟩ : ∃ q : Fin 10, p = q.val := ⟨⟨p.toNat, by omega⟩, by simp; omega⟩
  rw [fromZ_fz, fromZ_fz]
  rcases hi with rfl | rfl <;> rcases hw with rfl | rfl | rfl
  · rw [cnt_miss (by decide), cnt_miss (by decide)]
    exact p2_1 q _ _
  · rw [cnt_hit, cnt_miss (by decide), fz_odd (x := (r.count 2 : Int) + (r.count 10 : Int)) (y := (r.count 2 : Int) + 1 + (r.count 10 : Int)) (by omega)]
    exact p2_2 q _ _
  · rw [cnt_hit, cnt_miss (by decide), fz_odd (x := (r.count 2 : Int) + (r.count 10 : Int)) (y := (r.count 2 : Int) + ((r.count 10 : Int) + 1)) (by omega), fz_odd (x := (r.count 10 : Int)) rfl]
    exact p2_10 q _ _
  · rw [cnt_miss (by decide), cnt_miss (by decide)]
    exact p5_1 q _ _
  · rw [cnt_hit, cnt_miss (by decide), fz_odd (x := (r.count 5 : Int) + (r.count 10 : Int)) (y := (r.count 5 : Int) + 1 + (r.count 10 : Int)) (by omega)]
    exact p5_5 q _ _
  · rw [cnt_hit, cnt_miss (by decide), fz_odd (x := (r.count 5 : Int) + (r.count 10 : Int)) (y := (r.count 5 : Int) + ((r.count 10 : Int) + 1)) (by omega), fz_odd (x := (r.count 10 : Int)) rfl]
    exact p5_10 q _ _
theorem fz_rng {a b : Bool} : ∀ (q : Fin 10), (fz a b 2 q.val).toNat < 10 ∧ (fz a b 5 q.val).toNat < 10 := by revert a b; decide
theorem fz_id : ∀ (q : Fin 10), (fz false false 2 q.val).toNat = q.val ∧ (fz false false 5 q.val).toNat = q.val := by decide
theorem turns_one (inner : Int) (hi : inner = 2 ∨ inner = 5) (ws : List Int) : ∀ (c : List UInt8), c.length = 10 → (∀ n ∈ ws, n = 1 ∨ n = inner ∨ n = 10) → turns ws c = (rangeKs 0 10).map fun p => c.getD (fromZ p inner ws).toNat 0 := by
  induction ws with
  | nil =>
    intro c hc _
    apply List.ext_getElem
    · rw [List.length_map, rangeKs_length]; exact hc
    · intro i h1 h2
      have hi10 : i < 10 := by rw [← hc]; exact h1
      have e : (rangeKs 0 10)[i]'(by rw [rangeKs_length]; exact hi10) = (i : Int) := by simp [rangeKs]
      rw [List.getElem_map, e, fromZ_fz]
      have q := fz_id ⟨i, hi10⟩
      have e2 : (fz (decide (((([] : List Int).count inner : Int) + (([] : List Int).count 10 : Int)) % 2 = 1)) (decide ((([] : List Int).count 10 : Int) % 2 = 1)) inner i).toNat = i := by
        rcases hi with rfl | rfl
        · exact q.1
        · exact q.2
      rw [e2, List.getD_eq_getElem?_getD, List.getElem?_eq_getElem (l := c) (by omega)]
      rfl
  | cons w ws ih =>
    intro c hc hw
    show turns ws (swapL c w.toNat) = _
    rw [ih _ (by rw [swapL_length, hc]) fun n hn => hw n (.tail _ hn)]
    apply List.map_congr_left
    intro p hp
    have hp2 := mem_rangeKs hp
    have hr := fromZ_rng (ns := ws) hi hp2.1 (by omega)
    have e := perm_from (r := ws) hi (hw w (.head _)) hp2.1 (by omega)
    rw [← e]
    have hlt : (fromZ p inner ws).toNat < (swapL c w.toNat).length := by rw [swapL_length, hc]; omega
    rw [List.getD_eq_getElem?_getD, List.getElem?_eq_getElem hlt]
    simp only [swapL, List.getElem_ofFn, Option.getD_some]
end Mine
end

/-! ## PE -/
section
open PySem PySem.W PyProof.Rows PySem.Calls PySem.Spec
set_option maxRecDepth 100000
namespace Mine
/-! the ten signs: the table's and the law's own are one -/
theorem band (n b : Nat) : Builtin.bitAnd (n : Int) (b : Int) = ((n &&& b : Nat) : Int) := by
  unfold Builtin.bitAnd
  simp
theorem bitN (n k : Nat) : n &&& 2 ^ k = n / 2 ^ k % 2 * 2 ^ k := by
  have ht : n.testBit k = decide (n / 2 ^ k % 2 = 1) := Nat.testBit_eq_decide_div_mod_eq
  have h := Nat.mod_two_eq_zero_or_one (n / 2 ^ k)
  apply Nat.eq_of_testBit_eq
  intro i
  rw [Nat.testBit_and, Nat.testBit_two_pow]
  rcases h with h | h
  · rw [h, Nat.zero_mul, Nat.zero_testBit]
    by_cases e : k = i
    · subst e
      rw [ht, h]
      rfl
    · rw [decide_eq_false e, Bool.and_false]
  · rw [h, Nat.one_mul, Nat.testBit_two_pow]
    by_cases e : k = i
    · subst e
      rw [ht, h]
      rfl
    · rw [decide_eq_false e, Bool.and_false]
/-- one bit asked -/
theorem tells_one (i : Nat) (hi : i ≠ 0) (n k : Nat) (b : Int) (hb : b = ((2 ^ k : Nat) : Int)) : tells i (n : Int) b = decide (n / 2 ^ k % 2 = 1) := by
  unfold tells
  rw [if_neg hi, hb, band, bitN]
  have hp : 0 < 2 ^ k := Nat.two_pow_pos k
  have h := Nat.mod_two_eq_zero_or_one (n / 2 ^ k)
  rcases h with h | h
  · rw [h, decide_eq_false (by decide)]
    apply beq_eq_false_iff_ne.mpr
    intro e
    have := Int.ofNat.inj e
    omega
  · rw [h, decide_eq_true rfl]
    simp
/-- two bits asked -/
theorem tells_two (i : Nat) (hi : i ≠ 0) (n k j : Nat) (b : Int) (hkj : k < j) (hb : b = ((2 ^ j + 2 ^ k : Nat) : Int)) : tells i (n : Int) b = (decide (n / 2 ^ j % 2 = 1) && decide (n / 2 ^ k % 2 = 1)) := by
  unfold tells
  have hlt : 2 ^ k < 2 ^ j := Nat.pow_lt_pow_right (by decide) hkj
  have ho : 2 ^ j + 2 ^ k = 2 ^ j ||| 2 ^ k := by
    have := Nat.two_pow_add_eq_or_of_lt hlt 1
    simpa using this
  have hp : 0 < 2 ^ k := Nat.two_pow_pos k
  rw [if_neg hi, hb, band, ho, Nat.and_or_distrib_left, bitN, bitN]
  have h1 := Nat.mod_two_eq_zero_or_one (n / 2 ^ k)
  have h2 := Nat.mod_two_eq_zero_or_one (n / 2 ^ j)
  rcases h1 with h1 | h1 <;> rcases h2 with h2 | h2 <;> simp only [h1, h2, Nat.zero_mul, Nat.one_mul, Nat.or_zero, Nat.zero_or]
  · apply beq_eq_false_iff_ne.mpr
    intro e
    have := Int.ofNat.inj e
    rw [← ho] at this
    omega
  · apply beq_eq_false_iff_ne.mpr
    intro e
    have := Int.ofNat.inj e
    rw [← ho] at this
    omega
  · apply beq_eq_false_iff_ne.mpr
    intro e
    have := Int.ofNat.inj e
    rw [← ho] at this
    omega
  · simp
theorem kind_bits (n : Nat) : n &&& 61440 = n / 4096 % 16 * 4096 := by
  have e : 61440 = 2 ^ 15 ||| 2 ^ 14 ||| 2 ^ 13 ||| 2 ^ 12 := by decide
  rw [e, Nat.and_or_distrib_left, Nat.and_or_distrib_left, Nat.and_or_distrib_left, bitN, bitN, bitN, bitN]
  have h1 := Nat.mod_two_eq_zero_or_one (n / 2 ^ 15)
  have h2 := Nat.mod_two_eq_zero_or_one (n / 2 ^ 14)
  have h3 := Nat.mod_two_eq_zero_or_one (n / 2 ^ 13)
  have h4 := Nat.mod_two_eq_zero_or_one (n / 2 ^ 12)
  have e1 : n / 4096 % 16 = n / 2 ^ 15 % 2 * 8 + n / 2 ^ 14 % 2 * 4 + n / 2 ^ 13 % 2 * 2 + n / 2 ^ 12 % 2 := by omega
  rw [e1]
  rcases h1 with h1 | h1 <;> rcases h2 with h2 | h2 <;> rcases h3 with h3 | h3 <;> rcases h4 with h4 | h4 <;> rw [h1, h2, h3, h4] <;> decide
theorem fd (n : Nat) (d : Nat) (hd : 0 < d) : ((n : Int).fdiv (d : Int)) = ((n / d : Nat) : Int) := by
  rw [Int.fdiv_eq_ediv_of_nonneg _ (by omega)]; rfl
theorem fm (n : Nat) (d : Nat) (hd : 0 < d) : ((n : Int).fmod (d : Int)) = ((n % d : Nat) : Int) := by
  rw [Int.fmod_eq_emod_of_nonneg _ (by omega)]; rfl
theorem first_eq (n : Nat) : sign 0 (n : Int) [(38, 40960, "l"), (39, 49152, "s"), (40, 32768, "-"), (41, 24576, "b"), (42, 16384, "d"), (43, 8192, "c"), (44, 4096, "p")] = firstS (n : Int) := by
  have e1 : Builtin.bitAnd (n : Int) 61440 = ((n / 4096 % 16 * 4096 : Nat) : Int) := by rw [show (61440 : Int) = ((61440 : Nat) : Int) from rfl, band, kind_bits]
  have e2 : ((n : Int).fdiv 4096).fmod 16 = ((n / 4096 % 16 : Nat) : Int) := by
    rw [show (4096 : Int) = ((4096 : Nat) : Int) from rfl, fd _ _ (by decide), show (16 : Int) = ((16 : Nat) : Int) from rfl, fm _ _ (by decide)]
  unfold sign firstS
  simp only [e2]
  unfold tells
  simp only [if_true, e1]
  have h : n / 4096 % 16 < 16 := Nat.mod_lt _ (by decide)
  generalize n / 4096 % 16 = c at h
  have key : ∀ c : Fin 16, (match List.find? (fun e => ((c.val * 4096 : Nat) : Int) == e.2.1) [((38 : Nat), (40960 : Int), "l"), (39, 49152, "s"), (40, 32768, "-"), (41, 24576, "b"), (42, 16384, "d"), (43, 8192, "c"), (44, 4096, "p")] with
    | some e => Str.ofString e.2.2 | none => Str.ofString "?") = Str.ofString (if ((c.val : Nat) : Int) = 10 then "l" else if ((c.val : Nat) : Int) = 12 then "s" else if ((c.val : Nat) : Int) = 8 then "-" else if ((c.val : Nat) : Int) = 6 then "b" else if ((c.val : Nat) : Int) = 4 then "d" else if ((c.val : Nat) : Int) = 2 then "c" else if ((c.val : Nat) : Int) = 1 then "p" else "?") := by decide
  exact key ⟨c, h⟩
/-- a row of one bit -/
theorem row_one (i : Nat) (hi : i ≠ 0) (n k : Nat) (a : Addr) (b : Int) (hb : b = ((2 ^ k : Nat) : Int)) (z : String) : sign i (n : Int) [(a, b, z)] = Str.ofString (if n / 2 ^ k % 2 = 1 then z else "-") := by
  unfold sign
  rw [List.find?_cons, tells_one i hi n k b hb]
  by_cases h : n / 2 ^ k % 2 = 1
  · simp [h]
  · simp [h, hi]
/-- a row of three -/
theorem row_three (i : Nat) (hi : i ≠ 0) (n k j : Nat) (hkj : k < j) (a1 a2 a3 : Addr) (b1 b2 b3 : Int) (h1 : b1 = ((2 ^ j + 2 ^ k : Nat) : Int)) (h2 : b2 = ((2 ^ j : Nat) : Int)) (h3 : b3 = ((2 ^ k : Nat) : Int)) (lo up z : String) :
    sign i (n : Int) [(a1, b1, lo), (a2, b2, up), (a3, b3, z)] = (if n / 2 ^ j % 2 = 1 then Str.ofString (if n / 2 ^ k % 2 = 1 then lo else up) else Str.ofString (if n / 2 ^ k % 2 = 1 then z else "-")) := by
  unfold sign
  rw [List.find?_cons, List.find?_cons, List.find?_cons, tells_two i hi n k j b1 hkj h1, tells_one i hi n j b2 h2, tells_one i hi n k b3 h3]
  by_cases c1 : n / 2 ^ k % 2 = 1 <;> by_cases c2 : n / 2 ^ j % 2 = 1 <;> simp [c1, c2, hi]
end Mine
end

/-! ## PF -/
section
open PySem PySem.W PyProof.Rows PySem.Calls PySem.Spec
set_option maxRecDepth 100000
namespace Mine
theorem ite_iff {c d : Prop} [Decidable c] [Decidable d] (h : c ↔ d) (a b : String) : Str.ofString (if c then a else b) = Str.ofString (if d then a else b) := by
  by_cases hc : c
  · rw [if_pos hc, if_pos (h.mp hc)]
  · rw [if_neg hc, if_neg fun hd => hc (h.mpr hd)]
theorem three_2 (n : Nat) : ((n : Int).fdiv (8 ^ Int.toNat 2)).fmod 8 = ((n / 64 % 8 : Nat) : Int) := by
  rw [show (8 : Int) ^ Int.toNat 2 = ((64 : Nat) : Int) from rfl, fd _ _ (by decide), show (8 : Int) = ((8 : Nat) : Int) from rfl, fm _ _ (by decide)]
theorem top_2 (n : Nat) : (((n : Int).fdiv 512).fdiv (2 ^ Int.toNat 2)).fmod 2 = ((n / 512 / 4 % 2 : Nat) : Int) := by
  rw [show (2 : Int) ^ Int.toNat 2 = ((4 : Nat) : Int) from rfl, show (512 : Int) = ((512 : Nat) : Int) from rfl, fd _ _ (by decide), fd _ _ (by decide), show (2 : Int) = ((2 : Nat) : Int) from rfl, fm _ _ (by decide)]
theorem rS_2 (n : Nat) : rS (8 ^ Int.toNat 2) (n : Int) = Str.ofString (if n / 2 ^ 8 % 2 = 1 then "r" else "-") := by
  unfold rS
  refine ite_iff ?_ _ _
  rw [three_2]
  omega
theorem wS_2 (n : Nat) : wS (8 ^ Int.toNat 2) (n : Int) = Str.ofString (if n / 2 ^ 7 % 2 = 1 then "w" else "-") := by
  unfold wS
  refine ite_iff ?_ _ _
  rw [three_2, show (2 : Int) = ((2 : Nat) : Int) from rfl, fd _ _ (by decide), fm _ _ (by decide)]
  omega
theorem xS_2 (n : Nat) (lo up : String) : xS (8 ^ Int.toNat 2) (2 ^ Int.toNat 2) (n : Int) lo up = (if n / 2 ^ 11 % 2 = 1 then Str.ofString (if n / 2 ^ 6 % 2 = 1 then lo else up) else Str.ofString (if n / 2 ^ 6 % 2 = 1 then "x" else "-")) := by
  unfold xS lS
  have h1 : ((((n : Int).fdiv 512).fdiv (2 ^ Int.toNat 2)).fmod 2 = 1) ↔ n / 2 ^ 11 % 2 = 1 := by rw [top_2]; omega
  have h2 : ((((n : Int).fdiv (8 ^ Int.toNat 2)).fmod 8).fmod 2 = 1) ↔ n / 2 ^ 6 % 2 = 1 := by
    rw [three_2, show (2 : Int) = ((2 : Nat) : Int) from rfl, fm _ _ (by decide)]
    omega
  rw [ite_iff h2 lo up, ite_iff h2 "x" "-"]
  by_cases c : n / 2 ^ 11 % 2 = 1
  · rw [if_pos c, if_pos (h1.mpr c)]
  · rw [if_neg c, if_neg fun d => c (h1.mp d)]
theorem three_1 (n : Nat) : ((n : Int).fdiv (8 ^ Int.toNat 1)).fmod 8 = ((n / 8 % 8 : Nat) : Int) := by
  rw [show (8 : Int) ^ Int.toNat 1 = ((8 : Nat) : Int) from rfl, fd _ _ (by decide), show (8 : Int) = ((8 : Nat) : Int) from rfl, fm _ _ (by decide)]
theorem top_1 (n : Nat) : (((n : Int).fdiv 512).fdiv (2 ^ Int.toNat 1)).fmod 2 = ((n / 512 / 2 % 2 : Nat) : Int) := by
  rw [show (2 : Int) ^ Int.toNat 1 = ((2 : Nat) : Int) from rfl, show (512 : Int) = ((512 : Nat) : Int) from rfl, fd _ _ (by decide), fd _ _ (by decide), show (2 : Int) = ((2 : Nat) : Int) from rfl, fm _ _ (by decide)]
theorem rS_1 (n : Nat) : rS (8 ^ Int.toNat 1) (n : Int) = Str.ofString (if n / 2 ^ 5 % 2 = 1 then "r" else "-") := by
  unfold rS
  refine ite_iff ?_ _ _
  rw [three_1]
  omega
theorem wS_1 (n : Nat) : wS (8 ^ Int.toNat 1) (n : Int) = Str.ofString (if n / 2 ^ 4 % 2 = 1 then "w" else "-") := by
  unfold wS
  refine ite_iff ?_ _ _
  rw [three_1, show (2 : Int) = ((2 : Nat) : Int) from rfl, fd _ _ (by decide), fm _ _ (by decide)]
  omega
theorem xS_1 (n : Nat) (lo up : String) : xS (8 ^ Int.toNat 1) (2 ^ Int.toNat 1) (n : Int) lo up = (if n / 2 ^ 10 % 2 = 1 then Str.ofString (if n / 2 ^ 3 % 2 = 1 then lo else up) else Str.ofString (if n / 2 ^ 3 % 2 = 1 then "x" else "-")) := by
  unfold xS lS
  have h1 : ((((n : Int).fdiv 512).fdiv (2 ^ Int.toNat 1)).fmod 2 = 1) ↔ n / 2 ^ 10 % 2 = 1 := by rw [top_1]; omega
  have h2 : ((((n : Int).fdiv (8 ^ Int.toNat 1)).fmod 8).fmod 2 = 1) ↔ n / 2 ^ 3 % 2 = 1 := by
    rw [three_1, show (2 : Int) = ((2 : Nat) : Int) from rfl, fm _ _ (by decide)]
    omega
  rw [ite_iff h2 lo up, ite_iff h2 "x" "-"]
  by_cases c : n / 2 ^ 10 % 2 = 1
  · rw [if_pos c, if_pos (h1.mpr c)]
  · rw [if_neg c, if_neg fun d => c (h1.mp d)]
theorem three_0 (n : Nat) : ((n : Int).fdiv (8 ^ Int.toNat 0)).fmod 8 = ((n / 1 % 8 : Nat) : Int) := by
  rw [show (8 : Int) ^ Int.toNat 0 = ((1 : Nat) : Int) from rfl, fd _ _ (by decide), show (8 : Int) = ((8 : Nat) : Int) from rfl, fm _ _ (by decide)]
theorem top_0 (n : Nat) : (((n : Int).fdiv 512).fdiv (2 ^ Int.toNat 0)).fmod 2 = ((n / 512 / 1 % 2 : Nat) : Int) := by
  rw [show (2 : Int) ^ Int.toNat 0 = ((1 : Nat) : Int) from rfl, show (512 : Int) = ((512 : Nat) : Int) from rfl, fd _ _ (by decide), fd _ _ (by decide), show (2 : Int) = ((2 : Nat) : Int) from rfl, fm _ _ (by decide)]
theorem rS_0 (n : Nat) : rS (8 ^ Int.toNat 0) (n : Int) = Str.ofString (if n / 2 ^ 2 % 2 = 1 then "r" else "-") := by
  unfold rS
  refine ite_iff ?_ _ _
  rw [three_0]
  omega
theorem wS_0 (n : Nat) : wS (8 ^ Int.toNat 0) (n : Int) = Str.ofString (if n / 2 ^ 1 % 2 = 1 then "w" else "-") := by
  unfold wS
  refine ite_iff ?_ _ _
  rw [three_0, show (2 : Int) = ((2 : Nat) : Int) from rfl, fd _ _ (by decide), fm _ _ (by decide)]
  omega
theorem xS_0 (n : Nat) (lo up : String) : xS (8 ^ Int.toNat 0) (2 ^ Int.toNat 0) (n : Int) lo up = (if n / 2 ^ 9 % 2 = 1 then Str.ofString (if n / 2 ^ 0 % 2 = 1 then lo else up) else Str.ofString (if n / 2 ^ 0 % 2 = 1 then "x" else "-")) := by
  unfold xS lS
  have h1 : ((((n : Int).fdiv 512).fdiv (2 ^ Int.toNat 0)).fmod 2 = 1) ↔ n / 2 ^ 9 % 2 = 1 := by rw [top_0]; omega
  have h2 : ((((n : Int).fdiv (8 ^ Int.toNat 0)).fmod 8).fmod 2 = 1) ↔ n / 2 ^ 0 % 2 = 1 := by
    rw [three_0, show (2 : Int) = ((2 : Nat) : Int) from rfl, fm _ _ (by decide)]
    omega
  rw [ite_iff h2 lo up, ite_iff h2 "x" "-"]
  by_cases c : n / 2 ^ 9 % 2 = 1
  · rw [if_pos c, if_pos (h1.mpr c)]
  · rw [if_neg c, if_neg fun d => c (h1.mp d)]
theorem chrs_ten (n : Nat) : chrs (n : Int) 10 = [firstS n, rS (8 ^ Int.toNat 2) n, wS (8 ^ Int.toNat 2) n, xS (8 ^ Int.toNat 2) (2 ^ Int.toNat 2) n "s" "S", rS (8 ^ Int.toNat 1) n, wS (8 ^ Int.toNat 1) n, xS (8 ^ Int.toNat 1) (2 ^ Int.toNat 1) n "s" "S", rS (8 ^ Int.toNat 0) n, wS (8 ^ Int.toNat 0) n, xS (8 ^ Int.toNat 0) (2 ^ Int.toNat 0) n "t" "T"] := by
  rw [rS_2, rS_1, rS_0, wS_2, wS_1, wS_0, xS_2, xS_1, xS_0, ← first_eq]
  show [sign 0 (n : Int) _, sign 1 (n : Int) _, sign 2 (n : Int) _, sign 3 (n : Int) _, sign 4 (n : Int) _, sign 5 (n : Int) _, sign 6 (n : Int) _, sign 7 (n : Int) _, sign 8 (n : Int) _, sign 9 (n : Int) _] = _
  rw [row_one 1 (by decide) n 8 46 256 rfl "r", row_one 2 (by decide) n 7 48 128 rfl "w", row_three 3 (by decide) n 6 11 (by decide) 50 51 52 2112 2048 64 rfl rfl rfl "s" "S" "x",
    row_one 4 (by decide) n 5 54 32 rfl "r", row_one 5 (by decide) n 4 56 16 rfl "w", row_three 6 (by decide) n 3 10 (by decide) 58 59 60 1032 1024 8 rfl rfl rfl "s" "S" "x",
    row_one 7 (by decide) n 2 62 4 rfl "r", row_one 8 (by decide) n 1 64 2 rfl "w", row_three 9 (by decide) n 0 9 (by decide) 66 67 68 513 512 1 rfl rfl rfl "t" "T" "x"]
theorem app_cps (a b : Str) : (a ++ b).cps.toList = a.cps.toList ++ b.cps.toList := by
  show (a.cps ++ b.cps).toList = _
  rw [Array.toList_append]
theorem text_eq {k : Int} (h : 0 ≤ k) : (text3 k).cps.toList = (fmText k).cps.toList := by
  obtain ⟨n, rfl⟩ : ∃ n : Nat, k = (n : Int) := ⟨k.toNat, by omega⟩
  unfold fmText
  rw [join_cps, chrs_ten]
  simp only [text3, text2, text1, turnS, app_cps, List.map_cons, List.map_nil, List.flatten_cons, List.flatten_nil, List.append_nil, List.append_assoc]
/-! the law, plainly -/
theorem item_cps {x : Str} {i : Int} (h0 : 0 ≤ i) (h1 : i < x.length) : (Txt.item x i).cps.toList = [x.cps.toList.getD i.toNat 0] := by
  unfold Txt.item Txt.charAt
  have e : seqIndex? i x.length = some i.toNat := by
    unfold seqIndex?
    dsimp only
    rw [if_neg (show ¬ i < 0 by omega), if_pos (by rw [Bool.and_eq_true]; exact ⟨decide_eq_true h0, decide_eq_true h1⟩)]
  rw [e]
  simp
theorem getD_u8 {l : List Nat} (h : ∀ c ∈ l, c < 128) (i : Nat) : ((l.map Nat.toUInt8).getD i 0).toNat = l.getD i 0 := by
  rw [List.getD_eq_getElem?_getD, List.getD_eq_getElem?_getD, List.getElem?_map]
  cases e : l[i]? with
  | none => rfl
  | some c =>
    have := h c (List.mem_of_getElem? e)
    simp only [Option.map_some, Option.getD_some, Nat.toUInt8, UInt8.toNat_ofNat']
    omega
theorem law_plain (script : List Int) : (⟨((turnedB script).map UInt8.toNat).toArray⟩ : Str) = dueT script := by
  have ext : ∀ (l : List Nat) (y : Str), l = y.cps.toList → (⟨l.toArray⟩ : Str) = y := by
    intro l y h
    subst h
    cases y
    simp
  apply ext
  unfold dueT
  rw [join_cps, List.map_map]
  have e1 : listB (modesOf script) = ((modesOf script).map fun k => (fmText k).cps.toList.map Nat.toUInt8).flatten := by
    unfold listB listT
    rw [join_cps, List.map_map, List.map_flatten, List.map_map]
    rfl
  have e2 : turnedB script = turns (widthsOf script) (listB (modesOf script)) := rfl
  rw [e2, e1, turns_flat _ (widths_ok4 script) _ (by
    intro c hc
    obtain ⟨k, _, rfl⟩ := List.mem_map.mp hc
    rw [List.length_map, fm_len]), List.map_flatten, List.map_map, List.map_map]
  congr 1
  apply List.map_congr_left
  intro k hk
  have hk0 := (modes_rng hk).1
  show List.map UInt8.toNat (turns (widthsOf script) ((fmText k).cps.toList.map Nat.toUInt8)) = (Txt.join (Str.ofString "") (dueS script k)).cps.toList
  rw [turns_one (innOf script) (inn_or script) (widthsOf script) _ (by rw [List.length_map, fm_len]) (widths_ok script), join_cps]
  unfold dueS
  rw [List.map_map, List.map_map]
  have single : ∀ (l : List Int) (f : Int → Nat), (l.map fun p => [f p]).flatten = l.map f := by
    intro l f
    induction l with
    | nil => rfl
    | cons a r ih => rw [List.map_cons, List.flatten_cons, ih]; rfl
  rw [← single]
  congr 1
  apply List.map_congr_left
  intro p hp
  have hp2 := mem_rangeKs hp
  have hr := fromZ_rng (ns := widthsOf script) (inn_or script) hp2.1 (by omega)
  show [(((fmText k).cps.toList.map Nat.toUInt8).getD (fromZ p (innOf script) (widthsOf script)).toNat 0).toNat] = (Txt.item (text3 k) (fromZ p (innOf script) (widthsOf script))).cps.toList
  rw [item_cps hr.1 (by rw [text3_len]; exact hr.2), getD_u8 (fm_asc k), text_eq hk0]
end Mine
end

/-! ## C1 -/
section
open PySem PySem.W PyProof.Rows PySem.Calls PySem.Spec
open PySem.Sem (wp)
set_option maxRecDepth 100000
namespace Mine
section
variable {M : Model} {prog : Program} {w : World} {A : Around} {E : Value → Shared → Prop} {s : Shared} {h₀ : Heap} {L : Addr} {m : Str → Option Value} {env : Env}
/-- a block's own names, one of them captured -/
theorem newEnvC {scope : Scope} {globals : Addr} {cl : List (Str × Addr)} {qual : Str} {x : Str} {Q : Env → Shared → Prop}
    (hcf : ∀ n, cellsFrom n scope.names cl = (x, n) :: cl) (hpc : ∀ h, pushCells h scope.names = h.push { cls := .type "cell", data := .cell none })
    (hQ : Q { scope, locals := s.heap.objs.size, globals, cells := (x, s.heap.objs.size + 1) :: cl, qual, func := none, code := env.code, frame := env.frame, builtins := env.builtins }
      { s with heap := (s.heap.push { cls := .type "dict", data := .dict #[] }).push { cls := .type "cell", data := .cell none } }) :
    wpAny M A (newFunctionEnv scope globals cl [] qual none .none (some env)) Q E s := by
  simp only [newFunctionEnv, Option.isSome_some, if_true]
  refine wpAny_bind (wpAny_alloc ?_)
  refine wpAny_bind (wpAny_layCells _ (fun name kind cells => by cases hkc : kind == NameKind.cell <;> simp) _ _ _ _ ?_)
  rw [hcf, hpc]
  refine wpAny_bind ?_
  rw [List.forIn_nil]
  refine wpAny_pure (wpAny_pure ?_)
  rw [show ({ s with heap := s.heap.push { cls := .type "dict", data := .dict #[] } } : Shared).heap.objs.size = s.heap.objs.size + 1 from Heap.size_push ..]
  exact hQ

theorem assign_nest {elt iter : Expr} {x y : Str} {px py : Pos} {scope : Scope} {cl : List (Str × Addr)} {pos spos : Pos} {Q : Flow → Shared → Prop} {ax : Addr} {its : List Value} {news : List (Addr × Obj)} (J : Nat → List Value → List (Addr × Obj) → Prop)
    (hh : A.handled = none) (hLe : env.locals = L) (F : Fr h₀ L s.heap m) (N : News h₀ L s.heap news) (hm : (ax, LCg.lst its) ∈ news) (hsz : its.length ≤ 1000)
    (hJm : ∀ i ys nw, J i ys nw → (ax, LCg.lst its) ∈ nw) (h0 : J 0 [] news)
    (hcf : ∀ n, cellsFrom n scope.names cl = (x, n) :: cl) (hpc : ∀ h, pushCells h scope.names = h.push { cls := .type "cell", data := .cell none })
    (hsw : swapsWith (.ListComp elt [⟨.Name x px, iter, [], 0⟩] scope pos) (some (.Name y py)) spos.line env = pure true)
    (hclos : closureFor scope env = pure cl) (hkind : scope.kind = .function)
    (hnames : ∀ z ∈ scope.names, z.2 = .local → scope.names.lookup z.1 = some .local) (hx : (relabel scope env).names.lookup x = some .cell)
    (hy : env.kindOf y = some .local) (hp : (env.scope.kind == .class || (env.scope.kind == .module && env.locals != env.globals)) = false)
    (hiter : wpAny (model prog w) A (eval iter env) (fun xv s₁ => xv = .ref ax ∧ s₁ = s) E s)
    (turn : ∀ i v I oI C oC c oc D ys nw h tk (E' : Value → Shared → Prop), its[i]? = some v → J i ys nw → oc.data = .cell (some v) → Fr h₀ L h m → News h₀ L h ((I, oI) :: (C, oC) :: (c, oc) :: (D, LCg.lst ys) :: nw) →
      (∀ p ∈ nw, p.1 ≠ I ∧ p.1 ≠ C ∧ p.1 ≠ c ∧ p.1 ≠ D) → ((@Ne Nat I C) ∧ (@Ne Nat I c) ∧ (@Ne Nat I D) ∧ (@Ne Nat C c) ∧ (@Ne Nat C D) ∧ (@Ne Nat c D)) →
      wpAny (model prog w) A (eval elt (compEnvC scope ((x, c) :: cl) C env)) (fun y s₂ => ∃ h' tk' nw', s₂ = { s with heap := h', toks := tk' } ∧ Fr h₀ L h' m ∧ News h₀ L h' ((I, oI) :: (C, oC) :: (c, oc) :: (D, LCg.lst ys) :: nw') ∧
        (∀ p ∈ nw', p.1 ≠ I ∧ p.1 ≠ C ∧ p.1 ≠ c ∧ p.1 ≠ D) ∧ J (i + 1) (ys ++ [y]) nw') E' { s with heap := h, toks := tk })
    (fin : ∀ D h tk ys nw, Fr h₀ L h (fun z => if z = y then some (.ref D) else m z) → News h₀ L h ((D, LCg.lst ys) :: nw) → (∀ p ∈ nw, p.1 ≠ D) → J its.length ys nw → Q .next { s with heap := h, toks := tk })
    (hs : ∀ x, foldedSetIterable iter env x = pure x := by intro _; rfl) :
    wpAny (model prog w) A (exec (.Assign [.Name y py] (.ListComp elt [⟨.Name x px, iter, [], 0⟩] scope pos) spos) env) Q E s := by
  subst hLe
  rw [exec_Assign_Name_used _ _ _ _ hsw]
  refine wpAny_bind (wpAny_standAt (wpAny_bind ?_))
  show wpAny _ A (do let _ ← comprehension (.ListComp elt [⟨.Name x px, iter, [], 0⟩] scope pos) scope env _ (newList []) false (eval iter env) (some (assign (.Name y py) env))) _ _ s
  refine wpAny_bind (wpAny_mono (wpAny_comprehension_free (use := some (assign (.Name y py) env)) (Q := fun _ s' => Q .next s') rfl hs hclos hkind hnames
    (wpAny_mono hiter (fun xv s₁ h₁ => ?_) fun _ _ e => e)) (fun _ s' hq => wpAny_pure (wpAny_pure hq)) fun _ _ e => e)
  obtain ⟨rfl, rfl⟩ := h₁
  have hl : s₁.heap.IsList ax its.toArray := ⟨_, (N _ hm).1, rfl, _, rfl⟩
  refine wpAny_pyIter_list hl ?_
  refine wpAny_newObj_type (newEnvC hcf hpc ?_)
  dsimp only
  have hszI : s₁.heap.objs.size = s₁.heap.objs.size := rfl
  generalize hI : s₁.heap.objs.size = I
  have oldlt : ∀ b o, s₁.heap.get? b = some o → b < I := fun b o e => hI ▸ Heap.lt_size e
  generalize hH1 : s₁.heap.push { cls := .type "list_iterator", data := .fields #[.ref ax, .int 0 0] } = H1
  have s1 : H1.objs.size = I + 1 := by rw [← hH1, Heap.size_push, hI]
  have g1 : H1.get? I = some { cls := .type "list_iterator", data := .fields #[.ref ax, .int 0 0] } := by rw [← hH1, ← hI]; exact Heap.get?_push_size _ rfl
  have k1 : ∀ b o, s₁.heap.get? b = some o → H1.get? b = some o := fun b o e => hH1 ▸ Heap.get?_push_of_some _ e
  rw [s1]
  generalize hH2 : H1.push { cls := .type "list", data := .seq ([] : List Value).toArray } = H2
  have s2 : H2.objs.size = I + 2 := by rw [← hH2, Heap.size_push, s1]
  have g2 : H2.get? (I + 1) = some (LCg.lst []) := by rw [← hH2, ← s1]; exact Heap.get?_push_size _ rfl
  have k2 : ∀ b o, H1.get? b = some o → H2.get? b = some o := fun b o e => hH2 ▸ Heap.get?_push_of_some _ e
  rw [s2]
  generalize hH3 : H2.push { cls := .type "dict", data := .dict #[] } = H3
  have s3 : H3.objs.size = I + 3 := by rw [← hH3, Heap.size_push, s2]
  have n3 : H3.Ns (I + 2) (fun _ => none) := by rw [← hH3, ← s2]; exact Heap.Ns.new _ _
  have k3 : ∀ b o, H2.get? b = some o → H3.get? b = some o := fun b o e => hH3 ▸ Heap.get?_push_of_some _ e
  generalize hH4 : H3.push { cls := .type "cell", data := .cell none } = H4
  have g4 : H4.get? (I + 3) = some { cls := .type "cell", data := .cell none } := by rw [← hH4, ← s3]; exact Heap.get?_push_size _ rfl
  have k4 : ∀ b o, H3.get? b = some o → H4.get? b = some o := fun b o e => hH4 ▸ Heap.get?_push_of_some _ e
  have k04 : ∀ b o, s₁.heap.get? b = some o → H4.get? b = some o := fun b o e => k4 _ _ (k3 _ _ (k2 _ _ (k1 _ _ e)))
  obtain ⟨oC, eC, hoC⟩ := LCg.ns_obj (n3.at' fun o e => k4 _ _ e)
  have fresh₀ : ∀ a, I ≤ a → h₀.get? a = none := fun a ha => by
    cases e : h₀.get? a with
    | none => rfl
    | some o' => exact absurd (oldlt _ _ (F.keep a o' e)) (Nat.not_lt.mpr ha)
  have hLlt : env.locals < I := hI ▸ F.ns.lt
  have neL : ∀ a, I ≤ a → a ≠ env.locals := fun a ha e => absurd hLlt (by rw [← e]; exact Nat.not_lt.mpr ha)
  have W := Walks.list (prog := prog) (w := w) (A := A) hh I ax (Nat.ne_of_lt (oldlt _ _ (N _ hm).1)) its.toArray
  have hcx : (compEnvC scope ((x, I + 3) :: cl) (I + 2) env).cells.lookup x = some (I + 3) := by
    show List.lookup x ((x, I + 3) :: cl) = _
    rw [List.lookup_cons, beq_self_eq_true]
  have off0 : ∀ p ∈ news, p.1 ≠ I ∧ p.1 ≠ I + 2 ∧ p.1 ≠ I + 3 ∧ p.1 ≠ I + 1 := fun p hp => by
    have q : @LT.lt Nat _ p.1 I := oldlt _ _ (N p hp).1
    refine ⟨?_, ?_, ?_, ?_⟩ <;> (intro e; have e' : @Eq Nat p.1 _ := e; omega)
  have loop : codeAny (model prog w) A (.compLoop (.ListComp elt [⟨.Name x px, iter, [], 0⟩] scope pos) 0 (.ref I) (.ref (I + 1)) (compEnvC scope ((x, I + 3) :: cl) (I + 2) env))
      (compPost (model prog w) A E (some (assign (.Name y py) env)) (fun _ s' => Q .next s') (.ref (I + 1)) (I + 2)) { s₁ with heap := H4 } := by
    refine codeAny_compLoop_tests
      (fun k s' => ∃ h' tk i ys nw oI oc, s' = { s₁ with heap := h', toks := tk } ∧ i ≤ its.length ∧ k = its.length + 1 - i ∧ ys.length = i ∧ (h'.IsListIter I ax i ∧ h'.IsList ax its.toArray) ∧ Fr h₀ env.locals h' m ∧ h'.get? I = some oI ∧ (∃ v, h'.IsCell (I + 3) v) ∧
        News h₀ env.locals h' ((I, oI) :: (I + 2, oC) :: (I + 3, oc) :: (I + 1, LCg.lst ys) :: nw) ∧ (∀ p ∈ nw, p.1 ≠ I ∧ p.1 ≠ I + 2 ∧ p.1 ≠ I + 3 ∧ p.1 ≠ I + 1) ∧ J i ys nw) ?_ (its.length + 1)
      ⟨H4, s₁.toks, 0, [], news, _, { cls := .type "cell", data := .cell none }, rfl, Nat.zero_le _, rfl, rfl, ⟨⟨_, k4 _ _ (k3 _ _ (k2 _ _ g1)), rfl, rfl⟩, hl.at fun o e => k04 _ _ e⟩, F.keeps k04, k4 _ _ (k3 _ _ (k2 _ _ g1)), ⟨none, _, g4, rfl⟩, ?_, off0, h0⟩
    · rintro k s' ⟨h', tk, i, ys, nw, oI, oc, rfl, hi, rfl, hyl, hst, F', eI, ⟨vc, hcell⟩, N', off, hj⟩
      have NI := N' _ (.head _)
      have NC := N' _ (.tail _ (.head _))
      have Nc := N' _ (.tail _ (.tail _ (.head _)))
      have ND := N' _ (.tail _ (.tail _ (.tail _ (.head _))))
      have Nr : News h₀ env.locals h' nw := fun p hp => N' p (.tail _ (.tail _ (.tail _ (.tail _ hp))))
      have ne1 : ∀ a b : Nat, a ≠ b → (a : Addr) ∉ [(b : Addr)] := fun a b hab hm => hab (List.mem_singleton.mp hm)
      by_cases hlt : i < its.length
      · refine W.item i _ _ _ (by simpa using hlt) hst fun v h₂ tk₂ hPv hst₂ hk₂ => ?_
        refine wpAny_assign_Name (wpAny_storeName_cell (c := I + 3) (v₀ := vc) (by simp [compEnvC, relabel, hkind]) hx hcx ?_ fun h₃ hc₃ hs₃ => ?_)
        · obtain ⟨o, e, d⟩ := hcell
          exact ⟨o, hk₂ _ _ (ne1 _ _ (by omega)) e, d⟩
        refine wpAny_tests_nil ?_
        simp only [if_true]
        have k23 : ∀ b o, b ≠ I + 3 → h₂.get? b = some o → h₃.get? b = some o := fun b o hb e => hs₃.extBut b o hb e
        have kk : ∀ b o, b ≠ I → b ≠ I + 3 → h'.get? b = some o → h₃.get? b = some o := fun b o h1 h2 e => k23 b o h2 (hk₂ _ _ (fun q => h1 (List.mem_singleton.mp q)) e)
        have hneI : (ax : Addr) ≠ I + 3 := fun q => by have q1 : @LT.lt Nat _ ax I := oldlt _ _ (N _ hm).1; have q2 : @Eq Nat ax _ := q; omega
        have hst₃ : h₃.IsListIter I ax (i + 1) ∧ h₃.IsList ax its.toArray := W.frame _ _ _ hst₂ fun b hb o e => k23 b o (fun q => by
          rcases List.mem_cons.mp hb with e1 | e1
          · exact absurd (e1.symm.trans q) (fun z => by have z' : @Eq Nat I _ := z; omega)
          · exact hneI ((List.mem_singleton.mp e1).symm.trans q)) e
        obtain ⟨oI3, heI, hI3⟩ := hst₃.1
        obtain ⟨oc3, hec, hdc⟩ := hc₃
        have F₃ : Fr h₀ env.locals h₃ m := ⟨F'.ns.at' fun o e => kk _ o (Ne.symm (neL _ (Nat.le_refl _))) (Ne.symm (neL _ (Nat.le_add_right _ _))) e,
          fun b o e => kk b o (fun q => by rw [q, fresh₀ _ (Nat.le_refl _)] at e; cases e) (fun q => by rw [q, fresh₀ _ (Nat.le_add_right _ _)] at e; cases e) (F'.keep b o e), F'.above⟩
        have N₃ : News h₀ env.locals h₃ ((I, oI3) :: (I + 2, oC) :: (I + 3, oc3) :: (I + 1, LCg.lst ys) :: nw) := fun p hp => by
          rcases List.mem_cons.mp hp with rfl | hp
          · exact ⟨heI, NI.2⟩
          rcases List.mem_cons.mp hp with rfl | hp
          · exact ⟨kk _ _ (by show @Ne Nat _ _; omega) (by show @Ne Nat _ _; omega) NC.1, NC.2⟩
          rcases List.mem_cons.mp hp with rfl | hp
          · exact ⟨hec, Nc.2⟩
          rcases List.mem_cons.mp hp with rfl | hp
          · exact ⟨kk _ _ (by show @Ne Nat _ _; omega) (by show @Ne Nat _ _; omega) ND.1, ND.2⟩
          · exact ⟨kk _ _ (off p hp).1 (off p hp).2.2.1 (Nr p hp).1, (Nr p hp).2⟩
        refine wpAny_mono (turn i v I oI3 (I + 2) oC (I + 3) oc3 (I + 1) ys nw h₃ _ _ (by simpa using hPv) hj hdc F₃ N₃ off ⟨by omega, by omega, by omega, by omega, by omega, by omega⟩) (fun yv s₄ h₄ => ?_) fun _ _ e => e
        obtain ⟨h₄, tk₄, nw₄, rfl, F₄, N₄, off₄, hj₄⟩ := h₄
        have MI := N₄ _ (.head _)
        have MC := N₄ _ (.tail _ (.head _))
        have Mc := N₄ _ (.tail _ (.tail _ (.head _)))
        have MD := N₄ _ (.tail _ (.tail _ (.tail _ (.head _))))
        have Mr : News h₀ env.locals h₄ nw₄ := fun p hp => N₄ p (.tail _ (.tail _ (.tail _ (.tail _ hp))))
        refine append_at (hsz := by show ys.toArray.size ≤ sizeLine; rw [List.size_toArray, hyl, sizeLine_eq]; omega) MD.1 fun h₅ hs₅ hD₅ => ?_
        have k45 : ∀ b o, b ≠ I + 1 → h₄.get? b = some o → h₅.get? b = some o := fun b o hb e => hs₅.extBut b o hb e
        have hD₀ : h₀.get? (I + 1) = none := fresh₀ _ (Nat.le_add_right _ _)
        refine ⟨its.length + 1 - (i + 1), by omega, h₅, tk₄, i + 1, ys ++ [yv], nw₄, oI3, oc3, rfl, hlt, rfl, by rw [List.length_append, List.length_singleton, hyl], ⟨⟨oI3, k45 _ _ (by show @Ne Nat _ _; omega) MI.1, hI3⟩, ?_⟩, F₄.change hs₅ MD.2.1 hD₀,
          k45 _ _ (by show @Ne Nat _ _; omega) MI.1, ⟨_, oc3, k45 _ _ (by show @Ne Nat _ _; omega) Mc.1, hdc⟩, fun p hp => ?_, off₄, hj₄⟩
        · have q := hJm _ _ _ hj₄
          exact ⟨_, k45 _ _ (off₄ _ q).2.2.2 (Mr _ q).1, rfl, _, rfl⟩
        · rcases List.mem_cons.mp hp with rfl | hp
          · exact ⟨k45 _ _ (by show @Ne Nat _ _; omega) MI.1, MI.2⟩
          rcases List.mem_cons.mp hp with rfl | hp
          · exact ⟨k45 _ _ (by show @Ne Nat _ _; omega) MC.1, MC.2⟩
          rcases List.mem_cons.mp hp with rfl | hp
          · exact ⟨k45 _ _ (by show @Ne Nat _ _; omega) Mc.1, Mc.2⟩
          rcases List.mem_cons.mp hp with rfl | hp
          · exact ⟨hD₅.trans (congrArg some (LCg.lst_snoc ys yv)), MD.2⟩
          · exact ⟨k45 _ _ (off₄ p hp).2.2.2 (Mr p hp).1, (Mr p hp).2⟩
      · obtain rfl : i = its.length := Nat.le_antisymm hi (Nat.not_lt.mp hlt)
        have hst' := hst
        rw [← List.size_toArray] at hst'
        refine W.done _ _ _ hst' fun h₂ tk₂ hk₂ => ?_
        have F₂ : Fr h₀ env.locals h₂ m := LCg.fr_but F' hk₂ (Ne.symm (neL _ (Nat.le_refl _))) (fresh₀ _ (Nat.le_refl _))
        show wpAny _ A (assign (.Name y py) env (.ref (I + 1))) _ _ _
        refine wpAny_assign_Name (wpAny_storeName_local hy F₂.ns (fun h₃ hn₃ hs₃ => ?_) hp)
        have hL₀ : h₀.get? env.locals = none := Heap.get?_none_of_le F'.above
        have F₃ : Fr h₀ env.locals h₃ (fun z => if z = y then some (.ref (I + 1)) else m z) := ⟨hn₃, fun b o e => hs₃.extBut b o (fun q => by rw [q, hL₀] at e; cases e) (F₂.keep b o e), F₂.above⟩
        have nsC : h₃.Ns (I + 2) (fun _ => none) := hoC.ns (hs₃.extBut _ _ NC.2.1 (hk₂ _ _ (ne1 _ _ (by omega)) NC.1))
        refine ⟨_, nsC, fun h₄ hs₄ => fin (I + 1) h₄ _ ys nw (F₃.change hs₄ NC.2.1 NC.2.2) (fun p hp => ?_) (fun p hp => (off p hp).2.2.2) hj⟩
        rcases List.mem_cons.mp hp with rfl | hp
        · exact ⟨hs₄.extBut _ _ (by show @Ne Nat _ _; omega) (hs₃.extBut _ _ ND.2.1 (hk₂ _ _ (ne1 _ _ (by omega)) ND.1)), ND.2⟩
        · exact ⟨hs₄.extBut _ _ (off p hp).2.1 (hs₃.extBut _ _ (Nr p hp).2.1 (hk₂ _ _ (fun q => (off p hp).1 (List.mem_singleton.mp q)) (Nr p hp).1)), (Nr p hp).2⟩
    · intro p hp
      rcases List.mem_cons.mp hp with rfl | hp
      · exact ⟨k4 _ _ (k3 _ _ (k2 _ _ g1)), neL _ (Nat.le_refl _), fresh₀ _ (Nat.le_refl _)⟩
      rcases List.mem_cons.mp hp with rfl | hp
      · exact ⟨eC, neL _ (Nat.le_add_right _ _), fresh₀ _ (Nat.le_add_right _ _)⟩
      rcases List.mem_cons.mp hp with rfl | hp
      · exact ⟨g4, neL _ (Nat.le_add_right _ _), fresh₀ _ (Nat.le_add_right _ _)⟩
      rcases List.mem_cons.mp hp with rfl | hp
      · exact ⟨k4 _ _ (k3 _ _ g2), neL _ (Nat.le_add_right _ _), fresh₀ _ (Nat.le_add_right _ _)⟩
      · exact ⟨k04 _ _ (N p hp).1, (N p hp).2⟩
  exact codeAny_compStart_list loop (W.self 0 _ _ _ ⟨⟨_, k4 _ _ (k3 _ _ (k2 _ _ g1)), rfl, rfl⟩, hl.at fun o e => k04 _ _ e⟩ loop)
end
end Mine
end

/-! ## C2 -/
section
open PySem PySem.W PyProof.Rows PySem.Calls PySem.Spec
set_option maxRecDepth 100000
namespace Mine
section
variable {prog : Program} {w : World} {A : Around} {h₀ : Heap} {L : Addr} {m : Str → Option Value} {env : Env} {elt : Expr} {x : Str} {scope : Scope} {cl : List (Str × Addr)} {s : Shared} {S : List (Addr × Obj) → Prop} {P : Nat → Value → Prop} {Fin : List Value → List (Addr × Obj) → Prop} {news : List (Addr × Obj)}
/-- a block whose turns each write one text and leave the ledger as it was -/
theorem rest_txt {n : Nat} {ts : List Str} (hn : ts.length = n) (hS : S news)
    (turn : ∀ i v y I oI C oC D m₂ ys h tk (E' : Value → Shared → Prop), P i v → ts[i]? = some y → LCg.NsObj oC m₂ → m₂ x = some v → Fr h₀ L h m → News h₀ L h ((I, oI) :: (C, oC) :: (D, LCg.lst ys) :: news) →
      wpAny (model prog w) A (eval elt (compEnvC scope cl C env)) (fun r s₂ => ∃ h' tk' t, r = .str y t ∧ s₂ = { s with heap := h', toks := tk' } ∧ Fr h₀ L h' m ∧ News h₀ L h' ((I, oI) :: (C, oC) :: (D, LCg.lst ys) :: news)) E' { s with heap := h, toks := tk })
    (fin : ∀ ys, StrsAre ys ts → Fin ys news) : LCg.CompRest prog w A h₀ L m env elt x scope cl s S P Fin n 0 [] news := by
  have key : ∀ (j i : Nat) (ys : List Value), i + j = n → StrsAre ys (ts.take i) → LCg.CompRest prog w A h₀ L m env elt x scope cl s S P Fin j i ys news := by
    intro j
    induction j with
    | zero =>
      intro i ys hi hy
      rw [List.take_of_length_le (by omega)] at hy
      exact LCg.CompRest.zero (fin ys hy)
    | succ j ih =>
      intro i ys hi hy
      refine LCg.CompRest.succ ?_
      intro v I oI C oC D m₂ h tk E' hv hC hx F N off ne
      have hlt : i < ts.length := by omega
      have ey : ts[i]? = some ts[i] := List.getElem?_eq_getElem hlt
      refine wpAny_mono (turn i v _ I oI C oC D m₂ ys h tk E' hv ey hC hx F N) (fun r s₂ hq => ?_) fun _ _ e => e
      obtain ⟨h', tk', t, rfl, rfl, F', N'⟩ := hq
      refine ⟨h', tk', news, rfl, F', N', off, hS, ?_⟩
      refine ih (i + 1) _ (by omega) ?_
      rw [List.take_add_one, ey]
      exact kct_snoc hy
  exact key n 0 [] (by omega) .nil
end
end Mine
end

/-! ## MALL -/
section
open PySem PySem.W PyProof.Rows PySem.Calls PySem.Spec
set_option maxRecDepth 100000
set_option maxHeartbeats 8000000
namespace Mine
/-- one statement that asks nothing of the stack, ahead of statements that do -/
theorem stepN {M : Model} {A : Around} {E : Value → Shared → Prop} {s : Shared} {env : Env} {st : Stmt} {rest : List Stmt} {Q : Flow → Shared → Prop} (P : Shared → Prop)
    (h : ∀ Q' : Flow → Shared → Prop, (∀ s', P s' → Q' .next s') → wpAny M A (exec st env) Q' E s)
    (k : ∀ s', P s' → wpN M A (execs rest env) Q E s') : wpN M A (execs (st :: rest) env) Q E s := wpN_execs_cons (wpN_of_any (h _ fun s' hP => k s' hP))
theorem forQE {α : Type} {M : Model} {A : Around} {E : Value → Shared → Prop} {s : Shared} {t : Sem α} {Q : α → Shared → Prop} (P : α → Shared → Prop)
    (h : ∀ (Q' : α → Shared → Prop) (E' : Value → Shared → Prop), (∀ a s', P a s' → Q' a s') → wpN M A t Q' E' s) (k : ∀ a s', P a s' → Q a s') : wpN M A t Q E s := h Q E k
/-- where the law ends -/
def LawEnd (g : Heap) (L : Addr) (s₁ : Shared) (fl : Flow) (s' : Shared) : Prop :=
  fl = .ret (.bool true) ∧ ∃ h tk m ps, s' = { s₁ with heap := h, toks := tk } ∧ Fr g L h m ∧ News g L h [(93, tabObj ps)]
def At1 (g : Heap) (L : Addr) (s₁ : Shared) (script : List Int) (a0 : Addr) (s' : Shared) : Prop :=
  ∃ (h : Heap) (tk : Nat) (a1 : Addr) (ysM : List Value) (tI : Tok) (o1 o2 : Obj) (m : Str → Option Value), s' = { s₁ with heap := h, toks := tk } ∧ Fr g L h m ∧ m (Str.ofString "modes") = some (.ref a1) ∧ m (Str.ofString "script") = some (.ref a0) ∧
    News g L h [(a1, LCg.lst ysM), (L + 1 + 1, o2), (L + 1, o1), (93, tabObj #[])] ∧ o1.data = .cell (some (.int (2 + 3 * (script.take 6).sum.fmod 2) tI)) ∧ o2.data = .cell none ∧
    IntsAre ysM (List.map (fun k' => k'.fmod (2 ^ Int.toNat 16)) (List.take 3 script ++ [33261, 17407])) ∧ (@Ne Nat (L + 1 + 1) a1 ∧ @Ne Nat (L + 1) a1 ∧ @Ne Nat 93 a1)
noncomputable abbrev inn (script : List Int) : Int := 2 + 3 * (script.take 6).sum.fmod 2
/-- behind the law's second statement -/
def At2 (g : Heap) (L : Addr) (s₁ : Shared) (script : List Int) (s' : Shared) : Prop :=
  ∃ (h : Heap) (tk : Nat) (a1 a2 : Addr) (ysM ysW : List Value) (tI : Tok) (o1 o2 : Obj) (m : Str → Option Value), s' = { s₁ with heap := h, toks := tk } ∧ Fr g L h m ∧ m (Str.ofString "modes") = some (.ref a1) ∧
    News g L h [(a2, LCg.lst ysW), (a1, LCg.lst ysM), (L + 1 + 1, o2), (L + 1, o1), (93, tabObj #[])] ∧ o1.data = .cell (some (.int (2 + 3 * (script.take 6).sum.fmod 2) tI)) ∧ o2.data = .cell (some (.ref a2)) ∧
    IntsAre ysM (List.map (fun k' => k'.fmod (2 ^ Int.toNat 16)) (List.take 3 script ++ [33261, 17407])) ∧
    IntsAre ysW (List.map (fun k' => if k'.fmod 3 = 0 then 1 else if k'.fmod 3 = 1 then 2 + 3 * (script.take 6).sum.fmod 2 else if k'.fmod 3 = 2 then 10 else k') (List.take 6 script ++ [1, 2, 0, 2, 1, 1])) ∧ (@Ne Nat (L + 1 + 1) a1 ∧ @Ne Nat (L + 1) a1 ∧ @Ne Nat 93 a1) ∧ (@Ne Nat a1 a2 ∧ @Ne Nat (L + 1 + 1) a2 ∧ @Ne Nat (L + 1) a2 ∧ @Ne Nat 93 a2)
/-- behind the law's third statement -/
def At3 (g : Heap) (L : Addr) (s₁ : Shared) (script : List Int) (s' : Shared) : Prop :=
  ∃ (h : Heap) (tk : Nat) (a1 a2 : Addr) (ysM ysW : List Value) (tI tT : Tok) (o1 o2 : Obj) (m : Str → Option Value) (ps : Array Value), s' = { s₁ with heap := h, toks := tk } ∧ Fr g L h m ∧ m (Str.ofString "modes") = some (.ref a1) ∧ m (Str.ofString "turned") = some (.bytes (turnedB script).toArray tT) ∧
    News g L h [(a2, LCg.lst ysW), (a1, LCg.lst ysM), (L + 1 + 1, o2), (L + 1, o1), (93, tabObj ps)] ∧ o1.data = .cell (some (.int (innOf script) tI)) ∧ o2.data = .cell (some (.ref a2)) ∧
    IntsAre ysM (modesOf script) ∧ IntsAre ysW (widthsOf script) ∧ (@Ne Nat (L + 1 + 1) a1 ∧ @Ne Nat (L + 1) a1 ∧ @Ne Nat 93 a1) ∧ (@Ne Nat a1 a2 ∧ @Ne Nat (L + 1 + 1) a2 ∧ @Ne Nat (L + 1) a2 ∧ @Ne Nat 93 a2)
theorem stepNN {M : Model} {A : Around} {E : Value → Shared → Prop} {s : Shared} {env : Env} {st : Stmt} {rest : List Stmt} {Q : Flow → Shared → Prop} (P : Shared → Prop)
    (h : ∀ Q' : Flow → Shared → Prop, (∀ s', P s' → Q' .next s') → wpN M A (exec st env) Q' E s)
    (k : ∀ s', P s' → wpN M A (execs rest env) Q E s') : wpN M A (execs (st :: rest) env) Q E s := wpN_execs_cons (h _ fun s' hP => k s' hP)
local macro_rules | `(tactic| walk_at "call ref") => `(tactic| (k_dflt (refine ctr_use (filemode_c _ _ _ _) (by k_asm) (by k_asm) (by k_asm) (by k_asm) (by k_asm) rfl (modes_rng (by assumption)) (by ktr_room) (by ktr_units) ?_); intro u9 h9 tk9 F9 N9))
/-- a goal set aside from the walk -/
def Halt (p : Prop) : Prop := p
theorem halt {p : Prop} (h : Halt p) : p := h
theorem elt_txt {prog : Program} {w : World} {A : Around} {h₀ h : Heap} {L I C D : Addr} {m : Str → Option Value} {env : Env} {elt : Expr} {scope : Scope} {cl : List (Str × Addr)} {s : Shared} {S : List (Addr × Obj) → Prop} {news : List (Addr × Obj)} {oI oC : Obj} {ys : List Value} {g : Int → Str} {k : Int} {tk : Nat} {E' : Value → Shared → Prop}
    (off : LCg.Off3 I C D news) (hS : S news)
    (hh : ∀ Q' : Value → Shared → Prop, (∀ h2 tk2 u, Fr h₀ L h2 m → News h₀ L h2 ((I, oI) :: (C, oC) :: (D, LCg.lst ys) :: news) → Q' (.str (g k) u) { s with heap := h2, toks := tk2 }) → wpAny (model prog w) A (eval elt (compEnvC scope cl C env)) Q' E' { s with heap := h, toks := tk }) :
    wpAny (model prog w) A (eval elt (compEnvC scope cl C env)) (LCg.CompEnd h₀ L m { s with heap := h, toks := tk } I oI C oC D (LCg.lst ys) S (fun y news' => KCtEl news (g k) y news')) E' { s with heap := h, toks := tk } :=
  hh _ fun h2 tk2 u F2 N2 => ⟨h2, tk2, news, rfl, F2, N2, off, hS, rfl, u, rfl⟩
local macro_rules | `(tactic| walk_at "CompSrc") => `(tactic| ((with_reducible show LCg.CompSrc _ _ _ _ _ _ _ (Expr.Call (Expr.Name _ _) _ _ _) _ _ _ _ _ _); refine halt ?_))
theorem ctrN_use {w : World} {f : Addr} {news : List (Addr × Obj)} {room : Nat} {pre : Prop} {vs : List Value} {R : Tok → Value} (C : CtrN w f news room pre vs R)
    {mean : ExcName → Option Value} {mg mb : Str → Option Value} {dp un : Nat} {gd : Option (List Code)} {cn : Str} {cs : Scope} {a : Addr} {ccd : Value} {cl : List (Str × Addr)} {outer : List Env} {A₀ : Around} {base h₀ : Heap} {L : Addr} {m : Str → Option Value} {s : Shared} {Q E : Value → Shared → Prop}
    (B : Below A₀ base outer h₀) (F : Fr h₀ L s.heap m) (X : (hd.heap_39 w.params).In h₀) (N : News h₀ L s.heap news) (T : Top topProg LS mean mg mb h₀) (hk : cs.kind = .function)
    (hp : pre) (hdp : dp + room < recursionLimit) (hun : un + 8 * room < cLine) (hret : CbRet h₀ L m news s Q R) : wpN (model PP w) (ktrTop dp un gd cn cs L a ccd cl outer) (call (.ref f) vs) Q E s :=
  C mean mg mb dp un gd cn cs a ccd cl outer A₀ base h₀ L m s Q E B F X N T hk hp hdp hun hret
theorem reduce_law {w : World} {D f c' a2 : Addr} {oD oc : Obj} {name qual : Str} {p1 p2 q1 q2 q3 q4 : Pos} {pm ctv : Value} {vs : Array Value} {tq t : Tok} {ysW : List Value} {ns : List Int} {b : List UInt8} {tl : List (Addr × Obj)}
    (hd : oc.data = .fields vs) (hq : vs[1]? = some (.str qual tq)) (hi : IntsAre ysW ns) :
    CtrN w 30 ((D, oD) :: (f, kla_obj name qual (lamParams p1 p2) (lamBody q1 q2 q3 q4) lamScope [] pm c' ctv) :: (c', oc) :: (a2, LCg.lst ysW) :: tl) 3
      (b.length % 10 = 0 ∧ b.length ≤ 50 ∧ ∀ n ∈ ns, n = 1 ∨ n = 2 ∨ n = 5 ∨ n = 10) [.ref f, .ref a2, .bytes b.toArray t] (fun u => .bytes (ns.foldl (fun x n => swapL x n.toNat) b).toArray u) :=
  reduce_c w _ f a2 ysW ns b t ⟨⟨_, _, .tail _ (.head _), rfl⟩, fun news' sub b wd t t' => lambda_c w news' f c' name qual p1 p2 q1 q2 q3 q4 pm ctv oc vs tq (sub _ (.tail _ (.head _))) (sub _ (.tail _ (.tail _ (.head _)))) hd hq b wd t t'⟩
    (.tail _ (.tail _ (.tail _ (.head _)))) hi
theorem off1_mem {D : Addr} : ∀ {l : List (Addr × Obj)}, LCg.Off1 D l → ∀ p ∈ l, p.1 ≠ D
  | [], _, _, h => nomatch h
  | _ :: _, x, p, h => by
    rcases List.mem_cons.mp h with rfl | h
    · exact x.1
    · exact off1_mem x.2 p h
/-- behind the law's fourth statement -/
def At4 (g : Heap) (L : Addr) (s₁ : Shared) (script : List Int) (s' : Shared) : Prop :=
  ∃ (h : Heap) (tk : Nat) (D : Addr) (ysD : List Value) (tT : Tok) (m : Str → Option Value) (nw : List (Addr × Obj)) (ps : Array Value), s' = { s₁ with heap := h, toks := tk } ∧ Fr g L h m ∧ m (Str.ofString "due") = some (.ref D) ∧ m (Str.ofString "turned") = some (.bytes (turnedB script).toArray tT) ∧
    News g L h ((D, LCg.lst ysD) :: nw) ∧ (93, tabObj ps) ∈ nw ∧ DueAre nw (dueS script) ysD (modesOf script)
theorem forQ {α : Type} {M : Model} {A : Around} {E : Value → Shared → Prop} {s : Shared} {t : Sem α} {Q : α → Shared → Prop} (P : α → Shared → Prop)
    (h : ∀ Q' : α → Shared → Prop, (∀ a s', P a s' → Q' a s') → wpAny M A t Q' E s) (k : ∀ a s', P a s' → Q a s') : wpAny M A t Q E s := h Q k
local macro_rules | `(tactic| walk_at "eval Name") => `(tactic| ((with_reducible show wpAny _ _ (eval (Expr.Name _ _) (compEnvC _ _ _ _)) _ _ _); k_dflt (refine lcf_cell (by k_asm) rfl (by repeat (first | assumption | exact List.Mem.head _ | refine List.Mem.tail _ ?_)) (by k_asm) ?_ rfl rfl)))
local macro_rules | `(tactic| walk_at "call ref") => `(tactic| first
  | (k_dflt (refine ctr_use (signs_c _ _ _ _) (by k_asm) (by k_asm) (by k_asm) (by k_asm) (by k_asm) rfl (by assumption) (by ktr_room) (by ktr_units) ?_); intro u9 h9 tk9 F9 N9)
  | ((with_reducible show wpAny _ _ (call (Value.ref 91) _) _ _ _); refine halt ?_))
local macro_rules | `(tactic| walk_at "eval ListComp") => `(tactic| ((with_reducible show wpAny _ _ (eval (Expr.ListComp (Expr.Call (Expr.Attribute _ _ _) _ _ _) _ _ _) _) _ _ _); refine halt ?_))

theorem main_holds : PySem.Challenge.rw_oc0049_01.Holds := hd (by
  k_fill
  intro w s₀ s₁ mg mb G Y fa o pm cd doc dV kV ho hd hcd hD hmg hg args vals as hpre hlay hrd hwl hlo
  have KX := km_in_of Y
  km_tabs Y
  have X := (Ground.X G).1
  have V := (Ground.X G).2
  refine Ground.open G ?_
  intro T B D TE TW
  try (refine guard_noD D (by decide +kernel) ?_; clear D)
  km_lay T hmg ho hd cd
  clear hmg
  wrow_args hpre hlay hrd hwl hlo
  refine enter_callN PySem.Challenge.rw_oc0049_01.row.prog w (by assumption) (fun _ _ => rfl) ?_
  w_top on
  have he := Dflts.none hD rfl; subst he; have he := Dflts.noKw hD; subst he
  refine call_cellsNN (by decide) ho (fd_plain hd) (Top.nolimit T) hcd rfl (kinds_of (by kinds_ok)) (by decide) fun h₁ tk₁ cells F N0 X0 => ?_
  cells_open X0
  clear hd
  kn_ghosts F T
  k_drop
  (try k_fold)
  with_reducible refine forQE (LawEnd (ghostOf s₁.heap [(95, 93)]) s₁.heap.objs.size s₁) ?body ?fin
  case fin =>
    rintro fl s' ⟨rfl, h9, tk9, m9, ps9, rfl, F9, N9⟩
    k_steps
  case body =>
    intro Q' E' hQ
    rename_i scr _ _ _ _ _ _ _ a0 vs0 _ _ _ _ _ hI0 _ hlen _ _ _ hl9 hr9 X9 T9 K9 F9 N9 l09
    with_reducible refine stepN (At1 (ghostOf s₁.heap [(95, 93)]) s₁.heap.objs.size s₁ scr a0) ?s1 ?rest
    case s1 =>
      clear hQ
      intro Q9 hK
      k_steps
      rename Fr _ _ _ _ => F8
      rename News _ _ _ _ => N8
      refine hK _ ⟨_, _, _, _, _, _, _, _, rfl, F8, rfl, rfl, cb_drop N8 ?_, by assumption, hl9, by assumption, by simp_all only [ne_eq, not_false_eq_true, and_self]⟩
      intro p hp
      simp only [List.mem_cons, List.not_mem_nil, or_false] at hp ⊢
      rcases hp with rfl | rfl | rfl | rfl <;> simp
    case rest =>
      clear hl9 hr9 F9 N9 hD hcd X0
      rintro _ ⟨h1, tk1, a1, ysM, tI, o1, o2, m1, rfl, F1, em1, em2, N1, ho1, ho2, hIM, hne⟩
      rw [form2 em1 em2] at F1
      with_reducible refine stepN (At2 (ghostOf s₁.heap [(95, 93)]) s₁.heap.objs.size s₁ scr) ?s2 ?rest2
      case s2 =>
        clear hQ
        intro Q9 hK
        k_steps
        rename Fr _ _ _ _ => F8
        rename News _ _ _ _ => N8
        refine hK _ ⟨_, _, _, _, _, _, _, _, _, _, rfl, F8, rfl, cb_drop N8 ?_, ho1, by assumption, hIM, by assumption, hne, by simp_all only [ne_eq, not_false_eq_true, and_self]⟩
        intro p hp
        simp only [List.mem_cons, List.not_mem_nil, or_false] at hp ⊢
        rcases hp with rfl | rfl | rfl | rfl | rfl <;> simp
      case rest2 =>
        rintro _ ⟨h2, tk2, a1, a2, ysM, ysW, tI, o1, o2, m2, rfl, F2, em1, N2, ho1, ho2, hIM, hIW, hne1, hne2⟩
        rw [form1 em1] at F2
        with_reducible refine stepNN (At3 (ghostOf s₁.heap [(95, 93)]) s₁.heap.objs.size s₁ scr) ?s3 ?rest3
        case s3 =>
          clear hQ
          intro Q9 hK
          refine wpN_Assign_Name (wpN_Call ?_)
          k_steps
          refine callWith_KN (by k_asm) (by k_is) ?_
          k_steps
          unfold Halt
          refine LCg.CompSrc.ledger rfl (by k_asm) (by k_asm) (by k_mem) (by rw [sizeLine_eq, List.size_toArray, hIM.length]; exact Nat.le_trans (modes_len scr).2 (by decide)) ?_
          intro g'
          refine kct_list fmText hIM (fun k' t' I' oI' C' oC' D' m' ys' h' tk' E2 hk' hC' hx' F' N' off' ne' _ => elt_txt off' (.inr ⟨_, by k_mem, rfl, _, rfl⟩) (fun Q7 hK7 => ?el3)) ?do3
          case el3 =>
            clear off'
            k_steps
            exact hK7 _ _ _ (by assumption) (by assumption)
          show ∀ ys, _ → _ → _
          intro ys8 hC8 _ D8 h8 tk8 F8 N8 o8
          clear o8
          k_steps
          have hS8 := CarriedAll.strsOf hC8
          have hml := modes_len scr
          refine join_list (items := List.toArray _) (ys := (modesOf scr).map fmText) ⟨_, (N8 _ (.head _)).1, rfl, _, rfl⟩ hS8 (join_fm _ hml.2) ?_
          intro t8 k8
          change wpAny _ _ (getMethod (Value.str (listT (modesOf scr)) t8) _ _) _ _ _
          have hl8 := listT_len (modesOf scr)
          have ha8 := listT_asc (modesOf scr)
          refine encode_method ?_
          k_steps
          refine call_encodeX (by omega) (by omega) ha8 ?_
          intro t7 k7
          k_steps
          have hlB := listB_len (modesOf scr)
          refine ctrN_use (reduce_law (b := listB (modesOf scr)) (ns := widthsOf scr) (by assumption) (by assumption) (by assumption)) (by k_asm) (by k_asm) (by k_asm) (by k_asm) (by k_asm) rfl ⟨by omega, by omega, widths_ok4 scr⟩ (by ktr_room) (by ktr_units) ?_
          intro u6 h6 tk6 F6 N6
          dsimp only
          change wpAny _ _ (storeName _ _ (Value.bytes (turnedB scr).toArray u6)) _ _ _
          k_steps
          rename Fr _ _ _ _ => F5
          rename News _ _ _ _ => N5
          exact hK _ ⟨_, _, a1, a2, ysM, ysW, tI, _, o1, o2, _, _, rfl, F5, rfl, rfl, fun p hp => N5 p (.tail _ (.tail _ (.tail _ hp))), ho1, ho2, hIM, by assumption, hne1, hne2⟩
        case rest3 =>
          rintro _ ⟨h3, tk3, a1, a2, ysM, ysW, tI, tT, o1, o2, m3, ps, rfl, F3, em1, em2, N3, ho1, ho2, hIM, hIW, hne1, hne2⟩
          rw [form2 em1 em2] at F3
          have hml := modes_len scr
          with_reducible refine stepN (At4 (ghostOf s₁.heap [(95, 93)]) s₁.heap.objs.size s₁ scr) ?s4 ?rest4
          case s4 =>
            clear hQ
            intro Q9 hK
            refine assign_nest (ax := a1) (its := ysM) (J := fun i ys nw => ((a1, LCg.lst ysM) ∈ nw ∧ (a2, LCg.lst ysW) ∈ nw ∧ (s₁.heap.objs.size + 1 + 1, o2) ∈ nw ∧ (s₁.heap.objs.size + 1, o1) ∈ nw ∧ (93, tabObj ps) ∈ nw) ∧ DueAre nw (dueS scr) ys ((modesOf scr).take i))
              rfl rfl F3 N3 (.tail _ (.head _)) (by have := hIM.length; omega) (fun i ys nw h => h.1.1) ⟨⟨.tail _ (.head _), .head _, .tail _ (.tail _ (.head _)), .tail _ (.tail _ (.tail _ (.head _))), .tail _ (.tail _ (.tail _ (.tail _ (.head _))))⟩, trivial⟩
              (fun n => rfl) (fun h => rfl) (by with_unfolding_all rfl) (by with_unfolding_all rfl) rfl (by decide) rfl rfl rfl ?iter ?turn ?fin
            case iter => k_steps
            case turn =>
              clear F3 N3 hK
              intro i v I oI C oC c oc D ys nw h tk E2 hv hJ hoc F N off ne
              obtain ⟨⟨hm1, hm2, hm3, hm4, hm5⟩, hDu⟩ := hJ
              obtain ⟨k, t, rfl, hk⟩ : ∃ k t, v = .int k t ∧ (modesOf scr)[i]? = some k := by
                obtain ⟨k, t, e, hk⟩ := IntsAre.at hIM i v hv
                exact ⟨k, t, e, hk⟩
              have hk2 : 0 ≤ k ∧ k < 65536 := modes_rng (List.mem_of_getElem? hk)
              have hin := inn_or scr
              have hwl := widths_len scr
              refine LCg.ListComp_U (F₀ := F) (by with_unfolding_all rfl) (by decide) (by rfl) (by decide) (by rfl) ?_
              with_reducible refine forQ (fun xv s' => ∃ r h' tk' t u v, xv = Value.ref r ∧ s' = { s₁ with heap := h', toks := tk' } ∧ Fr (ghostOf s₁.heap [(95, 93)]) s₁.heap.objs.size h' (fun y => if y = Str.ofString "modes" then some (Value.ref a1) else if y = Str.ofString "turned" then some (Value.bytes (turnedB scr).toArray tT) else m3 y) ∧ News (ghostOf s₁.heap [(95, 93)]) s₁.heap.objs.size h' ((I, oI) :: (C, oC) :: (c, oc) :: (D, LCg.lst ys) :: nw) ∧ IsRange h' r 0 10 1 t u v) ?rng ?src
              case rng =>
                intro Q8 hK8
                k_steps
                exact hK8 _ _ ⟨_, _, _, _, _, _, rfl, rfl, by assumption, by assumption, by assumption⟩
              case src =>
                rintro _ _ ⟨r, h', tk', t1, u1, v1, rfl, rfl, F', N', hr⟩
                clear F N
                refine LCg.CompSrc.range (n := 10) rfl F' N' hr (by decide) rfl (by decide) ?_
                intro g'
                clear F' N' hr
                refine kct_range (fun p => Txt.item (text3 k) (fromZ p (innOf scr) (widthsOf scr))) (fun p' t' I2 oI2 C2 oC2 D2 m2 ys2 h2 tk2 E3 hlo hhi hC2 hx2 F2 N2 off2 ne2 _ => ?elt) ?done
                case elt =>
                  have hpre : (innOf scr = 2 ∨ innOf scr = 5) ∧ 0 ≤ p' ∧ p' < 10 ∧ (widthsOf scr).length ≤ 1000 := ⟨hin, by omega, by omega, by omega⟩
                  with_reducible refine forQ (fun v s' => ∃ h' tk' u, v = Value.str (Txt.item (text3 k) (fromZ p' (innOf scr) (widthsOf scr))) u ∧ s' = { s₁ with heap := h', toks := tk' } ∧ Fr (ghostOf s₁.heap [(95, 93)]) s₁.heap.objs.size h' (fun y => if y = Str.ofString "modes" then some (Value.ref a1) else if y = Str.ofString "turned" then some (Value.bytes (turnedB scr).toArray tT) else m3 y) ∧ News (ghostOf s₁.heap [(95, 93)]) s₁.heap.objs.size h' ((I2, oI2) :: (C2, oC2) :: (D2, LCg.lst ys2) :: (I, oI) :: (C, oC) :: (c, oc) :: (D, LCg.lst ys) :: nw)) ?ev ?post
                  case post =>
                    rintro _ _ ⟨h', tk', u, rfl, rfl, F', N'⟩
                    exact ⟨h', tk', _, rfl, F', N', off2, trivial, rfl, u, rfl⟩
                  case ev =>
                    intro Q8 hK8
                    clear off2 off
                    k_steps
                    unfold Halt
                    refine ctr_use (from_c _ _ _ _ _ _ _ _ _ ?mm hIW) (by k_asm) (by k_asm) (by k_asm) (by k_asm) (by k_asm) rfl hpre (by ktr_room) (by ktr_units) ?_
                    case mm => repeat (first | assumption | refine List.Mem.tail _ ?_)
                    intro u9 h9 tk9 F9 N9
                    have hfz := fromZ_rng (place := p') (ns := widthsOf scr) hin (by omega) (by omega)
                    have hln := text3_len k
                    k_steps
                    exact hK8 _ _ ⟨_, _, _, rfl, rfl, F9, N9⟩
                case done =>
                  show ∀ ys, _ → _ → _
                  intro ys3 hC3 hl3 D3 h3 tk3 F3 N3 o3
                  have o4 := off1_mem o3
                  refine ⟨h3, tk3, (D3, LCg.lst ys3) :: nw, rfl, F3, fun p hp => N3 p ?_, fun p hp => ?_, ⟨.tail _ hm1, .tail _ hm2, .tail _ hm3, .tail _ hm4, .tail _ hm5⟩, ?_⟩
                  · rcases List.mem_cons.mp hp with rfl | hp
                    · exact .tail _ (.head _)
                    rcases List.mem_cons.mp hp with rfl | hp
                    · exact .tail _ (.tail _ (.head _))
                    rcases List.mem_cons.mp hp with rfl | hp
                    · exact .tail _ (.tail _ (.tail _ (.head _)))
                    rcases List.mem_cons.mp hp with rfl | hp
                    · exact .tail _ (.tail _ (.tail _ (.tail _ (.head _))))
                    rcases List.mem_cons.mp hp with rfl | hp
                    · exact .head _
                    · exact .tail _ (.tail _ (.tail _ (.tail _ (.tail _ hp))))
                  · rcases List.mem_cons.mp hp with rfl | hp
                    · exact ⟨Ne.symm (o4 _ (.head _)), Ne.symm (o4 _ (.tail _ (.head _))), Ne.symm (o4 _ (.tail _ (.tail _ (.head _)))), Ne.symm (o4 _ (.tail _ (.tail _ (.tail _ (.head _)))))⟩
                    · exact off p hp
                  · have e : (modesOf scr).take (i + 1) = (modesOf scr).take i ++ [k] := by rw [List.take_add_one, hk]; rfl
                    rw [e]
                    exact DueAre.snoc ⟨D3, ys3, rfl, .head _, CarriedAll.strsOf hC3⟩ (DueAre.mono (fun p hp => .tail _ hp) hDu)
            case fin =>
              intro D h tk ys nw F N off hJ
              refine hK _ ⟨h, tk, D, ys, tT, _, nw, ps, rfl, F, rfl, rfl, N, hJ.1.2.2.2.2, ?_⟩
              have e : (modesOf scr).take ysM.length = modesOf scr := by rw [hIM.length, List.take_length]
              rw [← e]
              exact hJ.2
          case rest4 =>
            rintro _ ⟨h4, tk4, D, ysD, tT, m4, nw, ps, rfl, F4, em1, em2, N4, hm93, hDue⟩
            rw [form2 em1 em2] at F4
            have hml := modes_len scr
            have htl := turned_len scr
            refine wpN_execs_cons (wpN_of_any ?_)
            with_reducible refine forQ (LawEnd (ghostOf s₁.heap [(95, 93)]) s₁.heap.objs.size s₁) ?ev ?post
            case post =>
              rintro fl s' ⟨rfl, hrest⟩
              exact hQ _ _ ⟨rfl, hrest⟩
            case ev =>
              clear hQ
              intro Q8 hK8
              k_steps
              refine call_decode (by omega) (by omega) (turned_asc scr) ?_
              intro t5 k5
              k_steps
              unfold Halt
              refine LCg.ListComp_U (F₀ := by k_asm) (by with_unfolding_all rfl) (by decide) (by rfl) (by decide) (by rfl) ?_
              with_reducible refine forQ (fun xv s' => ∃ tk', xv = Value.ref D ∧ s' = { s₁ with heap := h4, toks := tk' }) ?it ?src
              case it =>
                intro Q7 hK7
                k_steps
                exact hK7 _ _ ⟨_, rfl, rfl⟩
              case src =>
                rintro _ _ ⟨tk', rfl, rfl⟩
                refine LCg.CompSrc.ledger rfl F4 N4 (.head _) (by rw [sizeLine_eq]; have := hDue.length; simp; omega) ?_
                intro g'
                refine rest_txt (ts := (modesOf scr).map fun k => Txt.join (Str.ofString "") (dueS scr k)) (by rw [List.length_map, List.size_toArray]; exact hDue.length.symm) (.inr ⟨_, .head _, rfl, _, rfl⟩) ?turn ?fin
                case turn =>
                  intro i v y I oI C oC D2 m2 ys h tk E2 hv hy hC hx F N
                  obtain ⟨k, hk, d, zs, rfl, hd, hzs⟩ := DueAre.at hDue (by simpa using hv)
                  have ey : y = Txt.join (Str.ofString "") (dueS scr k) := by
                    rw [List.getElem?_map, hk] at hy
                    exact (Option.some.inj hy).symm
                  subst ey
                  with_reducible refine forQ (fun r s₂ => ∃ h' tk' t, r = Value.str (Txt.join (Str.ofString "") (dueS scr k)) t ∧ s₂ = { s₁ with heap := h', toks := tk' } ∧ Fr (ghostOf s₁.heap [(95, 93)]) s₁.heap.objs.size h' (fun y => if y = Str.ofString "due" then some (Value.ref D) else if y = Str.ofString "turned" then some (Value.bytes (turnedB scr).toArray tT) else m4 y) ∧ News (ghostOf s₁.heap [(95, 93)]) s₁.heap.objs.size h' ((I, oI) :: (C, oC) :: (D2, LCg.lst ys) :: (D, LCg.lst ysD) :: nw)) ?e1 ?e2
                  case e2 => exact fun _ _ h => h
                  case e1 =>
                    intro Q7 hK7
                    k_steps
                    rename News _ _ _ _ => N9
                    refine join_list (items := zs.toArray) (ys := dueS scr k) ⟨_, (N9 _ (.tail _ (.tail _ (.tail _ (.tail _ hd))))).1, rfl, _, rfl⟩ hzs (join_due scr k) ?_
                    intro t9 k9
                    exact hK7 _ _ ⟨_, _, _, rfl, rfl, by assumption, N9⟩
                case fin =>
                  intro ys5 hS5
                  intro D5 h5 tk5 F5 N5 o5
                  k_steps
                  refine join_list (items := ys5.toArray) (ys := (modesOf scr).map fun k => Txt.join (Str.ofString "") (dueS scr k)) ⟨_, (N5 _ (.head _)).1, rfl, _, rfl⟩ hS5 (join_dues scr _ hml.2) ?_
                  intro t9 k9
                  k_steps
                  have e9 : ((⟨((turnedB scr).map UInt8.toNat).toArray⟩ : Str) == Txt.join (Str.ofString "") ((modesOf scr).map fun k => Txt.join (Str.ofString "") (dueS scr k))) = true := beq_iff_eq.mpr (law_plain scr)
                  rw [e9]
                  exact hK8 _ _ ⟨rfl, _, _, _, ps, rfl, F5, fun p hp => N5 p (by rw [List.mem_singleton.mp hp]; exact .tail _ (.tail _ hm93))⟩
)
end Mine
end

set_option maxRecDepth 100000 in
set_option maxHeartbeats 8000000 in
theorem PySem.Challenge.cw_oc0049_01_holds : PySem.Challenge.rw_oc0049_01.Holds := by
  exact Mine.main_holds
