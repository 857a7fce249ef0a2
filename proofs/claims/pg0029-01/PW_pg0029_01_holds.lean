import PyProof.Rows.All
import Wide.All
import OpenK.AllK
import Wide.FinOn
import Lean
import PySem.Challenge.RW_pg0029_01
/-! part Cl -/
section
open PySem PySem.W PyProof.Rows PySem.Calls
set_option Elab.async false
namespace Mine
open Sem (wp)

/-- the claim's caller stands somewhere in the stack -/
def hasCl (l : List (Code × Pos)) : Bool := l.any fun x => x.1.isCaller
/-- as wpAny, of the contexts that hold the caller alone -/
def wpC {α : Type} (M : Model) (A : Around) (t : Sem α) (Q : α → Shared → Prop) (E : Value → Shared → Prop) (s : Shared) : Prop :=
  ∀ Γ p, Γ.In A → hasCl ((Γ.code, p) :: Γ.below) = true → wp M Γ t (fun a _ s' => Q a s') (fun e _ s' => E e s') p s
def codeC (M : Model) (A : Around) (c : Code) (R : Result → Shared → Prop) (s : Shared) : Prop :=
  ∀ Γ p, Γ.code = c → Γ.Below A → hasCl Γ.below = true → wpCode M Γ R p s

theorem hasCl_pos {c : Code} {p q : Pos} {l : List (Code × Pos)} (h : hasCl ((c, p) :: l) = true) : hasCl ((c, q) :: l) = true := h
theorem hasCl_tail {c : Code} {p : Pos} {l : List (Code × Pos)} (h : hasCl l = true) : hasCl ((c, p) :: l) = true := by
  unfold hasCl at *
  rw [List.any_cons, h, Bool.or_true]

section
variable {α β : Type} {M : Model} {A : Around} {E : Value → Shared → Prop} {s : Shared}
theorem wpC_of {t : Sem α} {Q : α → Shared → Prop} (h : wpAny M A t Q E s) : wpC M A t Q E s := fun Γ p hΓ _ => h Γ p hΓ
theorem wpC_pure {a : α} {Q : α → Shared → Prop} (h : Q a s) : wpC M A (pure a) Q E s := fun _ _ _ _ => h
theorem wpC_mono {t : Sem α} {Q Q' : α → Shared → Prop} {E' : Value → Shared → Prop} (h : wpC M A t Q E s) (hQ : ∀ a s, Q a s → Q' a s) (hE : ∀ e s, E e s → E' e s) : wpC M A t Q' E' s :=
  fun Γ p hΓ hc => Sem.wp_mono M Γ t (fun a _ s => hQ a s) (fun e _ s => hE e s) p s (h Γ p hΓ hc)
theorem wpC_bind {m : Sem α} {f : α → Sem β} {Q : β → Shared → Prop} (h : wpC M A m (fun a s' => wpC M A (f a) Q E s') E s) : wpC M A (m >>= f) Q E s := fun Γ p hΓ hc => by
  rw [Sem.wp_bind']
  exact Sem.wp_mono M Γ m (fun a p' s' h' => h' Γ p' hΓ hc) (fun _ _ _ h' => h') p s (h Γ p hΓ hc)
/-- the front walks as it is -/
theorem wpC_front {m : Sem α} {f : α → Sem β} {Q : β → Shared → Prop} (h : wpAny M A m (fun a s' => wpC M A (f a) Q E s') E s) : wpC M A (m >>= f) Q E s := wpC_bind (wpC_of h)
theorem wpC_map {m : Sem α} {f : α → β} {Q : β → Shared → Prop} (h : wpC M A m (fun a s' => Q (f a) s') E s) : wpC M A (f <$> m) Q E s := fun Γ p hΓ hc => by rw [Sem.wp_map]; exact h Γ p hΓ hc
theorem wpC_onRaise {m : Sem α} {k : Value → Sem Unit} {Q : α → Shared → Prop} (h : wpC M A m Q (fun e s' => wpC M A (k e) (fun _ s'' => E e s'') E s') s) : wpC M A (m.onRaise k) Q E s := fun Γ p hΓ hc => by
  rw [Sem.wp_onRaise]
  exact Sem.wp_mono M Γ m (fun _ _ _ h' => h') (fun e p' s' h' => h' Γ p' hΓ hc) p s (h Γ p hΓ hc)
theorem wpC_attempt {m : Sem α} {Q : Except Value α → Shared → Prop} (h : wpC M A m (fun a => Q (.ok a)) (fun e => Q (.error e)) s) : wpC M A m.attempt Q E s := fun Γ p hΓ hc => by rw [Sem.wp_attempt]; exact h Γ p hΓ hc
theorem wpC_holding {vs : List Value} {m : Sem α} {Q : α → Shared → Prop} (h : wpC M A m Q E s) : wpC M A (holding vs m) Q E s := fun Γ p hΓ hc => by rw [Sem.wp_holding]; exact h Γ p hΓ hc
theorem wpC_keep {vs : List Value} {m : Sem α} {Q : α → Shared → Prop} (h : wpC M A m Q E s) : wpC M A (m.keep vs) Q E s := fun Γ p hΓ hc => by rw [Sem.wp_keep]; exact h Γ p hΓ hc
theorem wpC_standAt {pos : Pos} {Q : Unit → Shared → Prop} (h : Q () s) : wpC M A (standAt pos) Q E s := wpC_of (wpAny_standAt h)

theorem below_enter {Γ : Ctx} {c : Code} {hd : Option Value} {p : Pos} (h : hasCl ((Γ.code, p) :: Γ.below) = true) : hasCl (Γ.enter c hd p).below = true := h
theorem wpC_run {c : Code} {h : Option Value} {Q : Flow → Shared → Prop}
    (hc : codeC M (A.mark h) c (fun r s' => match r with | .ok f => Q f s' | .error e => E e s') s) (hnb : h ≠ some byPass := by intro x; cases x) : wpC M A (run c h) Q E s :=
  fun Γ p hΓ hcl => by rw [Sem.wp_run]; exact hc _ p rfl (hΓ.enter c h p hnb) hcl
theorem wpC_runValue {c : Code} {Q : Value → Shared → Prop} (hc : codeC M A c (fun r s' => match r with | .ok (.ret v) => Q v s' | .ok _ => False | .error e => E e s') s) : wpC M A (runValue c) Q E s :=
  fun Γ p hΓ hcl => by rw [Sem.wp_runValue]; exact hc _ p rfl (hΓ.enter c none p (by intro x; cases x)) hcl
theorem wpC_call {f : Value} {pos : List Value} {kw : List (Str × Value)} {Q : Value → Shared → Prop}
    (hc : codeC M A (.call f ⟨pos, kw⟩) (fun r s' => match r with | .ok (.ret v) => Q v s' | .ok _ => False | .error e => E e s') s) : wpC M A (call f pos kw) Q E s := wpC_runValue hc
theorem codeC_of {c : Code} {R : Result → Shared → Prop} (h : codeAny M A c R s) : codeC M A c R s := fun Γ p e hΓ _ => h Γ p e hΓ
theorem codeC_mono {c : Code} {R R' : Result → Shared → Prop} (h : codeC M A c R s) (hR : ∀ r s, R r s → R' r s) : codeC M A c R' s := fun Γ p e hΓ hc => wpCode_mono hR (h Γ p e hΓ hc)
theorem codeC_of_tree {c : Code} {R : Result → Shared → Prop}
    (h : wpC M (A.under c) (M.den c) (fun fin s' => match fin with | .done f => R (.ok f) s' | .again c' => c'.quiet = true ∧ codeC M A c' R s') (fun e s' => R (.error e) s') s) : codeC M A c R s := fun Γ p e hΓ hc => by
  rw [wpCode_iff_wp, e]
  refine Sem.wp_mono M Γ _ (fun fin p' s' h' => ?_) (fun _ _ _ h' => h') p s (h Γ p (e ▸ hΓ.in) (hasCl_tail hc))
  cases fin with
  | done f => exact h'
  | again c' => exact ⟨h'.1, h'.2 (Γ.goto c') p' rfl (hΓ.goto c') hc⟩
/-- the mark is not set where the claim's caller stands below -/
theorem wpC_mark {own : List String} {e : Value} {Q : Unit → Shared → Prop} (h : Q () s) : wpC M A (markTheRefusal own e) Q E s := fun Γ p hΓ hc => by
  have key : pythonCodeMadeTheCall own (((Γ.code, p) :: Γ.below).map (·.1)) = false := by
    unfold pythonCodeMadeTheCall
    refine Bool.and_eq_false_iff.mpr (.inl (Bool.and_eq_false_iff.mpr (.inl ?_)))
    have q : (((Γ.code, p) :: Γ.below).map (·.1)).any Code.isCaller = true := by
      unfold hasCl at hc
      rw [List.any_map]
      exact hc
    exact congrArg not q
  unfold markTheRefusal
  rw [Sem.wp_bind']
  show wp M Γ (if pythonCodeMadeTheCall own (((Γ.code, p) :: Γ.below).map (·.1)) = true then _ else _) _ _ p s
  rw [key]
  exact h
end
end Mine
end
/-! part Hc -/
section
open PySem PySem.W PyProof.Rows PySem.Calls
set_option Elab.async false
namespace Mine

/-- `t` where the claim's caller stands in the stack, `z` elsewhere -/
def ifCl {α : Type} (t : Sem α) (z : α) : Sem α := stack >>= fun l => if hasCl l = true then t else pure z

section
variable {α : Type} {M : Model} {A : Around} {E : Value → Shared → Prop} {s : Shared} {t : Sem α} {z : α} {Q : α → Shared → Prop}
theorem ifCl_with {Γ : Ctx} {p : Pos} {Q : α → Pos → Shared → Prop} {E : Value → Pos → Shared → Prop} (hc : hasCl ((Γ.code, p) :: Γ.below) = true) :
    Sem.wp M Γ (ifCl t z) Q E p s = Sem.wp M Γ t Q E p s := by
  unfold ifCl stack
  rw [Sem.wp_bind', Sem.wp_stack]
  show Sem.wp M Γ (if hasCl ((Γ.code, p) :: Γ.below) = true then t else pure z) Q E p s = _
  rw [if_pos hc]
theorem ifCl_without {Γ : Ctx} {p : Pos} {Q : α → Pos → Shared → Prop} {E : Value → Pos → Shared → Prop} (hc : ¬ hasCl ((Γ.code, p) :: Γ.below) = true) :
    Sem.wp M Γ (ifCl t z) Q E p s = Q z p s := by
  unfold ifCl stack
  rw [Sem.wp_bind', Sem.wp_stack]
  show Sem.wp M Γ (if hasCl ((Γ.code, p) :: Γ.below) = true then t else pure z) Q E p s = _
  rw [if_neg hc]
  rfl
/-- a walk under the caller, and a plain answer elsewhere, give one of all contexts -/
theorem wpAny_ifCl (h : wpC M A t Q E s) (hz : Q z s) : wpAny M A (ifCl t z) Q E s := fun Γ p hΓ => by
  by_cases hc : hasCl ((Γ.code, p) :: Γ.below) = true
  · rw [ifCl_with hc]
    exact h Γ p hΓ hc
  · rw [ifCl_without hc]
    exact hz
/-- the same test ahead of a longer text -/
theorem ifCl_longer {β : Type} {t' : Sem β} {f : α → β} {Q' : β → Shared → Prop} (h : wpAny M A (ifCl t z) (fun a s' => Q' (f a) s') E s)
    (ht : wpC M A t (fun a s' => Q' (f a) s') E s → wpC M A t' Q' E s) : wpAny M A (ifCl t' (f z)) Q' E s := fun Γ p hΓ => by
  by_cases hc : hasCl ((Γ.code, p) :: Γ.below) = true
  · rw [ifCl_with hc]
    refine ht (fun Γ' p' hΓ' hc' => ?_) Γ p hΓ hc
    have q := h Γ' p' hΓ'
    rwa [ifCl_with hc'] at q
  · have q := h Γ p hΓ
    rw [ifCl_without hc] at q ⊢
    exact q
end

/-- the claim's own thread over a text -/
def atCl (t : Sem Fin) : Thread := ⟨t, .builtin "claim.caller" {}, default, []⟩

/-- in the claim's own thread the test takes one step and lets through -/
theorem sched_ifCl {prog : Program} {w : World} {n : Nat} {s s' : Shared} {t : Sem Fin} {z : Fin} {o : Outcome} (hs : s.asleep)
    (h : schedN (denote table) prog w n (.single s (atCl (ifCl t z))) = .halted o s') : ∃ m, schedN (denote table) prog w m (.single s (atCl t)) = .halted o s' := by
  cases n with
  | zero => cases h
  | succ m =>
    have e : step (denote table) prog w s (atCl (ifCl t z)) = .go s (atCl t) := by
      obtain ⟨heap, gens, drawn, toks, os⟩ := s
      rfl
    rcases sstep_single (denote table) prog w s (atCl (ifCl t z)) (by rfl) hs with q | q
    · refine ⟨m, ?_⟩
      unfold schedN at h
      rw [q, e] at h
      exact h
    · rw [e] at q
      cases q

theorem callFrom_ifCl {c : ClaimW} {tree : List Value → Sem Fin} {z : Fin} {w : World} {s : Shared} {free : Addr → Prop} {gens : Prop} {kept : Heap → Prop} (hs : s.asleep)
    (h : c.CallFrom (fun vs => atCl (ifCl (tree vs) z)) w free gens kept s) : c.CallFrom (fun vs => atCl (tree vs)) w free gens kept s := by
  intro a ha hl r hr
  obtain ⟨vs, s₁, hlay, n, o, s', hn, rest⟩ := h a ha hl r hr
  obtain ⟨m, hm⟩ := sched_ifCl (Shared.asleep_of_life (layAllW_rest _ _ _ hlay).2.2.2 hs) hn
  exact ⟨vs, s₁, hlay, m, o, s', hm, rest⟩

theorem holds_ifCl {c : ClaimW} {tree : List Value → Sem Fin} {z : Fin} {defs keeps : List Str} {writes : Bool}
    (h : c.HoldsOpenBy (fun vs => atCl (ifCl (tree vs) z)) defs keeps writes) : c.HoldsOpenBy (fun vs => atCl (tree vs)) defs keeps writes := by
  refine ⟨h.1, h.2.1, fun w => ⟨(h.2.2 w).1, fun s hs => ?_⟩⟩
  obtain ⟨s₀, hf, hg, s₁, hT, h1, h2, h3, hcall⟩ := (h.2.2 w).2 s hs
  exact ⟨s₀, hf, hg, s₁, hT, h1, h2, h3, callFrom_ifCl (Shared.asleep_of_life hT.2.1 (Shared.asleep_of_life (fence_lifeW hf) (AfterImport.life hs))) hcall⟩

/-- the head: taken by the line's own search for a theorem of this name (same named arguments; the walk's call stands behind the test) -/
theorem PySem.W.holds_open {r : OpenRow} {q : Program} {loose : List Str} {Xt : Shared → Bool} {XP : (Str → Option Value) → Heap → Prop} {α : Type} {Yf : Shared → α} {Ya : World → α}
    {YP : World → Heap → Prop} {d : DefRec} {kwd : List (Str × PySem.Expr)} {N : Nat} (left : LeftO r.prog q loose Xt Yf Ya N) (hY : ∀ w s, Yf s = Ya w → YP w s.heap)
    (hYk : ∀ w h h', YP w h → (∀ b o, h.get? b = some o → h'.get? b = some o) → YP w h') (hX : ∀ s, Xt s = true → XP (s.heap.nsMap mainGlobals) s.heap)
    (hXk : ∀ mg h h', XP mg h → (∀ b o, h.get? b = some o → h'.get? b = some o) → XP mg h') (hdef : defOf q r.name = some (d, kwd))
    (hp : r.prog.theDef r.name = some (d.params, d.body, d.scope)) (hk : kwWritten? d.params.kwonlyargs d.params.kw_defaults = some kwd)
    (hRf : ∀ s, Xt s = true → RecFacts r.records s.heap) (hwr : (!r.writes || r.records.isEmpty) = true) (k1 : r.wellSaid = true)
    (ok : (chainsOk q && opensWell r.prog && (frees r.toRowW && r.within.isEmpty)) = true) (hb : r.prog.bare) (hw : r.toRowW.promised)
    (call : WalkO q loose XP YP r.toRowW d kwd fun f vs => ifCl (PySem.call f vs) (.bool true)) : r.Holds := by
  refine ⟨k1, hw, holds_ifCl (z := .done (.ret (.bool true))) (open_anyG (r := r.toRowW) (run := fun f vs => ifCl (PySem.call f vs) (.bool true)) left hY hYk hX hXk hRf hwr ok hb hw
    (fun vs w s mg f Q E hg hf h => ifCl_longer (f := fun v => Fin.done (.ret v)) h fun hc => wpC_front (wpAny_nsGet hg ?_)) (fun w s hg G n hn => ?_)
    fun w s₀ s₁ mg mb G Y args vs as hpre hlay L low => ?_)⟩
  · rw [hf]
    exact wpC_bind (wpC_mono hc (fun _ _ x => wpC_pure x) fun _ _ x => x)
  · have e : n = r.name := by
      cases hpin : r.pinned <;> rw [hpin] at hn
      · cases hn
      · exact List.mem_singleton.mp hn
    exact e ▸ pinned_of_view hg G hdef hp hk
  · obtain ⟨a, o, pm, cd, doc, dV, kV, hm, ho, hd, hcd, hD⟩ := G.fn hdef
    exact ⟨.ref a, hm, call w s₀ s₁ mg mb G Y a o pm cd doc dV kV ho hd hcd hD (defOf_name hdef ▸ hm) L.gens args vs as hpre hlay L.reads L.well (L.low low)⟩

/-- a law that answers True at once is told the truth -/
theorem law_true {l : OpenLaw} {cl : Str → Option Addr} {mean : ExcName → Option Value} {args : List WData} {s : Shared} (hg : s.gens = #[]) :
    GoodWG l.row.toRowW.claim cl mean args s (.ok (.ret (.bool true))) s :=
  ⟨.inl ⟨_, .bool true, [], rfl, fun _ => rfl, .bool true, by
    show (WShape.has [] (.bool true) .bool && WTm.holds [] (.eq .res (.lit (.bool true))) _) = true
    simp [WShape.has, WShape.arms, WTm.holds, WTm.value, PySem.W.same], fun _ => ⟨.nil, fun _ h => by cases h⟩⟩, .of_keep fun _ _ e => e, rfl, .of_eq hg⟩
end Mine
end
/-! part Pa -/
section
open PySem PySem.W PyProof.Rows PySem.Calls
set_option Elab.async false
namespace Mine

section
variable {prog : Program} {w : World} {A : Around} {E : Value → Shared → Prop} {s : Shared} {env : Env}

theorem wpC_execs {st : Stmt} {rest : List Stmt} {Q : Flow → Shared → Prop}
    (h : wpC (model prog w) A (exec st env) (fun f s₁ => match f with | .next => wpC (model prog w) A (execs rest env) Q E s₁ | f => Q f s₁) E s) : wpC (model prog w) A (execs (st :: rest) env) Q E s := by
  rw [execs_cons]
  refine wpC_bind (wpC_mono h (fun f s₁ h₁ => ?_) fun _ _ x => x)
  cases f with
  | next => exact h₁
  | brk => exact wpC_pure h₁
  | cont => exact wpC_pure h₁
  | ret v => exact wpC_pure h₁
/-- a statement that walks as it is, then the rest -/
theorem wpC_step {st : Stmt} {rest : List Stmt} {Q : Flow → Shared → Prop}
    (h : wpAny (model prog w) A (exec st env) (fun f s₁ => match f with | .next => wpC (model prog w) A (execs rest env) Q E s₁ | f => Q f s₁) E s) : wpC (model prog w) A (execs (st :: rest) env) Q E s := wpC_execs (wpC_of h)
theorem wpC_nil {Q : Flow → Shared → Prop} (h : Q .next s) : wpC (model prog w) A (execs [] env) Q E s := wpC_pure h
/-- the first statements walk as they are, then the rest -/
theorem wpC_steps : ∀ {l₁ l₂ : List Stmt} {s : Shared} {Q : Flow → Shared → Prop}, wpAny (model prog w) A (execs l₁ env) (fun f s₁ => match f with | .next => wpC (model prog w) A (execs l₂ env) Q E s₁ | f => Q f s₁) E s → wpC (model prog w) A (execs (l₁ ++ l₂) env) Q E s
  | [], l₂, s, Q, h => by
    intro Γ p hΓ hc
    have q := h Γ p hΓ
    have q' : wpC (model prog w) A (execs l₂ env) Q E s := q
    exact q' Γ p hΓ hc
  | st :: l₁, l₂, s, Q, h => by
    intro Γ p hΓ hc
    have q := h Γ p hΓ
    rw [execs_cons, Sem.wp_bind'] at q
    show Sem.wp _ _ (execs (st :: (l₁ ++ l₂)) env) _ _ _ _
    rw [execs_cons, Sem.wp_bind']
    refine Sem.wp_mono _ Γ _ (fun f p' s' h' => ?_) (fun _ _ _ h' => h') p s q
    have step : ∀ (s' : Shared) (p' : Pos), Sem.wp (model prog w) Γ (execs l₁ env) (fun f _ s₁ => match f with | .next => wpC (model prog w) A (execs l₂ env) Q E s₁ | f => Q f s₁) (fun e _ s' => E e s') p' s' →
        Sem.wp (model prog w) Γ (execs (l₁ ++ l₂) env) (fun f _ s₁ => Q f s₁) (fun e _ s' => E e s') p' s' := by
      intro s' p' hq
      clear h q h' f
      induction l₁ generalizing s' p' with
      | nil =>
        have q' : wpC (model prog w) A (execs l₂ env) Q E s' := hq
        exact q' Γ p' hΓ hc
      | cons st' l' ih =>
        rw [execs_cons, Sem.wp_bind'] at hq
        show Sem.wp _ _ (execs (st' :: (l' ++ l₂)) env) _ _ _ _
        rw [execs_cons, Sem.wp_bind']
        refine Sem.wp_mono _ Γ _ (fun f p₂ s₂ h₂ => ?_) (fun _ _ _ h' => h') p' s' hq
        cases f with
        | next => exact ih s₂ p₂ h₂
        | brk => exact h₂
        | cont => exact h₂
        | ret v => exact h₂
    cases f with
    | next => exact step s' p' h'
    | brk => exact h'
    | cont => exact h'
    | ret v => exact h'

theorem wpC_If {test body orelse pos} {Q : Flow → Shared → Prop}
    (h : wpC (model prog w) A (isTrue test env (eval test env)) (fun b s₂ => if b then wpC (model prog w) A (execs body env) Q E s₂ else wpC (model prog w) A (execs orelse env) Q E s₂) E s) : wpC (model prog w) A (exec (.If test body orelse pos) env) Q E s := by
  rw [exec_If]
  refine wpC_bind (wpC_standAt (wpC_bind (wpC_mono h (fun b s₂ h₂ => ?_) fun _ _ x => x)))
  cases b <;> exact h₂
/-- a comparison whose left side is on the path -/
theorem wpC_cmp {l op r pos whole} {Q : Bool → Shared → Prop}
    (h : wpC (model prog w) A (eval l env) (fun a s₁ => wpAny (model prog w) A (eval r env) (fun b s₂ => wpAny (model prog w) A (compareOp op a b) (fun c s₃ => wpAny (model prog w) A (truthy c) Q E s₃) E s₂) E s₁) E s)
    (hm : behindInMarks op r = false := by with_unfolding_all rfl) : wpC (model prog w) A (isTrue (.Compare l [op] [r] pos) env whole) Q E s := by
  rw [isTrue_Compare1]
  refine wpC_bind (wpC_mono h (fun a s₁ h₁ => wpC_of ?_) fun _ _ x => x)
  rw [markedBehindIn_of_false hm]
  refine wpAny_bind (wpAny_holding (wpAny_mono h₁ (fun b s₂ h₂ => wpAny_bind (wpAny_standAt (wpAny_bind (wpAny_operating (wpAny_mono h₂ (fun c s₃ h₃ => wpAny_holding h₃) fun _ _ x => x))))) fun _ _ x => x))

theorem wpC_Call {x : Str} {np pos : Pos} {args : List PySem.Expr} {Q : Value → Shared → Prop} (h : wpAny (model prog w) A (eval (.Name x np) env) (fun f s₁ => wpC (model prog w) A (callWith pos f [] (backTo pos (starEach args env)) []) Q E s₁) E s) :
    wpC (model prog w) A (eval (.Call (.Name x np) args [] pos) env) Q E s := wpC_front h
/-- a call of the text's own def with plain arguments -/
theorem wpC_callDef {K : Frag} {f : Value} {pos : Pos} {e : PySem.Expr} {rest : List PySem.Expr} {Q : Value → Shared → Prop} (hk : keepIn K f = true)
    (h : wpAny (model prog w) A (spliced (backTo pos (starEach (e :: rest) env))) (fun vs s₁ => K.In s₁.heap ∧ wpC (model prog w) A (call f ([] ++ vs)) Q E s₁) E s)
    (he : starEach (e :: rest) env = (false, eval e env) :: starEach rest env := by rfl) (hplain : (backTo pos (starEach rest env)).any (·.1) = false := by rfl) :
    wpC (model prog w) A (callWith pos f [] (backTo pos (starEach (e :: rest) env)) []) Q E s := by
  rw [he] at h ⊢
  have hpl : (((backTo pos ((false, eval e env) :: starEach rest env)).any (·.1)) || ([] : List (Option Str × Sem Value)).any (·.1.isNone)) = false := by
    show ((false || (backTo pos (starEach rest env)).any (·.1)) || false) = false
    rw [hplain]; rfl
  unfold callWith
  refine wpC_front (wpAny_holding (wpAny_mono (evalArgs_plain (Q := fun a s₁ => K.In s₁.heap ∧ wpC (model prog w) A (call f ([] ++ a.pos) a.kw) Q E s₁) h) (fun a s₁ h₁ => ?_) fun _ _ x => x))
  refine wpC_bind (wpC_standAt ?_)
  obtain ⟨k, hk', L⟩ := keeps_K (M := model prog w) hk _ h₁.1
  simp only [hpl]
  refine wpC_front (L.here ?_)
  have tail : ∀ {t : Sem Value}, wpC (model prog w) A t Q E s₁ → wpC (model prog w) A (t >>= fun r => holding [r] point >>= fun _ => pure r) Q E s₁ :=
    fun ht => wpC_bind (wpC_mono ht (fun r s₂ hr => wpC_of (wpAny_bind (wpAny_holding (wpAny_point (wpAny_pure hr))))) fun _ _ x => x)
  have marked (mk : Value) : wpC (model prog w) A (callMarked mk f ([] ++ a.pos) a.kw) Q E s₁ := by unfold callMarked; exact wpC_keep h₁.2
  rcases hk' with rfl | rfl | rfl
  all_goals dsimp only
  all_goals try split
  all_goals first
    | exact tail h₁.2
    | exact tail (marked _)
/-- a call of a built-in class -/
theorem wpC_callType {T : String} {pos : Pos} {e : PySem.Expr} {rest : List PySem.Expr} {Q : Value → Shared → Prop}
    (h : wpAny (model prog w) A (spliced (backTo pos (starEach (e :: rest) env))) (fun vs s₁ => wpC (model prog w) A (call (.type T) ([] ++ vs)) Q E s₁) E s)
    (he : starEach (e :: rest) env = (false, eval e env) :: starEach rest env := by rfl) (hplain : (backTo pos (starEach rest env)).any (·.1) = false := by rfl) :
    wpC (model prog w) A (callWith pos (.type T) [] (backTo pos (starEach (e :: rest) env)) []) Q E s := by
  rw [he] at h ⊢
  have hpl : (((backTo pos ((false, eval e env) :: starEach rest env)).any (·.1)) || ([] : List (Option Str × Sem Value)).any (·.1.isNone)) = false := by
    show ((false || (backTo pos (starEach rest env)).any (·.1)) || false) = false
    rw [hplain]; rfl
  unfold callWith
  refine wpC_front (wpAny_holding (wpAny_mono (evalArgs_plain (Q := fun a s₁ => wpC (model prog w) A (call (.type T) ([] ++ a.pos) a.kw) Q E s₁) h) (fun a s₁ h₁ => ?_) fun _ _ x => x))
  refine wpC_bind (wpC_standAt ?_)
  simp only [hpl]
  refine wpC_front (wpAny_pure ?_)
  exact wpC_bind (wpC_mono h₁ (fun r s₂ hr => wpC_of (wpAny_bind (wpAny_holding (wpAny_point (wpAny_pure hr))))) fun _ _ x => x)

theorem wpC_AssignTuple {elts k tpos value pos} {Q : Flow → Shared → Prop}
    (h : wpC (model prog w) A (eval value env) (fun v s₁ => wpAny (model prog w) A (assign (.Tuple elts k tpos) env v) (fun _ => Q .next) E s₁) E s)
    (hs : swapsWithSole [.Tuple elts k tpos] value pos.line env = pure false := by rfl) (hw : swappedStores [.Tuple elts k tpos] value env = pure none := by rfl) :
    wpC (model prog w) A (exec (.Assign [.Tuple elts k tpos] value pos) env) Q E s := by
  rw [exec_Assign]
  refine wpC_bind (wpC_standAt ?_)
  rw [hs]
  refine wpC_bind (wpC_pure ?_)
  rw [if_neg (by decide)]
  refine wpC_bind (wpC_mono h (fun v s₁ h₁ => wpC_of ?_) fun _ _ x => x)
  rw [hw]
  refine wpAny_bind (wpAny_pure ?_)
  show wpAny _ A (do assignAll v [assign (.Tuple elts k tpos) env]; pure .next) Q E s₁
  exact wpAny_bind (wpAny_mono h₁ (fun _ _ x => wpAny_pure x) fun _ _ x => x)
theorem wpC_AssignName {x pos' value pos} {Q : Flow → Shared → Prop}
    (h : wpC (model prog w) A (eval value env) (fun v s₁ => wpAny (model prog w) A (storeName env x v) (fun _ => Q .next) E s₁) E s)
    (hs : swapsWith value (some (.Name x pos')) pos.line env = pure false := by rfl) : wpC (model prog w) A (exec (.Assign [.Name x pos'] value pos) env) Q E s := by
  rw [exec_Assign_Name env x pos' value pos hs]
  exact wpC_bind (wpC_standAt (wpC_bind (wpC_mono h (fun v s₁ h₁ => wpC_of (wpAny_bind (wpAny_standAt (wpAny_bind (wpAny_bindName (wpAny_mono h₁ (fun _ _ x => wpAny_pure x) fun _ _ x => x)))))) fun _ _ x => x)))

theorem wpC_Try {body orelse : List Stmt} {h₀ : ExceptHandler} {hs : List ExceptHandler} {pos : Pos} {Q : Flow → Shared → Prop}
    (h : wpC (model prog w) A (execs body env) (fun f s₁ => match f with | .next => wpAny (model prog w) A (execs orelse env) Q E s₁ | f => Q f s₁)
      (fun e s₁ => wpAny (model prog w) A (noteFrame e env) (fun _ s₂ => wpAny (model prog w) A (setFlight e none) (fun _ s₃ => wpAny (model prog w) A (handleBy e env (h₀ :: hs)) Q E s₃) E s₂) E s₁) s) :
    wpC (model prog w) A (exec (.Try body (h₀ :: hs) orelse [] pos) env) Q E s := by
  rw [arm_exec_Try]
  refine wpC_bind (wpC_standAt ?_)
  unfold tryStmt
  refine wpC_bind (wpC_attempt (wpC_mono h (fun f s₁ h₁ => ?_) fun e s₁ h₁ => ?_))
  · cases f with
    | next => exact wpC_of h₁
    | brk => exact wpC_pure h₁
    | cont => exact wpC_pure h₁
    | ret v => exact wpC_pure h₁
  · refine wpC_of (wpAny_bind (wpAny_mono h₁ (fun _ s₂ h₂ => ?_) fun _ _ x => x))
    exact wpAny_bind (wpAny_mono h₂ (fun _ s₃ h₃ => h₃) fun _ _ x => x)

theorem codeC_func {body : List Stmt} {R : Result → Shared → Prop}
    (h : wpC (model prog w) (A.deeper env) (execs body env) (fun f s' => R (.ok (.ret (match f with | .ret v => v | _ => .none))) s')
      (fun e s' => wpAny (model prog w) (A.deeper env) (leaving env e) (fun _ s'' => R (.error e) s'') (fun e' s'' => R (.error e') s'') s') s) : codeC (model prog w) A (.func body env) R s := by
  refine codeC_of_tree ?_
  show wpC _ (A.deeper env) (do point; match ← (execs body env).onRaise (leaving env) with | .ret v => ret v | _ => ret .none) _ _ s
  refine wpC_front (wpAny_point (wpC_bind (wpC_onRaise (wpC_mono h (fun f s' h' => ?_) fun _ _ h' => wpC_of h'))))
  cases f <;> exact wpC_pure h'
theorem codeC_function {a : Addr} {args : Args} {o : Obj} {fd : FuncData} {body : List Stmt} {R : Result → Shared → Prop} (hroom : A.depth < recursionLimit) (ho : s.heap.get? a = some o)
    (hd' : o.data = .func fd) (hco : fd.scope.isCoroutine = false) (hgen : fd.scope.isGenerator = false) (hbody : fd.body = .stmts body) (hcd : s.heap.CodeRec fd.code fd.qualname)
    (h : wpAny (model prog w) A.in1 (bindArgs fd args) (fun binds s₁ =>
      wpAny (model prog w) A.in1 (newFunctionEnv fd.scope fd.globals fd.closure binds (fd.qualname ++ ".<locals>.") (some a) fd.code none fd.builtins)
        (fun env s₂ => s₂.heap.NoLimit ∧ codeC (model prog w) A (.func body env) R s₂) (fun e s' => R (.error e) s') s₁) (fun e s' => R (.error e) s') s) :
    codeC (model prog w) A (.call (.ref a) args) R s := by
  have goes : wpC (model prog w) A.in1 (callFunction a fd args) (fun fin s' => match fin with | .done f => R (.ok f) s' | .again c' => c'.quiet = true ∧ codeC (model prog w) A c' R s')
      (fun e s' => R (.error e) s') s := by
    obtain ⟨code, co, fs, t, e1, e2, e3, e4⟩ := hcd
    rw [e1] at h
    simp only [callFunction, e1, hbody, hgen, hco]
    refine wpC_front (m := field (.ref code) 1) (wpAny_field e2 e3 e4 (wpC_bind (wpC_pure ?_)))
    refine wpC_front (wpAny_mono h (fun binds s₁ hb => ?_) fun _ _ x => x)
    refine wpC_front (wpAny_mono hb (fun env s₂ he => ?_) fun _ _ x => x)
    exact wpC_front (wpAny_enterFrame he.1 hroom (wpC_pure ⟨rfl, he.2⟩))
  refine codeC_of_tree ?_
  show wpC _ A.in1 (load a >>= _) _ _ s
  refine wpC_front (wpAny_load ho ?_)
  rw [hd']
  exact goes

theorem codeC_block {stmts : List Stmt} {R : Result → Shared → Prop} (h : R (.ok .next) s) : codeC (model prog w) A (.block [] env) R s :=
  codeC_of (codeAny_block (wpAny_pure h))
theorem under_for {target it body orelse} : A.under (.forLoop target it body orelse env) = A := Around.under_of_weight rfl rfl
/-- a for loop whose turns are on the path -/
theorem codeC_for {target : PySem.Expr} {it : Value} {body : List Stmt} {R : Result → Shared → Prop} (n : Nat) (J : Nat → Shared → Prop)
    (turn : ∀ i s, i < n → J i s → wpAny (model prog w) A (pyNext it) (fun o s₁ => ∃ v, o = some v ∧ wpAny (model prog w) A (assign target env v) (fun _ s₂ =>
        wpC (model prog w) A (execs body env) (fun f s₃ => match f with | .next | .cont => J (i + 1) s₃ | .brk => R (.ok .next) s₃ | .ret v => R (.ok (.ret v)) s₃) (fun _ _ => False) s₂) (fun _ _ => False) s₁) (fun _ _ => False) s)
    (done : ∀ s, J n s → wpAny (model prog w) A (pyNext it) (fun o s₁ => o = none ∧ R (.ok .next) s₁) (fun _ _ => False) s)
    (ht : ∀ v, letOwnedTupleGo target it v = pure () := by intro _; rfl) :
    ∀ (k : Nat) (i : Nat) (s : Shared), i + k = n → J i s → codeC (model prog w) A (.forLoop target it body [] env) R s
  | 0, i, s, e, h => by
    have e' : i = n := by omega
    subst e'
    refine codeC_of_tree ?_
    rw [under_for]
    show wpC _ A ((forTurn target it body [] env).onRaise (fun x => do noteFrame x env; theTreesLotGoes x)) _ _ s
    refine wpC_onRaise (E := fun e s' => R (.error e) s') ?_
    simp only [forTurn]
    refine wpC_bind (wpC_standAt (wpC_bind (wpC_onRaise (wpC_mono (wpC_of (done s h)) (fun o s₁ h₁ => ?_) fun _ _ x => x.elim))))
    obtain ⟨rfl, hR⟩ := h₁
    exact wpC_pure ⟨rfl, codeC_block (stmts := []) hR⟩
  | k + 1, i, s, e, h => by
    refine codeC_of_tree ?_
    rw [under_for]
    show wpC _ A ((forTurn target it body [] env).onRaise (fun x => do noteFrame x env; theTreesLotGoes x)) _ _ s
    refine wpC_onRaise (E := fun e s' => R (.error e) s') ?_
    simp only [forTurn]
    refine wpC_bind (wpC_standAt (wpC_bind (wpC_onRaise (wpC_mono (wpC_of (turn i s (by omega) h)) (fun o s₁ h₁ => ?_) fun _ _ x => x.elim))))
    obtain ⟨v, rfl, hv⟩ := h₁
    dsimp only
    rw [ht v]
    refine wpC_bind (wpC_pure ?_)
    refine wpC_front (wpAny_mono hv (fun _ s₂ h₂ => ?_) fun _ _ x => x.elim)
    refine wpC_bind (wpC_mono h₂ (fun f s₃ h₃ => ?_) fun _ _ x => x.elim)
    cases f with
    | next => exact wpC_pure ⟨rfl, codeC_for n J turn done ht k (i + 1) s₃ (by omega) h₃⟩
    | cont => exact wpC_pure ⟨rfl, codeC_for n J turn done ht k (i + 1) s₃ (by omega) h₃⟩
    | brk => exact wpC_pure h₃
    | ret v => exact wpC_pure h₃
theorem wpC_For {target iter body orelse pos} {Q : Flow → Shared → Prop}
    (h : wpAny (model prog w) A (eval iter env) (fun x s₁ => wpAny (model prog w) A (pyIter x) (fun it s₂ =>
      codeC (model prog w) A (.forLoop target it body orelse env) (fun r s' => match r with | .ok f => Q f s' | .error _ => False) s₂) E s₁) E s)
    (hs : ∀ x, foldedSetIterable iter env x = pure x := by intro _; rfl) : wpC (model prog w) A (exec (.For target iter body orelse pos) env) Q E s := by
  rw [exec_For]
  refine wpC_bind (wpC_standAt (wpC_front (wpAny_mono h (fun x s₁ h₁ => ?_) fun _ _ x => x)))
  rw [hs x]
  refine wpC_bind (wpC_pure (wpC_bind (wpC_standAt (wpC_front (wpAny_holding (wpAny_mono h₁ (fun it s₂ h₂ => ?_) fun _ _ x => x))))))
  unfold runOwn
  refine wpC_onRaise (wpC_run (codeC_mono h₂ fun r s' hr => ?_))
  cases r with
  | ok f => exact hr
  | error e => exact hr.elim
end
end Mine
end
/-! part In -/
section
open PySem PySem.W PyProof.Rows PySem.Calls
set_option Elab.async false
set_option maxRecDepth 100000
namespace Mine
theorem int_new_eq (x : PySem.Str) (u : Tok) : Builtin.«int.__new__» ⟨[.type "int", .str x u], []⟩ = (do ret (← (int_private% "intFromObject") (.str x u))) := by
  have f0 : isType (.type "int") = pure true := rfl
  have f1 := F.conv_sub_int
  have f2 := F.madeHere_int
  unfold Builtin.«int.__new__»
  simp only [f0, f1, f2, pure_bind, Bool.not_true, Bool.false_eq_true, if_false, List.forIn_nil, List.length_cons, List.length_nil, List.isEmpty_nil, List.head?_cons]
  rfl
theorem int_obj_eq (x : PySem.Str) (u : Tok) : ∃ k₁ : Option Value → Sem Value, (int_private% "intFromObject") (.str x u) = (callSpecial? (.str x u) "__int__" >>= k₁) ∧
    ∃ k₂ : Option Value → Sem Value, k₁ none = (specialOf (.str x u) "__index__" >>= k₂) ∧ ∃ k₃ : Option Value → Sem Value, k₂ none = (specialOf (.str x u) "__trunc__" >>= k₃) ∧
    ∃ k₄ : Option (List Nat) → Sem Value, k₃ none = ((int_private% "numeralText?") (.str x u) >>= k₄) ∧ ∀ text, k₄ (some text) = (int_private% "intFromText") (.str x u) text 10 :=
  ⟨_, rfl, _, rfl, _, rfl, _, rfl, fun _ => rfl⟩
def refuse (x : PySem.Str) (u : Tok) : Sem Value := do
  rule "int.__new__.invalid-literal"
  let shown ← pyRepr (.str x u)
  let m ← mkStr (PySem.Str.ofString (toString "invalid literal for int() with base " ++ toString 10 ++ toString ": ") ++ ⟨shown.cps.extract 0 200⟩)
  let r ← newExc (.type "ValueError") [m]
  markTheRefusal ["int.__new__"] r
  raiseNew r
theorem int_text_eq (x : PySem.Str) (u : Tok) (text : List Nat) (hs : (text.takeWhile (· != 0)).length ≤ 640)
    (hr : (int_private% "readNumeral") 0 10 (text.takeWhile (· != 0)) = (int_private% "Numeral.invalid") ∨ ∃ i, (int_private% "readNumeral") 0 10 (text.takeWhile (· != 0)) = (int_private% "Numeral.value") i ∧ ¬ ((text.takeWhile (· != 0)).length == text.length) = true) :
    (int_private% "intFromText") (.str x u) text 10 = refuse x u := by
  show (do
      let limit ← if (text.takeWhile (· != 0)).length ≤ 640 then pure 0 else Builtin.intMaxStrDigits
      _) = _
  rw [if_pos hs]
  rw [pure_bind]
  dsimp only
  rcases hr with hr | ⟨i, hr, hn⟩
  · rw [hr]; rfl
  · rw [hr]
    dsimp only
    rw [if_neg hn]
    rfl
section
variable {prog : Program} {w : World} {A : Around} {E : Value → Shared → Prop} {s : Shared}
theorem refuse_C {x : PySem.Str} {u : Tok} {Q : Value → Shared → Prop} (hh : A.handled = none) (hx : (PySem.reprText x).length ≤ sizeLine)
    (h : ∀ h' tk e, Heap.NewExc s.heap h' e "ValueError" → E (.ref e) { s with heap := h', toks := tk }) : wpC (model prog w) A (refuse x u) Q E s := by
  unfold refuse
  refine wpC_front (wpAny_rule ?_)
  refine wpC_front (wpAny_pyRepr_str ?_ hx)
  refine wpC_front (wpAny_mkStr ?_ ?_)
  · unfold newExc newTuple
    refine wpC_front (wpAny_bind (wpAny_newObj_type ?_))
    have hp := plainExc_ValueError
    refine wpAny_bind (m := firstArgMember _ _) (wpAny_of_eq (a := Value.none) (by simp only [firstArgMember, hp.first]; rfl) ?_)
    rw [hp.own]
    refine wpAny_newObj_type ?_
    refine wpC_bind (wpC_mark ?_)
    unfold raiseNew
    refine wpC_front (wpAny_handled ?_)
    rw [hh]
    refine wpC_of (wpAny_throw ?_)
    refine h _ _ _ { keeps := fun b o e => ?_, new := ?_, there := ⟨_, .ref s.heap.objs.size, Heap.get?_push_size _ rfl, rfl, ?_⟩ }
    · refine Heap.get?_push_of_some _ ?_
      exact Heap.get?_push_of_some _ e
    · exact Heap.get?_none_of_le (by simp)
    · simp
  · rw [PySem.Str.length_append]
    have h1 : (⟨(PySem.reprText x).cps.extract 0 200⟩ : PySem.Str).length ≤ 200 := by
      show ((PySem.reprText x).cps.extract 0 200).size ≤ 200
      rw [Array.size_extract]; omega
    have h2 : (PySem.Str.ofString (toString "invalid literal for int() with base " ++ toString 10 ++ toString ": ")).length ≤ 1000 := by decide +kernel
    rw [sizeLine_eq]
    omega
theorem codeC_builtin {id : String} {args : Args} {b : Builtin} {R : Result → Shared → Prop} (hb : entryFor table id = some b)
    (h : wpC (model prog w) (A.under (.builtin id args)) (b args) (fun fin s' => match fin with | .done f => R (.ok f) s' | .again c' => c'.quiet = true ∧ codeC (model prog w) A c' R s') (fun e s' => R (.error e) s') s) :
    codeC (model prog w) A (.builtin id args) R s := by
  refine codeC_of_tree ?_
  show wpC _ _ (match entryFor table id with | some b => b args | none => unsupported ((withoutEnding? id "#data").getD id)) _ _ s
  rw [hb]; exact h
theorem codeC_call_builtin {id : String} {args : Args} {b : Builtin} {R : Result → Shared → Prop} (hq : plainId id = true) (hb : entryFor table id = some b) (hck : checkBuiltinCall id args = pure ())
    (h : wpC (model prog w) A.in1 (b args) (fun fin s' => match fin with | .done f => R (.ok f) s' | .again c' => c'.quiet = true ∧ codeC (model prog w) A c' R s') (fun e s' => R (.error e) s') s) :
    codeC (model prog w) A (.call (.builtin id) args) R s := by
  refine codeC_of_tree ?_
  show wpC _ A.in1 (do checkBuiltinCall id args; again (.builtin id args)) _ _ s
  rw [hck]
  refine wpC_bind (wpC_pure (wpC_pure ⟨plainId_quiet hq args, codeC_builtin hb ?_⟩))
  rw [Around.under_plainId hq args]; exact h
theorem type_call_eq (x : PySem.Str) (t : Tok) : ∃ k : Value → Sem Fin, Builtin.«type.__call__» ⟨[.type "int", .str x t], []⟩ = (holding [.builtin "int.__new__"] (call (.builtin "int.__new__") [.type "int", .str x t] []) >>= k) := by
  have ft := F.called_int
  obtain ⟨c, tl, hmro⟩ := ft.mro
  have h1 := ft.notType
  have h2 := ft.canCreate
  have h3 := ft.made
  have h4 := F.typeCall_int_1 (.str x t)
  unfold Builtin.«type.__call__»
  simp only [h1, Bool.false_eq_true, if_false, h2, h4, pure_bind, hmro, List.isEmpty_cons, h3]
  exact ⟨_, rfl⟩
theorem intFails {x : PySem.Str} {t : Tok} {Q : Value → Shared → Prop} (hn : PySem.intText? x = none) (hl : x.length ≤ 640) (hc : ∀ c ∈ x.cps.toList, c < 16 ^ 8) (hh : A.handled = none)
    (h : ∀ h' tk e, Heap.NewExc s.heap h' e "ValueError" → E (.ref e) { s with heap := h', toks := tk }) : wpC (model prog w) A (call (.type "int") [.str x t]) Q E s := by
  have hrep : (PySem.reprText x).length ≤ sizeLine := by
    have := StrLaws.reprText_len x hc
    rw [sizeLine_eq]; omega
  have hs : (numSeenOf x).length ≤ 640 := Nat.le_trans (seen_length x) hl
  have hr : (int_private% "readNumeral") 0 10 (numSeenOf x) = (int_private% "Numeral.invalid") ∨ ∃ i, (int_private% "readNumeral") 0 10 (numSeenOf x) = (int_private% "Numeral.value") i ∧ ¬ ((numSeenOf x).length == (numTextOf x).length) = true := by
    rcases read0 x hs with ⟨m, h1, _⟩ | ⟨_, h2⟩
    · rw [hn] at h1; cases h1
    · exact h2
  refine wpC_call (codeC_of_tree ?_)
  show wpC _ _ (callAny (.type "int") _) _ _ _
  refine wpC_pure ⟨Code.quiet_builtin _ (by decide +kernel), codeC_builtin F.entry_type_call ?_⟩
  rw [Around.under_plain (weight_type_call_type "int" [.str x t] []) (units_type_call_type "int" [.str x t] [])]
  obtain ⟨k, hk⟩ := type_call_eq x t
  rw [hk]
  refine wpC_bind (wpC_holding (wpC_call (codeC_call_builtin F.called_int.plain F.entry_int_new (F.newCall_int_1 (.str x t)) ?_)))
  rw [int_new_eq]
  refine wpC_bind ?_
  obtain ⟨k₁, e₁, k₂, e₂, k₃, e₃, k₄, e₄, e₅⟩ := int_obj_eq x t
  rw [e₁]
  have f3 := KIN.str_int
  have f4 := KIN.str_idx
  have f5 := KIN.str_trunc
  have f6 : typeOf (.str x t) = pure (.type "str") := rfl
  have g3 : callSpecial? (.str x t) "__int__" = pure none := by
    unfold callSpecial?
    simp only [specialOf, f6, f3, pure_bind]
  have g4 : specialOf (.str x t) "__index__" = pure none := by simp only [specialOf, f6, f4, pure_bind]
  have g5 : specialOf (.str x t) "__trunc__" = pure none := by simp only [specialOf, f6, f5, pure_bind]
  have g6 : (int_private% "numeralText?") (.str x t) = pure (some (numTextOf x)) := rfl
  rw [g3, pure_bind, e₂, g4, pure_bind, e₃, g5, pure_bind, e₄, g6, pure_bind, e₅, int_text_eq x t _ hs hr]
  exact refuse_C hh hrep h
end
end Mine
end
/-! part En -/
section
open PySem PySem.W PyProof.Rows PySem.Calls
set_option Elab.async false
set_option maxRecDepth 100000
namespace Mine
section
variable {prog : Program} {w : World} {A₀ A : Around} {s : Shared} {base h₀ g₀ : Heap} {outer : List Env} {L a : Addr} {m : Str → Option Value} {cn : Str} {cs : Scope} {ccd : Value} {news : List (Addr × Obj)} {K : Frag} {p : Program} {loose : List Str} {mean : ExcName → Option Value} {mg mb : Str → Option Value}
    {R : Result → Shared → Prop} {name qual : Str} {params : Arguments} {body : List Stmt} {scope : Scope} {dV kV doc pm cdv ct oc : Value} {an od : Option Addr} {osl : Array (Option Value)} {f : Addr} {args : Args} {binds : List (Str × Value)}

/-- a def is entered (C) -/
theorem codeC_def {fd : FuncData} {o : Obj} (hroom : A.depth < recursionLimit) (ho : s.heap.get? a = some o) (hdata : o.data = .func fd) (hlim : s.heap.NoLimit) (hcd : s.heap.CodeRec fd.code fd.qualname)
    (hbody : fd.body = .stmts body) (hbind : BindsTo s fd args binds) (hcell : ∀ x ∈ fd.scope.names, x.2 ≠ .cell) (hloc : ∀ x ∈ binds, fd.scope.names.lookup x.1 = some .local)
    (h : ∀ h₀, h₀.Ns s.heap.objs.size (fun x => binds.reverse.lookup x) → (∀ b o, s.heap.get? b = some o → h₀.get? b = some o) →
      wpC (model prog w) (A.deeper (callEnv fd s.heap.objs.size a)) (execs body (callEnv fd s.heap.objs.size a)) (fun f s' => R (.ok (.ret (match f with | .ret v => v | _ => .none))) s')
        (fun e s' => wpAny (model prog w) (A.deeper (callEnv fd s.heap.objs.size a)) (leaving (callEnv fd s.heap.objs.size a) e) (fun _ s'' => R (.error e) s'') (fun e' s'' => R (.error e') s'') s')
        { s with heap := h₀, toks := s.toks + binds.length })
    (hco : fd.scope.isCoroutine = false) (hgen : fd.scope.isGenerator = false) (hk : fd.scope.kind = .function) : codeC (model prog w) A (.call (.ref a) args) R s := by
  refine codeC_function hroom ho hdata hco hgen hbody hcd (hbind _ _ _ _ ?_)
  refine wpAny_newFunctionEnv hcell hloc (fun h₀ hns₀ hsb₀ => ⟨hlim.fresh _ hsb₀, codeC_func (h h₀ hns₀ fun b o e => ?_)⟩) hk
  exact hsb₀.extBut b o (Nat.ne_of_lt (Heap.lt_size e)) (Heap.get?_push_of_some _ e)

/-- the frame that called stands as it stood, whatever the callee did with its slots -/
theorem frame_back {fs : List Addr} {g g' h' : Heap} {L' : Addr} {m' : Str → Option Value} {news' : List (Addr × Obj)} (FG : Fr h₀ L g m) (hfs : ∀ b ∈ fs, b = L) (T : KtsTurn fs g g') (F' : Fr g' L' h' m')
    (N' : News g' L' h' news') : Fr h₀ L h' m ∧ News h₀ L h' news' := by
  have gone : ∀ x ∈ news', g.get? x.1 = none := fun x hx => by
    refine Option.eq_none_iff_forall_ne_some.mpr fun o e => ?_
    obtain ⟨_, q⟩ := T.up e
    exact nomatch q.symm.trans (N' x hx).2.2
  obtain ⟨o, es, n, at_, dict, names⟩ := FG.ns
  obtain ⟨sl, now⟩ := T.up at_
  constructor
  · refine ⟨⟨_, es, n, F'.keep _ _ now, dict, names⟩, fun b y e => F'.keep b y (T.other b y (FG.keep b y e) fun hb => ?_), FG.above⟩
    exact nomatch (hfs b hb ▸ e).symm.trans (kts_self FG)
  · refine fun x hx => ⟨(N' x hx).1, fun e => ?_, Option.eq_none_iff_forall_ne_some.mpr fun y e => ?_⟩
    · have none_ := gone x hx
      rw [e, at_] at none_
      exact nomatch none_
    · exact nomatch (FG.keep _ _ e).symm.trans (gone x hx)

/-- a def's body over the frame beneath, whose own new objects are hid -/
theorem codeC_over {envs : List Env} (F : Fr h₀ L s.heap m) (X₀ : K.In h₀) (N : News h₀ L s.heap news) (T : Top p loose mean mg mb h₀)
    (ho : K.lookup f = some ⟨oc, od, .func (fnOf name qual params body scope dV kV doc pm an cdv ct), osl⟩) (hcd : codeIn K cdv qual = true) (hroom : A.depth < recursionLimit)
    (hbind : BindsTo s (fnOf name qual params body scope dV kV doc pm an cdv ct) args binds) (hloc : ∀ y ∈ binds, scope.names.lookup y.1 = some .local)
    (FG : Fr h₀ L (hideAll s.heap (news.map (·.1))) m) (BG : Below A base envs (hideAll s.heap (news.map (·.1)))) (DG : KtsDicts (envs.filterMap (·.frame)) (hideAll s.heap (news.map (·.1)))) {Q : Heap → Flow → Shared → Prop}
    (h : ∀ g L' h₁, Fr h₀ L g m → Fr g L' h₁ (fun y => binds.reverse.lookup y) → News g L' h₁ news → Below A base envs g → K.In g → Top p loose mean mg mb g → KtsDicts (envs.filterMap (·.frame)) g →
      wpC (model prog w) (A.deeper (envOf qual scope L' f cdv)) (execs body (envOf qual scope L' f cdv)) (Q g)
        (fun e s' => wpAny (model prog w) (A.deeper (envOf qual scope L' f cdv)) (leaving (envOf qual scope L' f cdv) e) (fun _ s'' => R (.error e) s'') (fun e' s'' => R (.error e') s'') s')
        { s with heap := h₁, toks := s.toks + binds.length })
    (hQ : ∀ fl s', Q (hideAll s.heap (news.map (·.1))) fl s' → R (.ok (.ret (match fl with | .ret v => v | _ => .none))) s')
    (hco : scope.isCoroutine = false) (hgen : scope.isGenerator = false) (hk : scope.kind = .function) (hcell : ∀ x ∈ scope.names, x.2 ≠ .cell) : codeC (model prog w) A (.call (.ref f) args) R s := by
  have XS := X₀.keeps F.keep
  refine codeC_def (fd := fnOf name qual params body scope dV kV doc pm an cdv ct) (body := body) (binds := binds) hroom (XS _ _ ho) rfl (T.nolimit.keeps F.keep) (codeRec_of XS hcd) rfl hbind hcell hloc (fun h₁ own grown => ?_) hco hgen hk
  have under : Fr (hideAll s.heap (news.map (·.1))) s.heap.objs.size h₁ (fun y => binds.reverse.lookup y) := ⟨own, fun b o e => grown b o (of_hideAll _ e), by rw [hideAll_size]; exact Nat.le_refl _⟩
  have still : News (hideAll s.heap (news.map (·.1))) s.heap.objs.size h₁ news := fun x hx => by
    have there := (N x hx).1
    refine ⟨grown _ _ there, fun e => ?_, hideAll_none _ (List.mem_map_of_mem hx)⟩
    exact Nat.lt_irrefl _ (e ▸ Heap.lt_size there)
  exact wpC_mono (h _ _ _ FG under still BG (X₀.keeps FG.keep) (T.keeps FG.keep) DG) hQ fun _ _ x => x

/-- a def with a try, called from the law's own frame (which may have cells) -/
theorem codeC_defS0 {env : Env} (B : Below A₀ base [] h₀) (F : Fr h₀ L s.heap m) (X₀ : K.In h₀) (N : News h₀ L s.heap news) (T : Top p loose mean mg mb h₀) (hA : A.frames = some [env]) (hf : env.frame = some L) (hke : env.scope.kind = .function)
    (ho : K.lookup f = some ⟨oc, od, .func (fnOf name qual params body scope dV kV doc pm an cdv ct), osl⟩) (hcd : codeIn K cdv qual = true) (hroom : A.depth < recursionLimit)
    (hbind : BindsTo s (fnOf name qual params body scope dV kV doc pm an cdv ct) args binds) (hloc : ∀ y ∈ binds, scope.names.lookup y.1 = some .local)
    (h : ∀ g L' h₁, Fr h₀ L g m → Fr g L' h₁ (fun y => binds.reverse.lookup y) → News g L' h₁ news → Below A base [env] g → K.In g → Top p loose mean mg mb g → KtsDicts ([env].filterMap (·.frame)) g →
      wpC (model prog w) (A.deeper (envOf qual scope L' f cdv)) (execs body (envOf qual scope L' f cdv))
        (fun fl s' => LeaveS0 ([env].filterMap (·.frame)) h₀ L m g R (match fl with | .ret v => v | _ => .none) s')
        (fun e s' => wpAny (model prog w) (A.deeper (envOf qual scope L' f cdv)) (leaving (envOf qual scope L' f cdv) e) (fun _ s'' => R (.error e) s'') (fun e' s'' => R (.error e') s'') s')
        { s with heap := h₁, toks := s.toks + binds.length })
    (hco : scope.isCoroutine = false) (hgen : scope.isGenerator = false) (hk : scope.kind = .function) (hcell : ∀ x ∈ scope.names, x.2 ≠ .cell) : codeC (model prog w) A (.call (.ref f) args) R s := by
  obtain ⟨FG, BG, _⟩ := groundX (R := R) B F N hA hf hke
  have one : ∀ b ∈ [env].filterMap (·.frame), b = L := fun b hb => by
    rw [List.filterMap_cons_some hf] at hb
    exact List.mem_singleton.mp hb
  refine codeC_over (envs := [env]) F X₀ N T ho hcd hroom hbind hloc FG BG (fun b hb => ?_) h (fun fl s' hl => ?_) hco hgen hk hcell
  · obtain ⟨o, es, n, e, d, _⟩ := FG.ns
    exact one b hb ▸ ⟨o, es, n, e, d⟩
  · obtain ⟨g', L', m', news', T', F', N', k⟩ := hl
    exact k (frame_back FG one T' F' N').1 (frame_back FG one T' F' N').2

/-- a def called from a def, its raise caught there (C; the def below is on the path, it only raises) -/
theorem codeC_defR (B : Below A₀ base outer h₀) (F : Fr h₀ L s.heap m) (X₀ : K.In h₀) (N : News h₀ L s.heap news) (T : Top p loose mean mg mb h₀) (D : KtsDicts (outer.filterMap (·.frame)) h₀)
    (hA : A.frames = some (envOf cn cs L a ccd :: outer))
    (ho : K.lookup f = some ⟨oc, od, .func (fnOf name qual params body scope dV kV doc pm an cdv ct), osl⟩) (hcd : codeIn K cdv qual = true) (hroom : A.depth < recursionLimit)
    (hbind : BindsTo s (fnOf name qual params body scope dV kV doc pm an cdv ct) args binds) (hloc : ∀ y ∈ binds, scope.names.lookup y.1 = some .local)
    (h : ∀ g L' h₁, Fr h₀ L g m → Fr g L' h₁ (fun y => binds.reverse.lookup y) → News g L' h₁ news → Below A base (envOf cn cs L a ccd :: outer) g → K.In g → Top p loose mean mg mb g → KtsDicts ((envOf cn cs L a ccd :: outer).filterMap (·.frame)) g →
      wpC (model prog w) (A.deeper (envOf qual scope L' f cdv)) (execs body (envOf qual scope L' f cdv)) (fun _ _ => False)
        (fun e s' => wpAny (model prog w) (A.deeper (envOf qual scope L' f cdv)) (leaving (envOf qual scope L' f cdv) e) (fun _ s'' => R (.error e) s'') (fun e' s'' => R (.error e') s'') s')
        { s with heap := h₁, toks := s.toks + binds.length })
    (hck : cs.kind = .function) (hco : scope.isCoroutine = false) (hgen : scope.isGenerator = false) (hk : scope.kind = .function)
    (hcell : ∀ x ∈ scope.names, x.2 ≠ .cell) : codeC (model prog w) A (.call (.ref f) args) R s := by
  obtain ⟨FG, BG, _⟩ := groundX (R := R) B F N hA rfl hck
  refine codeC_over (envs := envOf cn cs L a ccd :: outer) F X₀ N T ho hcd hroom hbind hloc FG BG (fun b hb => ?_) h (fun _ _ hl => hl.elim) hco hgen hk hcell
  rcases List.mem_cons.mp hb with e | hb
  · obtain ⟨o, es, n, at_, d, _⟩ := FG.ns
    exact e ▸ ⟨o, es, n, at_, d⟩
  · obtain ⟨o, es, n, at_, d⟩ := D b hb
    exact ⟨o, es, n, FG.keep _ _ at_, d⟩
end
end Mine
end
/-! part Hd -/
section
open PySem PySem.W PyProof.Rows
set_option Elab.async false
namespace Mine
set_option maxRecDepth 100000 in
set_option maxHeartbeats 8000000 in
open_top hd for PySem.Challenge.rw_pg0029_01
end Mine
end
theorem Mine.topOffTo : True := by
  w_top off
  trivial
/-! part To -/
section
open PySem PySem.W PyProof.Rows PySem.Calls
set_option Elab.async false
namespace Mine
noncomputable abbrev LL : List Str := looseW hd.view_39 [Str.ofString "_twin_re_1", Str.ofString "_twin_re_2", Str.ofString "_twin_re_3"]
section
variable {prog : Program} {w : World} {A : Around} {E : Value → Shared → Prop} {s : Shared} {Q : Value → Shared → Prop} {x y : Str} {t u v : Tok} {h₀ : Heap} {L : Addr} {m : Str → Option Value} {news : List (Addr × Obj)}
theorem find_is {i : Int} (e : Txt.find x y = i) (h : Q (.int i s.toks) { s with toks := s.toks + 1 }) : wpAny (model prog w) A (call (.builtin "str.find") [.str x t, .str y u]) Q E s := by
  subst e; exact SC.find h
theorem find3_is {i k : Int} (e : Txt.find3 x y i = k) (h : Q (.int k s.toks) { s with toks := s.toks + 1 }) : wpAny (model prog w) A (call (.builtin "str.find") [.str x t, .str y u, .int i v]) Q E s := by
  subst e; exact SC.find3 h
theorem item_is {value slice : PySem.Expr} {i : Int} (e : Txt.item x i = y) (h1 : 0 ≤ i) (h2 : i < x.length) (h3 : (x.length : Int) ≤ 100000) (h : Q (.str y s.toks) { s with toks := s.toks + 1 })
    (hs : subscripted slice false (.str x t) (.int i u) = operate [.str x t, .int i u] (getItem (.str x t) (.int i u)) := by with_unfolding_all rfl)
    (ht : ∀ r, letTemporaryGo value (.str x t) r = pure () := by intro _; with_unfolding_all rfl) : wpAny (model prog w) A (subscriptTail value slice (.str x t) (.int i u)) Q E s := by
  subst e
  exact item_str (fitsSsize_of (N := 9223372036854775808) (by omega) (by omega) (Int.le_refl _)) (by omega) h2 (fun _ => h) hs ht
theorem split_len {z : Str} {i : Int} {n : Nat} (e : (Txt.split x (Txt.item z i)).length = n) (hl : (x.length : Int) ≤ 100000) (hF : Fr h₀ L s.heap m) (hN : News h₀ L s.heap news)
    (h : ∀ l h' k, (l.map (·.1)).length = n → StrsAre (strValues l) (l.map (·.1)) → h'.IsList s.heap.objs.size (strValues l).toArray → Fr h₀ L h' m →
      News h₀ L h' ((s.heap.objs.size, { cls := .type "list", data := .seq (strValues l).toArray }) :: news) → Q (.ref s.heap.objs.size) { s with heap := h', toks := k }) :
    wpAny (model prog w) A (call (.builtin "str.split") [.str x t, .str (Txt.item z i) u]) Q E s :=
  splitN1A hF hN (by rw [len_item]; rfl) (fun l h' k e' hs _ hL F N => h l h' k (by rw [e', e]) hs hL F N) (by rw [sizeLine_eq]; omega)
theorem split_five {z p0 p1 p2 p3 p4 : Str} {i : Int} (e : Txt.split x (Txt.item z i) = [p0, p1, p2, p3, p4]) (hl : (x.length : Int) ≤ 100000) (hF : Fr h₀ L s.heap m) (hN : News h₀ L s.heap news)
    (h : ∀ t0 t1 t2 t3 t4 h' k, Fr h₀ L h' m → News h₀ L h' ((s.heap.objs.size, { cls := .type "list", data := .seq [.str p0 t0, .str p1 t1, .str p2 t2, .str p3 t3, .str p4 t4].toArray }) :: news) → Q (.ref s.heap.objs.size) { s with heap := h', toks := k }) :
    wpAny (model prog w) A (call (.builtin "str.split") [.str x t, .str (Txt.item z i) u]) Q E s :=
  splitN1A hF hN (by rw [len_item]; rfl) (fun l h' k e' hs _ hL F N => by
    rw [e] at e'
    match l, e' with
    | [(_, t0), (_, t1), (_, t2), (_, t3), (_, t4)], e' =>
      simp only [List.map_cons, List.map_nil, List.cons.injEq, and_true] at e'
      obtain ⟨rfl, rfl, rfl, rfl, rfl⟩ := e'
      exact h t0 t1 t2 t3 t4 h' k F N) (by rw [sizeLine_eq]; omega)
theorem slice_len {a b : Option Int} {n : Int} (h : (x.length : Int) ≤ n) : ((Txt.slice x a b).length : Int) ≤ n := by
  have := Txt.slice_le x a b
  omega
theorem len_led {a : Addr} {l : List (Str × Tok)} {c n : Nat} (hN : News h₀ L s.heap news) (hm : (a, ({ cls := .type "list", data := .seq (strValues l).toArray c } : Obj)) ∈ news) (e : (l.map (·.1)).length = n) (hl : n ≤ 16777216)
    (h : Q (.int (n : Nat) (s.toks + 1)) { s with toks := s.toks + 1 + 1 }) : wpAny (model prog w) A (call (.builtin "len") [.ref a]) Q E s :=
  by
  subst e
  exact len_strsA (News.isList hN hm) (strsAre_of_values l) (by omega) h
theorem item_mem {value slice : PySem.Expr} {l : Addr} {vs : List Value} {k : Int} {r : Value} {c : Nat} (hN : News h₀ L s.heap news) (hm : (l, ({ cls := .type "list", data := .seq vs.toArray c } : Obj)) ∈ news) (h0 : 0 ≤ k) (hk : k < 2 ^ 63) (hx : vs[k.toNat]? = some r) (h : Q r s)
    (hs : subscripted slice false (.ref l) (.int k u) = operate [.ref l, .int k u] (getItem (.ref l) (.int k u)) := by with_unfolding_all rfl) (hg : ∀ r, letTemporaryGo value (.ref l) r = pure () := by intro _; with_unfolding_all rfl) :
    wpAny (model prog w) A (subscriptTail value slice (.ref l) (.int k u)) Q E s := item_listL (News.isList hN hm) h0 hk hx h hs hg
theorem ite_is_t {b : Bool} {P Q : Prop} (e : b = true) (h : P) : if b = true then P else Q := by rw [if_pos e]; exact h
theorem ite_is_f {b : Bool} {P Q : Prop} (e : b = false) (h : Q) : if b = true then P else Q := by rw [if_neg (by rw [e]; exact Bool.false_ne_true)]; exact h
end
local macro_rules | `(tactic| walk_at "ite") => `(tactic| (k_here; first | refine ite_is_t (by assumption) ?_ | refine ite_is_f (by assumption) ?_))
local macro_rules | `(tactic| walk_at "call builtin:str.find") => `(tactic| (k_here; (with_reducible show wpAny _ _ (call (Value.builtin "str.find") [Value.str _ _, Value.str _ _]) _ _ _); refine find_is (by assumption) ?_))
local macro_rules | `(tactic| walk_at "call builtin:str.find") => `(tactic| (k_here; (with_reducible show wpAny _ _ (call (Value.builtin "str.find") [Value.str _ _, Value.str _ _, Value.int _ _]) _ _ _); refine find3_is (by assumption) ?_))
local macro_rules | `(tactic| walk_at "subscriptTail") => `(tactic| (k_here; (with_reducible show wpAny _ _ (subscriptTail _ _ (Value.str _ _) (Value.int _ _)) _ _ _); refine item_is (by assumption) (by omega) (by omega) (by assumption) ?_))

local macro_rules | `(tactic| walk_at "call builtin:len") => `(tactic| (k_here; (with_reducible show wpAny _ _ (call (Value.builtin "len") [Value.ref _]) _ _ _); refine len_led (by k_asm) (List.Mem.head _) (by assumption) (by assumption) ?_))
local macro_rules | `(tactic| walk_at "subscriptTail Name Constant ref int") => `(tactic| (k_here; refine item_mem (by k_asm) (by first | assumption | exact List.mem_cons_of_mem _ (by assumption) | exact List.mem_cons_of_mem _ (List.mem_cons_of_mem _ (by assumption))) (by decide) (by decide) (by rfl) ?_))
local macro_rules | `(tactic| walk_at "call builtin:str.split") => `(tactic| (k_here; (with_reducible show wpAny _ _ (call (Value.builtin "str.split") [Value.str _ _, Value.str (Txt.item _ _) _]) _ _ _); first
  | (refine split_five (by assumption) (by first | assumption | exact slice_len (by assumption)) (by k_asm) (by k_asm) ?_; intro _ _ _ _ _ _ _ _ _)
  | (refine split_len (by assumption) (by first | assumption | exact slice_len (by assumption)) (by k_asm) (by k_asm) ?_; intro _ _ _ _ _ _ _ _)))
set_option maxRecDepth 100000 in
set_option maxHeartbeats 8000000 in
theorem told_C1 {w : World} {mean : ExcName → Option Value} {mg mb : Str → Option Value} {cn : Str} {cs : Scope} {a : Addr} {ccd : Value} {cl : List (Str × Addr)} {h₀ : Heap} {L : Addr} {m : Str → Option Value} {s : Shared} {Q E : Value → Shared → Prop} {news : List (Addr × Obj)}
   {x : Str} {tx : Tok} {pr : Addr} {r : Int}
    (B : Below callerA h₀ [] h₀) (F : Fr h₀ L s.heap m) (X : (hd.heap_39 w.params).In h₀) (N : News h₀ L s.heap news) (T : Top hd.view_39 LL mean mg mb h₀) (hk : cs.kind = .function)
    (hlen : (x.length : Int) ≤ 100000)
    (e1 : (Txt.slice x none (some 3) != Str.ofString "229") = false) (e2 : Txt.find x (Str.ofString "(") = 5) (e3 : Txt.find3 x (Str.ofString ")") (5 + 1) = r) (hr1 : 7 ≤ r) (hr2 : r < x.length)
    (e6 : (Txt.item x (5 + 1) != Txt.item x (r - 1)) = true)
    (hret : ∀ t h' tk', Fr h₀ L h' m → News h₀ L h' news → Q (.str (Str.ofString "proto") t) { s with heap := h', toks := tk' }) :
    wpC (model Challenge.rw_pg0029_01.row.prog w) (callerA.deeper (envX cn cs L a ccd cl)) (call (.ref 132) [.str x tx, .ref pr]) Q E s := by
  revert X; k_fill; intro X
  refine wpC_call ?_
  k_dflt (refine' codeC_defS0 ?k1 ?k2 ?k3 ?k4 ?k5 ?kA ?kF ?kK ?k6 ?k7 ?k8 ?k9 ?kB ?_ ?c2 ?c3 ?c4 ?c5; (case kA => exact rfl); (case kF => exact rfl); (case kK => exact hk); (case k1 => exact B); (case k2 => exact F); (case k3 => exact X); (case k4 => exact N); (case k5 => exact T); (case k6 => k_is); (case k7 => k_is); (case k8 => k_room); (case k9 => exact BindsTo.of_eq rfl); (case kB => exact locs rfl); (case c2 => exact rfl); (case c3 => exact rfl); (case c4 => exact rfl); (case c5 => decide))
  intro g' L' h' FG' F' N' B' X' T' D'
  refine wpC_execs (wpC_Try (wpC_of ?_))
  dsimp only
  k_steps
  exact hret _ _ _ (by k_asm) (by k_asm)
set_option maxRecDepth 100000 in
set_option maxHeartbeats 8000000 in
theorem told_C2 {w : World} {mean : ExcName → Option Value} {mg mb : Str → Option Value} {cn : Str} {cs : Scope} {a : Addr} {ccd : Value} {cl : List (Str × Addr)} {h₀ : Heap} {L : Addr} {m : Str → Option Value} {s : Shared} {Q E : Value → Shared → Prop} {news : List (Addr × Obj)}
   {x : Str} {tx : Tok} {pr : Addr} {r : Int} {n : Nat}
    (B : Below callerA h₀ [] h₀) (F : Fr h₀ L s.heap m) (X : (hd.heap_39 w.params).In h₀) (N : News h₀ L s.heap news) (T : Top hd.view_39 LL mean mg mb h₀) (hk : cs.kind = .function)
    (hlen : (x.length : Int) ≤ 100000)
    (e1 : (Txt.slice x none (some 3) != Str.ofString "229") = false) (e2 : Txt.find x (Str.ofString "(") = 5) (e3 : Txt.find3 x (Str.ofString ")") (5 + 1) = r) (hr1 : 7 ≤ r) (hr2 : r < x.length)
    (e6 : (Txt.item x (5 + 1) != Txt.item x (r - 1)) = false) (e7 : (Txt.split (Txt.slice x (some (5 + 1)) (some r)) (Txt.item x (5 + 1))).length = n) (hn : n ≠ 5) (hn2 : n ≤ 16777216)
    (hret : ∀ t h' tk', Fr h₀ L h' m → News h₀ L h' news → Q (.str (Str.ofString "proto") t) { s with heap := h', toks := tk' }) :
    wpC (model Challenge.rw_pg0029_01.row.prog w) (callerA.deeper (envX cn cs L a ccd cl)) (call (.ref 132) [.str x tx, .ref pr]) Q E s := by
  revert X; k_fill; intro X
  refine wpC_call ?_
  k_dflt (refine' codeC_defS0 ?k1 ?k2 ?k3 ?k4 ?k5 ?kA ?kF ?kK ?k6 ?k7 ?k8 ?k9 ?kB ?_ ?c2 ?c3 ?c4 ?c5; (case kA => exact rfl); (case kF => exact rfl); (case kK => exact hk); (case k1 => exact B); (case k2 => exact F); (case k3 => exact X); (case k4 => exact N); (case k5 => exact T); (case k6 => k_is); (case k7 => k_is); (case k8 => k_room); (case k9 => exact BindsTo.of_eq rfl); (case kB => exact locs rfl); (case c2 => exact rfl); (case c3 => exact rfl); (case c4 => exact rfl); (case c5 => decide))
  intro g' L' h' FG' F' N' B' X' T' D'
  refine wpC_execs (wpC_Try (wpC_of ?_))
  dsimp only
  k_steps
  all_goals first
    | (exfalso; omega)
    | exact hret _ _ _ (by k_asm) (by first | k_asm | exact cb_drop (by assumption) (fun p hp => List.mem_cons_of_mem _ hp))
set_option maxRecDepth 100000 in
set_option maxHeartbeats 8000000 in
theorem told_C4 {w : World} {mean : ExcName → Option Value} {mg mb : Str → Option Value} {cn : Str} {cs : Scope} {a : Addr} {ccd : Value} {cl : List (Str × Addr)} {h₀ : Heap} {L : Addr} {m : Str → Option Value} {s : Shared} {Q E : Value → Shared → Prop} {news : List (Addr × Obj)}
   {x host p0 p1 p2 p3 p4 : Str} {tx th tp : Tok} {pr : Addr} {r pl port : Int}
    (B : Below callerA h₀ [] h₀) (F : Fr h₀ L s.heap m) (X : (hd.heap_39 w.params).In h₀) (N : News h₀ L s.heap news) (T : Top hd.view_39 LL mean mg mb h₀) (hk : cs.kind = .function)
    (hlen : (x.length : Int) ≤ 100000)
    (e1 : (Txt.slice x none (some 3) != Str.ofString "229") = false) (e2 : Txt.find x (Str.ofString "(") = 5) (e3 : Txt.find3 x (Str.ofString ")") (5 + 1) = r) (hr1 : 7 ≤ r) (hr2 : r < x.length)
    (e6 : (Txt.item x (5 + 1) != Txt.item x (r - 1)) = false) (e7 : Txt.split (Txt.slice x (some (5 + 1)) (some r)) (Txt.item x (5 + 1)) = [p0, p1, p2, p3, p4])
    (hp3 : p3.length ≤ 640) (e8 : PySem.intText? p3 = some port) (hpr : (pr, ({ cls := .type "list", data := .seq [.str host th, .int pl tp].toArray } : Obj)) ∈ news)
    (hret : ∀ a' t u n h' tk', Fr h₀ L h' m → News h₀ L h' ((a', ({ cls := .type "tuple", data := .seq [.str host t, .int port u, .bool true].toArray n } : Obj)) :: news) → Q (.ref a') { s with heap := h', toks := tk' }) :
    wpC (model Challenge.rw_pg0029_01.row.prog w) (callerA.deeper (envX cn cs L a ccd cl)) (call (.ref 132) [.str x tx, .ref pr]) Q E s := by
  revert X; k_fill; intro X
  refine wpC_call ?_
  k_dflt (refine' codeC_defS0 ?k1 ?k2 ?k3 ?k4 ?k5 ?kA ?kF ?kK ?k6 ?k7 ?k8 ?k9 ?kB ?_ ?c2 ?c3 ?c4 ?c5; (case kA => exact rfl); (case kF => exact rfl); (case kK => exact hk); (case k1 => exact B); (case k2 => exact F); (case k3 => exact X); (case k4 => exact N); (case k5 => exact T); (case k6 => k_is); (case k7 => k_is); (case k8 => k_room); (case k9 => exact BindsTo.of_eq rfl); (case kB => exact locs rfl); (case c2 => exact rfl); (case c3 => exact rfl); (case c4 => exact rfl); (case c5 => decide))
  intro g' L' h' FG' F' N' B' X' T' D'
  refine wpC_execs (wpC_Try (wpC_of ?_))
  dsimp only
  k_steps
  refine wpC_of ?_
  k_steps
  exact hret _ _ _ _ _ _ (by k_asm) (cb_drop (by assumption) (by
    intro p hp
    rcases List.mem_cons.mp hp with rfl | hp
    · exact List.Mem.head _
    · (repeat apply List.mem_cons_of_mem)
      exact hp))
end Mine
end
theorem Mine.topOffTv : True := by
  w_top off
  trivial
/-! part Tv -/
section
open PySem PySem.W PyProof.Rows PySem.Calls
set_option Elab.async false
namespace Mine
section
variable {prog : Program} {w : World} {A : Around} {E : Value → Shared → Prop} {s : Shared} {env : Env}
theorem wpC_cut (n : Nat) {body : List Stmt} {Q : Flow → Shared → Prop} (h : wpAny (model prog w) A (execs (body.take n) env) (fun f s₁ => match f with | .next => wpC (model prog w) A (execs (body.drop n) env) Q E s₁ | f => Q f s₁) E s) : wpC (model prog w) A (execs body env) Q E s := by
  have := wpC_steps (l₁ := body.take n) (l₂ := body.drop n) h
  rwa [List.take_append_drop] at this
end
local macro_rules | `(tactic| walk_at "no such step") => `(tactic| skip)
local macro_rules | `(tactic| walk_at "ite") => `(tactic| (k_here; first | refine ite_is_t (by assumption) ?_ | refine ite_is_f (by assumption) ?_))
local macro_rules | `(tactic| walk_at "call builtin:str.find") => `(tactic| (k_here; (with_reducible show wpAny _ _ (call (Value.builtin "str.find") [Value.str _ _, Value.str _ _]) _ _ _); refine find_is (by assumption) ?_))
local macro_rules | `(tactic| walk_at "call builtin:str.find") => `(tactic| (k_here; (with_reducible show wpAny _ _ (call (Value.builtin "str.find") [Value.str _ _, Value.str _ _, Value.int _ _]) _ _ _); refine find3_is (by assumption) ?_))
local macro_rules | `(tactic| walk_at "subscriptTail") => `(tactic| (k_here; (with_reducible show wpAny _ _ (subscriptTail _ _ (Value.str _ _) (Value.int _ _)) _ _ _); refine item_is (by assumption) (by omega) (by omega) (by assumption) ?_))
local macro_rules | `(tactic| walk_at "call builtin:len") => `(tactic| (k_here; (with_reducible show wpAny _ _ (call (Value.builtin "len") [Value.ref _]) _ _ _); refine len_led (by k_asm) (List.Mem.head _) (by assumption) (by assumption) ?_))
local macro_rules | `(tactic| walk_at "subscriptTail Name Constant ref int") => `(tactic| (k_here; refine item_mem (by k_asm) (by first | assumption | exact List.mem_cons_of_mem _ (by assumption) | exact List.mem_cons_of_mem _ (List.mem_cons_of_mem _ (by assumption))) (by decide) (by decide) (by rfl) ?_))
local macro_rules | `(tactic| walk_at "call builtin:str.split") => `(tactic| (k_here; (with_reducible show wpAny _ _ (call (Value.builtin "str.split") [Value.str _ _, Value.str (Txt.item _ _) _]) _ _ _); first
  | (refine split_five (by assumption) (by first | assumption | exact slice_len (by assumption)) (by k_asm) (by k_asm) ?_; intro _ _ _ _ _ _ _ _ _)
  | (refine split_len (by assumption) (by first | assumption | exact slice_len (by assumption)) (by k_asm) (by k_asm) ?_; intro _ _ _ _ _ _ _ _)))
set_option maxRecDepth 100000 in
set_option maxHeartbeats 8000000 in
theorem told_C3 {w : World} {mean : ExcName → Option Value} {mg mb : Str → Option Value} {cn : Str} {cs : Scope} {a : Addr} {ccd : Value} {cl : List (Str × Addr)} {h₀ : Heap} {L : Addr} {m : Str → Option Value} {s : Shared} {Q E : Value → Shared → Prop} {news : List (Addr × Obj)}
   {x host p0 p1 p2 p3 p4 : Str} {tx th tp : Tok} {pr : Addr} {r pl : Int}
    (B : Below callerA h₀ [] h₀) (F : Fr h₀ L s.heap m) (X : (hd.heap_39 w.params).In h₀) (N : News h₀ L s.heap news) (T : Top hd.view_39 LL mean mg mb h₀) (hk : cs.kind = .function)
    (hlen : (x.length : Int) ≤ 100000)
    (e1 : (Txt.slice x none (some 3) != Str.ofString "229") = false) (e2 : Txt.find x (Str.ofString "(") = 5) (e3 : Txt.find3 x (Str.ofString ")") (5 + 1) = r) (hr1 : 7 ≤ r) (hr2 : r < x.length)
    (e6 : (Txt.item x (5 + 1) != Txt.item x (r - 1)) = false) (e7 : Txt.split (Txt.slice x (some (5 + 1)) (some r)) (Txt.item x (5 + 1)) = [p0, p1, p2, p3, p4])
    (hp3 : p3.length ≤ 640) (hp3c : ∀ c ∈ p3.cps.toList, c < 16 ^ 8) (e8 : PySem.intText? p3 = none) (hpr : (pr, ({ cls := .type "list", data := .seq [.str host th, .int pl tp].toArray } : Obj)) ∈ news)
    (hret : ∀ t h' tk', Fr h₀ L h' m → News h₀ L h' news → Q (.str (Str.ofString "value") t) { s with heap := h', toks := tk' }) :
    wpC (model Challenge.rw_pg0029_01.row.prog w) (callerA.deeper (envX cn cs L a ccd cl)) (call (.ref 132) [.str x tx, .ref pr]) Q E s := by
  revert X; k_fill; intro X
  refine wpC_call ?_
  k_dflt (refine' codeC_defS0 ?k1 ?k2 ?k3 ?k4 ?k5 ?kA ?kF ?kK ?k6 ?k7 ?k8 ?k9 ?kB ?_ ?c2 ?c3 ?c4 ?c5; (case kA => exact rfl); (case kF => exact rfl); (case kK => exact hk); (case k1 => exact B); (case k2 => exact F); (case k3 => exact X); (case k4 => exact N); (case k5 => exact T); (case k6 => k_is); (case k7 => k_is); (case k8 => k_room); (case k9 => exact BindsTo.of_eq rfl); (case kB => exact locs rfl); (case c2 => exact rfl); (case c3 => exact rfl); (case c4 => exact rfl); (case c5 => decide))
  intro g' L' h' FG' F' N' B' X' T' D'
  refine wpC_execs (wpC_Try (wpC_execs (wpC_AssignTuple (wpC_Call ?_))))
  k_steps
  k_dflt (refine' wpC_callDef (K := hd.heap_39 w.params) ?k1 ?_; (case k1 => k_is))
  k_steps
  refine wpC_call ?_
  k_dflt (refine' codeC_defR ?k1 ?k2 ?k3 ?k4 ?k5 ?kD ?kA ?k6 ?k7 ?k8 ?k9 ?kB ?_ ?kK ?c2 ?c3 ?c4 ?c5; (case kA => exact rfl); (case k1 => k_asm); (case k2 => k_asm); (case k3 => k_asm); (case k4 => k_asm); (case k5 => k_asm); (case kD => assumption); (case k6 => k_is); (case k7 => k_is); (case k8 => k_room); (case k9 => exact BindsTo.of_eq rfl); (case kB => exact locs rfl); (case kK => exact rfl); (case c2 => exact rfl); (case c3 => exact rfl); (case c4 => exact rfl); (case c5 => decide))
  intro g2' L2' h2' FG2' F2' N2' B2' X2' T2' D2'
  refine wpC_cut 9 ?_
  dsimp only [List.take, List.drop]
  k_steps
  refine wpC_execs (wpC_AssignName (wpC_Call ?_))
  k_steps
  refine wpC_callType ?_
  k_steps
  refine intFails e8 hp3 hp3c rfl ?_
  intro hx' tkx ex hX
  k_steps
  exact hret _ _ _ (by k_asm) (by first | k_asm | exact cb_drop (by assumption) (fun p hp => List.mem_cons_of_mem _ hp))
end Mine
end
theorem Mine.topOffRp : True := by
  w_top off
  trivial
/-! part Rp -/
section
open PySem PySem.W PyProof.Rows PySem.Calls
set_option Elab.async false
namespace Mine
/-- the law's tables -/
def PIECES : List Str := [Str.ofString "", Str.ofString ".", Str.ofString "\n", Str.ofString "\u000d", Str.ofString "\n.", Str.ofString "\u000d.", Str.ofString "a", Str.ofString "|", Str.ofString "7", Str.ofString ".\u000d\n", Str.ofString " ", Str.ofString "-"]
def TAILS : List Str := [Str.ofString "", Str.ofString "\n", Str.ofString "\u000d"]
def tpiece (k : Int) : Str := PIECES.getD k.toNat Str.empty
def ttail (k : Int) : Str := TAILS.getD k.toNat Str.empty
def tmark (c : Int) : Str := Txt.item (Str.ofString "..|\n\u000da7.") (Int.fmod c 8)
def tspare (c : Int) : Int := Int.fmod (Int.fdiv c 1152) 4
def tone (c : Int) : Str := if (tspare c).fmod 2 ≠ 0 then Str.ofString "" else tmark c
def ttwo (c : Int) : Str := if (tspare c).fdiv 2 ≠ 0 then Str.ofString "" else tmark c
def tbody (c : Int) : Str := (tpiece ((c.fdiv 8).fmod 12) ++ tone c ++ tpiece ((c.fdiv 96).fmod 12)) ++ (ttwo c ++ Str.ofString (toString (c.fdiv 13824)) ++ ttail ((c.fdiv 4608).fmod 3))
theorem len_le {x y : Str} {a b : Nat} (hx : x.length ≤ a) (hy : y.length ≤ b) : (x ++ y).length ≤ a + b := by rw [Str.length_append]; omega
theorem tpiece_len (k : Int) : (tpiece k).length ≤ 3 := by
  unfold tpiece
  rw [List.getD_eq_getElem?_getD]
  by_cases h : k.toNat < 12
  · have : ∀ i, i < 12 → (PIECES[i]?.getD Str.empty).length ≤ 3 := by decide +kernel
    exact this _ h
  · rw [List.getElem?_eq_none (by show 12 ≤ _; omega)]; decide
theorem ttail_len (k : Int) : (ttail k).length ≤ 1 := by
  unfold ttail
  rw [List.getD_eq_getElem?_getD]
  by_cases h : k.toNat < 3
  · have : ∀ i, i < 3 → (TAILS[i]?.getD Str.empty).length ≤ 1 := by decide +kernel
    exact this _ h
  · rw [List.getElem?_eq_none (by show 3 ≤ _; omega)]; decide
theorem tmark_len (c : Int) : (tmark c).length = 1 := len_item _ _
section
variable {prog : Program} {w : World} {A : Around} {E : Value → Shared → Prop} {s : Shared} {Q : Value → Shared → Prop} {x y : Str} {t u v : Tok} {h₀ : Heap} {L : Addr} {m : Str → Option Value} {news : List (Addr × Obj)}
theorem item_12 {value slice : PySem.Expr} {l : Addr} {k : Int} {a0 a1 a2 a3 a4 a5 a6 a7 a8 a9 a10 a11 : Tok} {c : Nat}
    (hN : News h₀ L s.heap news) (hm : (l, ({ cls := .type "list", data := .seq [.str (Str.ofString "") a0, .str (Str.ofString ".") a1, .str (Str.ofString "\n") a2, .str (Str.ofString "\u000d") a3, .str (Str.ofString "\n.") a4, .str (Str.ofString "\u000d.") a5, .str (Str.ofString "a") a6, .str (Str.ofString "|") a7, .str (Str.ofString "7") a8, .str (Str.ofString ".\u000d\n") a9, .str (Str.ofString " ") a10, .str (Str.ofString "-") a11].toArray c } : Obj)) ∈ news)
    (h : ∀ t', (tpiece (k.fmod 12)).length ≤ 3 → Q (.str (tpiece (k.fmod 12)) t') s)
    (hs : subscripted slice false (.ref l) (.int (k.fmod 12) u) = operate [.ref l, .int (k.fmod 12) u] (getItem (.ref l) (.int (k.fmod 12) u)) := by with_unfolding_all rfl) (hg : ∀ r, letTemporaryGo value (.ref l) r = pure () := by intro _; with_unfolding_all rfl) :
    wpAny (model prog w) A (subscriptTail value slice (.ref l) (.int (k.fmod 12) u)) Q E s :=
  item_strsA (ys := PIECES) (News.isList hN hm) (by unfold PIECES; repeat constructor) (fmod_lo _ (by decide)) (fmod_hi k (n := 12) (by decide)) (Int.lt_trans (fmod_hi k (n := 12) (by decide)) (by decide)) (fun t' => h t' (tpiece_len _)) hs hg
theorem item_3 {value slice : PySem.Expr} {l : Addr} {k : Int} {a0 a1 a2 : Tok} {c : Nat}
    (hN : News h₀ L s.heap news) (hm : (l, ({ cls := .type "list", data := .seq [.str (Str.ofString "") a0, .str (Str.ofString "\n") a1, .str (Str.ofString "\u000d") a2].toArray c } : Obj)) ∈ news)
    (h : ∀ t', (ttail (k.fmod 3)).length ≤ 1 → Q (.str (ttail (k.fmod 3)) t') s)
    (hs : subscripted slice false (.ref l) (.int (k.fmod 3) u) = operate [.ref l, .int (k.fmod 3) u] (getItem (.ref l) (.int (k.fmod 3) u)) := by with_unfolding_all rfl) (hg : ∀ r, letTemporaryGo value (.ref l) r = pure () := by intro _; with_unfolding_all rfl) :
    wpAny (model prog w) A (subscriptTail value slice (.ref l) (.int (k.fmod 3) u)) Q E s :=
  item_strsA (ys := TAILS) (News.isList hN hm) (by unfold TAILS; repeat constructor) (fmod_lo _ (by decide)) (fmod_hi k (n := 3) (by decide)) (Int.lt_trans (fmod_hi k (n := 3) (by decide)) (by decide)) (fun t' => h t' (ttail_len _)) hs hg
theorem add_is {n k : Nat} (hx : x.length ≤ n) (hy : y.length ≤ k) (hz : n + k ≤ 1000) (h : ∀ t' c, (x ++ y).length ≤ n + k → Q (.str (x ++ y) t') { s with toks := c }) : wpAny (model prog w) A (binaryOp .Add (.str x t) (.str y u)) Q E s :=
  KLn.add_n hx hy (by omega) (fun t' c _ _ _ h2 => h t' c (by omega))
theorem mark_is {value slice : PySem.Expr} {c : Int} (h : ∀ k, (tmark c).length ≤ 1 → Q (.str (tmark c) s.toks) { s with toks := k })
    (hs : subscripted slice false (.str (Str.ofString "..|\n\u000da7.") t) (.int (c.fmod 8) u) = operate [.str (Str.ofString "..|\n\u000da7.") t, .int (c.fmod 8) u] (getItem (.str (Str.ofString "..|\n\u000da7.") t) (.int (c.fmod 8) u)) := by with_unfolding_all rfl)
    (ht : ∀ r, letTemporaryGo value (.str (Str.ofString "..|\n\u000da7.") t) r = pure () := by intro _; with_unfolding_all rfl) : wpAny (model prog w) A (subscriptTail value slice (.str (Str.ofString "..|\n\u000da7.") t) (.int (c.fmod 8) u)) Q E s := by
  have h1 := fmod_lo c (n := 8) (by decide)
  have h2 := fmod_hi c (n := 8) (by decide)
  have h3 : (Str.ofString "..|\n\u000da7.").length = 8 := by decide +kernel
  exact item_str (fitsSsize_of (N := 9223372036854775808) (by omega) (by omega) (Int.le_refl _)) (by omega) (by omega) (fun _ => h _ (Nat.le_of_eq (tmark_len c))) hs ht
end
local macro_rules | `(tactic| walk_at "subscriptTail") => `(tactic| (k_here; (with_reducible show wpAny _ _ (subscriptTail _ _ (Value.ref _) (Value.int (Int.fmod _ 12) _)) _ _ _); k_dflt (refine item_12 (by k_asm) (by k_mem) ?_); intro _ _))
local macro_rules | `(tactic| walk_at "subscriptTail") => `(tactic| (k_here; (with_reducible show wpAny _ _ (subscriptTail _ _ (Value.ref _) (Value.int (Int.fmod _ 3) _)) _ _ _); k_dflt (refine item_3 (by k_asm) (by k_mem) ?_); intro _ _))
local macro_rules | `(tactic| walk_at "subscriptTail") => `(tactic| (k_here; (with_reducible show wpAny _ _ (subscriptTail _ _ (Value.str _ _) (Value.int (Int.fmod _ 8) _)) _ _ _); (refine mark_is ?_); intro _ _))
local macro_rules | `(tactic| walk_at "binaryOp Add str str") => `(tactic| (k_here; (refine add_is (by first | assumption | exact KT.len_num (by omega) (by omega) | (show (Str.ofString "").length ≤ 0; decide +kernel)) (by first | assumption | exact KT.len_num (by omega) (by omega) | (show (Str.ofString "").length ≤ 0; decide +kernel)) (by decide) ?_); intro _ _ _))
theorem inplace_is {prog : Program} {w : World} {A : Around} {E : Value → Shared → Prop} {s : Shared} {Q : Value → Shared → Prop} {x y : Str} {t u : Tok} {n k : Nat} (hx : x.length ≤ n) (hy : y.length ≤ k) (hz : n + k ≤ 1000) (h : ∀ t' c, (x ++ y).length ≤ n + k → Q (.str (x ++ y) t') { s with toks := c }) : wpAny (model prog w) A (inplaceOp .Add (.str x t) (.str y u)) Q E s :=
  SB.iadd (fun t' c => h t' c (len_le hx hy)) (by rw [sizeLine_eq]; omega)
local macro_rules | `(tactic| walk_at "inplaceOp Add str str") => `(tactic| (k_here; (refine inplace_is (by assumption) (by assumption) (by decide) ?_); intro _ _ _))
theorem tone_t {c : Int} (h : ((c.fdiv 1152).fmod 4).fmod 2 ≠ 0) : tone c = Str.ofString "" := if_pos h
theorem tone_f {c : Int} (h : ((c.fdiv 1152).fmod 4).fmod 2 = 0) : tone c = tmark c := if_neg (fun h' => h' h)
theorem ttwo_t {c : Int} (h : ((c.fdiv 1152).fmod 4).fdiv 2 ≠ 0) : ttwo c = Str.ofString "" := if_pos h
theorem ttwo_f {c : Int} (h : ((c.fdiv 1152).fmod 4).fdiv 2 = 0) : ttwo c = tmark c := if_neg (fun h' => h' h)
theorem tone_len (c : Int) : (tone c).length ≤ 1 := by
  unfold tone; split
  · decide +kernel
  · rw [tmark_len]; decide
theorem ttwo_len (c : Int) : (ttwo c).length ≤ 1 := by
  unfold ttwo; split
  · decide +kernel
  · rw [tmark_len]; decide
set_option maxRecDepth 100000 in
set_option maxHeartbeats 8000000 in
theorem reply_c {w : World} {mean : ExcName → Option Value} {mg mb : Str → Option Value} {cn : Str} {cs : Scope} {a : Addr} {ccd : Value} {cl : List (Str × Addr)} {h₀ : Heap} {L : Addr} {m : Str → Option Value} {s : Shared} {Q E : Value → Shared → Prop} {news : List (Addr × Obj)}
   {c : Int} {tc : Tok}
    (B : Below callerA h₀ [] h₀) (F : Fr h₀ L s.heap m) (X : (hd.heap_39 w.params).In h₀) (N : News h₀ L s.heap news) (T : Top hd.view_39 LL mean mg mb h₀) (hk : cs.kind = .function)
    (hc0 : 0 ≤ c) (hc1 : c < 1000000)
    (hret : ∀ a' t u n h' tk', Fr h₀ L h' m → News h₀ L h' ((a', ({ cls := .type "tuple", data := .seq [.str (tmark c) t, .str (tbody c) u].toArray n } : Obj)) :: news) → Q (.ref a') { s with heap := h', toks := tk' }) :
    wpAny (model Challenge.rw_pg0029_01.row.prog w) (callerA.deeper (envX cn cs L a ccd cl)) (call (.ref 118) [.int c tc]) Q E s := by
  revert X; k_fill; intro X
  refine wpAny_call ?_
  k_dflt cell_enter
  have hd1 : 0 ≤ c.fdiv 13824 := Int.fdiv_nonneg hc0 (by decide)
  have hd2 : c.fdiv 13824 < 1000000 := by
    rw [Int.fdiv_eq_ediv_of_nonneg _ (by decide)]; omega
  unfold tbody at hret
  k_steps
  all_goals (
    (first | rw [tone_t (by assumption)] at hret | rw [tone_f (by assumption)] at hret | fail "tone")
    (first | rw [ttwo_t (by assumption)] at hret | rw [ttwo_f (by assumption)] at hret | fail "ttwo")
    exact hret _ _ _ _ _ _ (by k_asm) (cb_drop (by assumption) (by
      intro p hp
      rcases List.mem_cons.mp hp with rfl | hp
      · exact List.Mem.head _
      · (repeat apply List.mem_cons_of_mem)
        exact hp)))
end Mine
end
/-! part Sr -/
section
open PySem PySem.Sre
set_option Elab.async false
namespace Mine
/-- the steps of the machine -/
def it : Nat → M → M
  | 0, m => m
  | n + 1, m => it n m.step
theorem step_fin {m : M} (h : m.outcome.isSome = true) : m.step = m := by unfold M.step; rw [if_pos h]
theorem it_fin {m : M} (h : m.outcome.isSome = true) : ∀ n, it n m = m
  | 0 => rfl
  | n + 1 => by show it n m.step = m; rw [step_fin h]; exact it_fin h n
theorem it_add {m : M} : ∀ a b, it (a + b) m = it b (it a m)
  | 0, b => by rw [Nat.zero_add]; rfl
  | a + 1, b => by rw [Nat.add_right_comm]; exact it_add (m := m.step) a b
theorem it_one {m : M} : it 1 m = m.step := rfl
theorem runFor_it : ∀ n (m : M), m.runFor n = it n m
  | 0, _ => rfl
  | n + 1, m => by
    unfold M.runFor
    by_cases h : m.outcome.isSome = true
    · rw [if_pos h, it_fin h]
    · rw [if_neg h]; exact runFor_it n m.step
/-- the code of (?m)^\. -/
def DC : Array Nat := #[14, 4, 0, 1, 1, 6, 1, 16, 46, 1]
/-- a machine of that code, at one start -/
def cD (text : Array Nat) (lim s : Nat) (b fb : Bool) (h pc pos : Nat) (sn : Seen) (ans : Option Bool) : M :=
  { code := DC, text, lim, start := s, lastStart := lim, wholeText := false, mustAdvance := false, pc, pos, handed := h, outermost := b, marks := #[], lastmark := -1, lastindex := -1, loops := #[], inner := none,
    frames := [{ wait := .nextStart, pc := 5, pos := s, outermost := fb }], weight := 1, answer := ans, seen := sn, outcome := none }
def dAt (text : Array Nat) (p : Nat) : Prop := p < text.size ∧ (p = 0 ∨ text.getD (p - 1) 0 = 10) ∧ text.getD p 0 = 46
theorem d_at {text : Array Nat} {lim s h : Nat} {b fb : Bool} {sn : Seen} : ∃ sn', (cD text lim s b fb h 5 s sn none).step = if (s == 0 || text.getD (s - 1) 0 == 10) = true then cD text lim s b fb h 7 s sn' none else cD text lim s b fb h 5 s sn' (some false) := ⟨_, rfl⟩
theorem d_lit {text : Array Nat} {lim s h : Nat} {b fb : Bool} {sn : Seen} : ∃ sn', (cD text lim s b fb h 7 s sn none).step = if s ≥ lim then cD text lim s b fb h 7 s sn' (some false) else if (text.getD s 0 == 46) = true then cD text lim s b fb h 9 (s + 1) sn' none else cD text lim s b fb h 7 s sn' (some false) := by
  refine ⟨sn.add 16, ?_⟩
  by_cases h1 : s ≥ lim
  · rw [if_pos h1]
    show (if s ≥ lim then _ else _) = _
    rw [if_pos h1]; rfl
  · rw [if_neg h1]
    show (if s ≥ lim then _ else _) = _
    rw [if_neg h1]
    show (match accepts DC 7 (text.getD s 0) (sn.add 16) with | .error why => _ | .ok (false, seen) => _ | .ok (true, seen) => _) = _
    have e : accepts DC 7 (text.getD s 0) (sn.add 16) = .ok (text.getD s 0 == 46, sn.add 16) := rfl
    rw [e]
    cases h2 : (text.getD s 0 == 46) <;> rfl
theorem d_succ {text : Array Nat} {lim s h : Nat} {b fb : Bool} {sn : Seen} : ∃ sn', (cD text lim s b fb h 9 (s + 1) sn none).step = cD text lim s b fb (s + 1) 9 (s + 1) sn' (some true) := by
  refine ⟨sn.add 1, ?_⟩
  cases b <;> rfl
theorem d_yes {text : Array Nat} {lim s h : Nat} {b fb : Bool} {sn : Seen} {pc pos : Nat} : (it 2 (cD text lim s b fb h pc pos sn (some true))).outcome = some .matched ∧ (it 2 (cD text lim s b fb h pc pos sn (some true))).start = s ∧ (it 2 (cD text lim s b fb h pc pos sn (some true))).handed = h := ⟨rfl, rfl, rfl⟩
theorem d_no {text : Array Nat} {lim s h : Nat} {b fb : Bool} {sn : Seen} {pc pos : Nat} (hs : s < lim) : (cD text lim s b fb h pc pos sn (some false)).step = cD text lim (s + 1) false false (s + 1) 5 (s + 1) sn none := by
  show (if s < lim then _ else _) = _
  rw [if_pos hs]; rfl
theorem d_end {text : Array Nat} {lim s h : Nat} {b fb : Bool} {sn : Seen} {pc pos : Nat} (hs : ¬ s < lim) : (it 2 (cD text lim s b fb h pc pos sn (some false))).outcome = some .failed := by
  have e : (cD text lim s b fb h pc pos sn (some false)).step = M.say { (cD text lim s b fb h pc pos sn (some false)) with answer := none, frames := [], weight := 0, pc := 5, pos := s, outermost := fb } false := by
    show (if s < lim then _ else _) = _
    rw [if_neg hs]; rfl
  show ((cD text lim s b fb h pc pos sn (some false)).step.step).outcome = _
  rw [e]; rfl
/-- one start: it is found there, or the machine says no -/
theorem d_one {text : Array Nat} {s h : Nat} {b fb : Bool} {sn : Seen} (_hs : s ≤ text.size) :
    (dAt text s ∧ ∃ k sn', k ≤ 3 ∧ it k (cD text text.size s b fb h 5 s sn none) = cD text text.size s b fb (s + 1) 9 (s + 1) sn' (some true)) ∨
    (¬ dAt text s ∧ ∃ k pc sn', k ≤ 3 ∧ it k (cD text text.size s b fb h 5 s sn none) = cD text text.size s b fb h pc s sn' (some false)) := by
  obtain ⟨sn1, e1⟩ := d_at (text := text) (lim := text.size) (s := s) (h := h) (b := b) (fb := fb) (sn := sn)
  obtain ⟨sn2, e2⟩ := d_lit (text := text) (lim := text.size) (s := s) (h := h) (b := b) (fb := fb) (sn := sn1)
  obtain ⟨sn3, e3⟩ := d_succ (text := text) (lim := text.size) (s := s) (h := h) (b := b) (fb := fb) (sn := sn2)
  by_cases c1 : (s == 0 || text.getD (s - 1) 0 == 10) = true
  · rw [if_pos c1] at e1
    by_cases c2 : s ≥ text.size
    · rw [if_pos c2] at e2
      exact .inr ⟨fun h => absurd h.1 (by omega), 2, _, _, by decide, by show M.step (M.step _) = _; rw [e1, e2]⟩
    · rw [if_neg c2] at e2
      by_cases c3 : (text.getD s 0 == 46) = true
      · rw [if_pos c3] at e2
        refine .inl ⟨⟨by omega, by simpa using c1, by simpa using c3⟩, 3, sn3, by decide, ?_⟩
        show M.step (M.step (M.step _)) = _; rw [e1, e2, e3]
      · rw [if_neg c3] at e2
        exact .inr ⟨fun h => c3 (by simpa using h.2.2), 2, _, _, by decide, by show M.step (M.step _) = _; rw [e1, e2]⟩
  · rw [if_neg c1] at e1
    exact .inr ⟨fun h => c1 (by simpa using h.2.1), 1, _, _, by decide, by rw [it_one, e1]⟩
/-- what a search gives -/
def Found (m' : M) (P : Nat → Prop) (w : Nat → Nat) (s : Nat) : Prop :=
  (∃ p, s ≤ p ∧ P p ∧ (∀ q, s ≤ q → q < p → ¬ P q) ∧ m'.outcome = some .matched ∧ m'.start = p ∧ m'.handed = p + w p) ∨ ((∀ q, s ≤ q → ¬ P q) ∧ m'.outcome = some .failed)
theorem d_run {text : Array Nat} : ∀ gap s, text.size - s = gap → s ≤ text.size → ∀ h b fb sn, ∃ k, k ≤ 4 * gap + 5 ∧ Found (it k (cD text text.size s b fb h 5 s sn none)) (dAt text) (fun _ => 1) s
  | gap, s, hg, hs, h, b, fb, sn => by
    rcases d_one (text := text) (h := h) (b := b) (fb := fb) (sn := sn) hs with ⟨y, k, sn', hk, e⟩ | ⟨n, k, pc, sn', hk, e⟩
    · refine ⟨k + 2, by omega, .inl ⟨s, Nat.le_refl _, y, fun q h1 h2 => absurd h1 (by omega), ?_⟩⟩
      rw [it_add, e]; exact d_yes
    · by_cases hlt : s < text.size
      · obtain ⟨k2, hk2, f⟩ := d_run (text := text) (gap - 1) (s + 1) (by omega) (by omega) (s + 1) false false sn'
        refine ⟨k + (1 + k2), by omega, ?_⟩
        rw [it_add, e, it_add, it_one, d_no hlt]
        rcases f with ⟨p, h1, h2, h3, h4⟩ | ⟨h1, h2⟩
        · refine .inl ⟨p, by omega, h2, fun q a1 a2 => ?_, h4⟩
          by_cases hq : q = s
          · rw [hq]; exact n
          · exact h3 q (by omega) a2
        · refine .inr ⟨fun q a1 => ?_, h2⟩
          by_cases hq : q = s
          · rw [hq]; exact n
          · exact h1 q (by omega)
      · refine ⟨k + 2, by omega, .inr ⟨fun q a1 a2 => ?_, ?_⟩⟩
        · have := a2.1
          omega
        · rw [it_add, e]; exact d_end hlt
termination_by gap => gap
decreasing_by omega
/-- the search for a dot that leads a row -/
theorem d_search {text : Array Nat} {s : Nat} (hs : s ≤ text.size) : ∃ k, k ≤ 4 * text.size + 9 ∧ Found (it k (forSearch DC text 0 s text.size false)) (dAt text) (fun _ => 1) s := by
  by_cases hl : text.size - s < 1
  · have e : forSearch DC text 0 s text.size false = M.say { code := DC, text, lim := text.size, start := s, pc := 5, pos := s, handed := s, marks := Array.replicate (2 * 0) none, mustAdvance := false, seen := ({} : Seen).add 14 } false := by
      show (if (decide (s > text.size) || decide (text.size - s < 1)) = true then _ else _) = _
      rw [if_pos (by simp; omega)]; rfl
    refine ⟨1, by omega, .inr ⟨fun q a1 a2 => ?_, ?_⟩⟩
    · have := a2.1
      omega
    · rw [e]; rfl
  · have e : forSearch DC text 0 s text.size false = cD text text.size s true true s 5 s (({} : Seen).add 14) none := by
      show (if (decide (s > text.size) || decide (text.size - s < 1)) = true then _ else _) = _
      rw [if_neg (by simp; omega)]; rfl
    obtain ⟨k, hk, f⟩ := d_run (text := text) _ s rfl hs s true true (({} : Seen).add 14)
    exact ⟨k, by omega, by rw [e]; exact f⟩
end Mine
end
/-! part Se -/
section
open PySem PySem.Sre
set_option Elab.async false
namespace Mine
/-- the code of the ends of rows -/
def EC : Array Nat := #[14, 9, 4, 1, 2, 16, 10, 16, 13, 0, 7, 7, 16, 13, 16, 10, 15, 18, 5, 16, 10, 15, 13, 11, 16, 13, 5, 5, 0, 16, 10, 1, 15, 2, 0, 1]
def eAt (text : Array Nat) (p : Nat) : Prop := p < text.size ∧ (text.getD p 0 = 10 ∨ text.getD p 0 = 13)
def eW (text : Array Nat) (p : Nat) : Nat := if text.getD p 0 = 13 ∧ p + 1 < text.size ∧ text.getD (p + 1) 0 = 10 then 2 else 1
def cE (text : Array Nat) (s : Nat) (b : Bool) (h pc pos : Nat) (fr : List Sre.Frame) (wt : Nat) (sn : Seen) (ans : Option Bool) : M :=
  { code := EC, text, lim := text.size, start := s, lastStart := text.size, wholeText := false, mustAdvance := false, pc, pos, handed := h, outermost := b, marks := #[], lastmark := -1, lastindex := -1, loops := #[], inner := none,
    frames := fr, weight := wt, answer := ans, seen := sn, outcome := none }
def fN (s : Nat) (b : Bool) : Sre.Frame := { wait := .nextStart, pc := 10, pos := s, outermost := b }
def fB (alt s : Nat) (b : Bool) : Sre.Frame := { wait := .nextBranch, pc := alt, pos := s, outermost := b }
def fL (p : Nat) (b : Bool) : Sre.Frame := { wait := .lookNot, pc := 26, pos := p, outermost := b }
section
variable {text : Array Nat} {s h pos : Nat} {b fb : Bool} {sn : Seen} {fr : List Sre.Frame} {wt : Nat}
theorem e_branch : ∃ sn', (cE text s b h 10 s [fN s fb] 1 sn none).step = cE text s b s 12 s [fB 11 s b, fN s fb] 2 sn' none := ⟨_, rfl⟩
theorem e_lit {pc w : Nat} (hw : (pc = 12 ∧ w = 13) ∨ (pc = 14 ∧ w = 10) ∨ (pc = 19 ∧ w = 10) ∨ (pc = 24 ∧ w = 13) ∨ (pc = 29 ∧ w = 10)) : ∃ sn', (cE text s b h pc pos fr wt sn none).step = if pos < text.size ∧ text.getD pos 0 = w then cE text s b h (pc + 2) (pos + 1) fr wt sn' none else cE text s b h pc pos fr wt sn' (some false) := by
  refine ⟨sn.add 16, ?_⟩
  by_cases h1 : pos ≥ text.size
  · rw [if_neg (by omega)]
    rcases hw with ⟨rfl, rfl⟩ | ⟨rfl, rfl⟩ | ⟨rfl, rfl⟩ | ⟨rfl, rfl⟩ | ⟨rfl, rfl⟩ <;>
      (show (if pos ≥ text.size then _ else _) = _; rw [if_pos h1]; rfl)
  · have e : accepts EC pc (text.getD pos 0) (sn.add 16) = .ok (text.getD pos 0 == w, sn.add 16) := by
      rcases hw with ⟨rfl, rfl⟩ | ⟨rfl, rfl⟩ | ⟨rfl, rfl⟩ | ⟨rfl, rfl⟩ | ⟨rfl, rfl⟩ <;> rfl
    have e2 : (cE text s b h pc pos fr wt sn none).step = (match accepts EC pc (text.getD pos 0) (sn.add 16) with | .error why => (cE text s b h pc pos fr wt (sn.add 16) none).stick why | .ok (false, seen) => (cE text s b h pc pos fr wt seen none).say false | .ok (true, seen) => cE text s b h (pc + itemWidth EC pc) (pos + 1) fr wt seen none) := by
      rcases hw with ⟨rfl, rfl⟩ | ⟨rfl, rfl⟩ | ⟨rfl, rfl⟩ | ⟨rfl, rfl⟩ | ⟨rfl, rfl⟩ <;>
        (show (if pos ≥ text.size then _ else _) = _; rw [if_neg h1]; rfl)
    have e3 : itemWidth EC pc = 2 := by rcases hw with ⟨rfl, rfl⟩ | ⟨rfl, rfl⟩ | ⟨rfl, rfl⟩ | ⟨rfl, rfl⟩ | ⟨rfl, rfl⟩ <;> rfl
    rw [e2, e, e3]
    by_cases h2 : text.getD pos 0 = w
    · rw [if_pos ⟨by omega, h2⟩, beq_iff_eq.mpr h2]
    · rw [if_neg (fun x => h2 x.2), beq_eq_false_iff_ne.mpr h2]; rfl
theorem e_jump {pc : Nat} (hw : pc = 16 ∨ pc = 21 ∨ pc = 32) : ∃ sn', (cE text s b h pc pos fr wt sn none).step = cE text s b h 35 pos fr wt sn' none := by
  rcases hw with rfl | rfl | rfl <;> exact ⟨_, rfl⟩
theorem e_succ : ∃ sn', (cE text s b h 35 pos fr wt sn none).step = cE text s b pos 35 pos fr wt sn' (some true) := by
  refine ⟨sn.add 1, ?_⟩
  cases b <;> rfl
theorem e_yes {alt pc : Nat} : (it 3 (cE text s b h pc pos [fB alt s fb, fN s fb] wt sn (some true))).outcome = some .matched ∧ (it 3 (cE text s b h pc pos [fB alt s fb, fN s fb] wt sn (some true))).start = s ∧ (it 3 (cE text s b h pc pos [fB alt s fb, fN s fb] wt sn (some true))).handed = h := ⟨rfl, rfl, rfl⟩
theorem e_next1 {pc : Nat} : (cE text s b h pc pos [fB 11 s b, fN s fb] 2 sn (some false)).step = cE text s b s 19 s [fB 18 s b, fN s fb] 2 sn none := rfl
theorem e_next2 {pc : Nat} : (cE text s b h pc pos [fB 18 s b, fN s fb] 2 sn (some false)).step = cE text s b s 24 s [fB 23 s b, fN s fb] 2 sn none := rfl
theorem e_look : ∃ sn', (cE text s b h 26 pos [fB 23 s b, fN s fb] 2 sn none).step = cE text s false pos 29 pos [fL pos b, fB 23 s b, fN s fb] 3 sn' none := ⟨_, rfl⟩
theorem e_lookno {pc p : Nat} : (cE text s false h pc p [fL pos b, fB 23 s b, fN s fb] 3 sn (some false)).step = cE text s b h 32 pos [fB 23 s b, fN s fb] 2 sn none := rfl
/-- at an end of a row the machine always matches -/
theorem e_one (hs : eAt text s) : ∃ k, k ≤ 20 ∧ (it k (cE text s b h 10 s [fN s b] 1 sn none)).outcome = some .matched ∧ (it k (cE text s b h 10 s [fN s b] 1 sn none)).start = s ∧ (it k (cE text s b h 10 s [fN s b] 1 sn none)).handed = s + eW text s := by
  obtain ⟨n1, e1⟩ := e_branch (text := text) (s := s) (h := h) (b := b) (fb := b) (sn := sn)
  obtain ⟨n2, e2⟩ := e_lit (text := text) (s := s) (h := s) (b := b) (pos := s) (fr := [fB 11 s b, fN s b]) (wt := 2) (sn := n1) (pc := 12) (w := 13) (.inl ⟨rfl, rfl⟩)
  by_cases c1 : text.getD s 0 = 13
  · rw [if_pos ⟨hs.1, c1⟩] at e2
    obtain ⟨n3, e3⟩ := e_lit (text := text) (s := s) (h := s) (b := b) (pos := s + 1) (fr := [fB 11 s b, fN s b]) (wt := 2) (sn := n2) (pc := 14) (w := 10) (.inr (.inl ⟨rfl, rfl⟩))
    by_cases c2 : s + 1 < text.size ∧ text.getD (s + 1) 0 = 10
    · rw [if_pos c2] at e3
      obtain ⟨n4, e4⟩ := e_jump (text := text) (s := s) (h := s) (b := b) (pos := s + 2) (fr := [fB 11 s b, fN s b]) (wt := 2) (sn := n3) (pc := 16) (.inl rfl)
      obtain ⟨n5, e5⟩ := e_succ (text := text) (s := s) (h := s) (b := b) (pos := s + 2) (fr := [fB 11 s b, fN s b]) (wt := 2) (sn := n4)
      have e : it 5 (cE text s b h 10 s [fN s b] 1 sn none) = cE text s b (s + 2) 35 (s + 2) [fB 11 s b, fN s b] 2 n5 (some true) := by
        show M.step (M.step (M.step (M.step (M.step _)))) = _
        rw [e1, e2, e3, e4, e5]
      refine ⟨5 + 3, by decide, ?_⟩
      rw [it_add, e, show eW text s = 2 from if_pos ⟨c1, c2⟩]
      exact e_yes
    · rw [if_neg c2] at e3
      obtain ⟨n4, e4⟩ := e_lit (text := text) (s := s) (h := s) (b := b) (pos := s) (fr := [fB 18 s b, fN s b]) (wt := 2) (sn := n3) (pc := 19) (w := 10) (.inr (.inr (.inl ⟨rfl, rfl⟩)))
      rw [if_neg (by omega)] at e4
      obtain ⟨n5, e5⟩ := e_lit (text := text) (s := s) (h := s) (b := b) (pos := s) (fr := [fB 23 s b, fN s b]) (wt := 2) (sn := n4) (pc := 24) (w := 13) (.inr (.inr (.inr (.inl ⟨rfl, rfl⟩))))
      rw [if_pos ⟨hs.1, c1⟩] at e5
      obtain ⟨n6, e6⟩ := e_look (text := text) (s := s) (h := s) (b := b) (fb := b) (pos := s + 1) (sn := n5)
      obtain ⟨n7, e7⟩ := e_lit (text := text) (s := s) (h := s + 1) (b := false) (pos := s + 1) (fr := [fL (s + 1) b, fB 23 s b, fN s b]) (wt := 3) (sn := n6) (pc := 29) (w := 10) (.inr (.inr (.inr (.inr ⟨rfl, rfl⟩))))
      rw [if_neg c2] at e7
      obtain ⟨n8, e8⟩ := e_jump (text := text) (s := s) (h := s + 1) (b := b) (pos := s + 1) (fr := [fB 23 s b, fN s b]) (wt := 2) (sn := n7) (pc := 32) (.inr (.inr rfl))
      obtain ⟨n9, e9⟩ := e_succ (text := text) (s := s) (h := s + 1) (b := b) (pos := s + 1) (fr := [fB 23 s b, fN s b]) (wt := 2) (sn := n8)
      have e : it 12 (cE text s b h 10 s [fN s b] 1 sn none) = cE text s b (s + 1) 35 (s + 1) [fB 23 s b, fN s b] 2 n9 (some true) := by
        show M.step (M.step (M.step (M.step (M.step (M.step (M.step (M.step (M.step (M.step (M.step (M.step _))))))))))) = _
        rw [e1, e2, e3, e_next1, e4, e_next2, e5, e6, e7, e_lookno, e8, e9]
      refine ⟨12 + 3, by decide, ?_⟩
      rw [it_add, e, show eW text s = 1 from if_neg (fun x => c2 x.2)]
      exact e_yes
  · rw [if_neg (by omega)] at e2
    have c3 : text.getD s 0 = 10 := by rcases hs.2 with x | x; exact x; exact absurd x c1
    obtain ⟨n4, e4⟩ := e_lit (text := text) (s := s) (h := s) (b := b) (pos := s) (fr := [fB 18 s b, fN s b]) (wt := 2) (sn := n2) (pc := 19) (w := 10) (.inr (.inr (.inl ⟨rfl, rfl⟩)))
    rw [if_pos ⟨hs.1, c3⟩] at e4
    obtain ⟨n5, e5⟩ := e_jump (text := text) (s := s) (h := s) (b := b) (pos := s + 1) (fr := [fB 18 s b, fN s b]) (wt := 2) (sn := n4) (pc := 21) (.inr (.inl rfl))
    obtain ⟨n6, e6⟩ := e_succ (text := text) (s := s) (h := s) (b := b) (pos := s + 1) (fr := [fB 18 s b, fN s b]) (wt := 2) (sn := n5)
    have e : it 6 (cE text s b h 10 s [fN s b] 1 sn none) = cE text s b (s + 1) 35 (s + 1) [fB 18 s b, fN s b] 2 n6 (some true) := by
      show M.step (M.step (M.step (M.step (M.step (M.step _))))) = _
      rw [e1, e2, e_next1, e4, e5, e6]
    refine ⟨6 + 3, by decide, ?_⟩
    rw [it_add, e, show eW text s = 1 from if_neg (fun x => c1 x.1)]
    exact e_yes
theorem e_in (c : Nat) (sn : Seen) : ∃ sn', inSet EC c EC.size 5 true sn = .ok (c == 10 || c == 13, sn') := by
  by_cases h1 : c = 10
  · subst h1; exact ⟨_, rfl⟩
  · by_cases h2 : c = 13
    · subst h2; exact ⟨_, rfl⟩
    · have a1 : (c == 10) = false := beq_eq_false_iff_ne.mpr h1
      have a2 : (c == 13) = false := beq_eq_false_iff_ne.mpr h2
      refine ⟨((sn.add 16).add 16).add 0, ?_⟩
      rw [a1, a2]
      show (if (c == 10) = true then _ else (if (c == 13) = true then _ else _)) = _
      rw [a1, a2]; rfl
theorem e_adm {m : M} (hc : m.code = EC) (hl : m.lim = m.text.size) : ∀ fuel s sn, m.text.size < s + fuel → (∃ p sn', s ≤ p ∧ eAt m.text p ∧ (∀ q, s ≤ q → q < p → ¬ eAt m.text q) ∧ M.admitted m fuel s sn = .ok (some p, sn')) ∨ ((∀ q, s ≤ q → ¬ eAt m.text q) ∧ ∃ sn', M.admitted m fuel s sn = .ok (none, sn'))
  | 0, s, sn, hf => .inr ⟨fun q a b => absurd b.1 (by omega), _, rfl⟩
  | fuel + 1, s, sn, hf => by
    unfold M.admitted
    by_cases h1 : s ≥ m.lim
    · rw [if_pos h1]
      exact .inr ⟨fun q a b => absurd b.1 (by omega), _, rfl⟩
    · rw [if_neg h1]
      obtain ⟨sn', e⟩ := e_in (m.text.getD s 0) sn
      rw [hc, e]
      by_cases h2 : m.text.getD s 0 = 10 ∨ m.text.getD s 0 = 13
      · have : (m.text.getD s 0 == 10 || m.text.getD s 0 == 13) = true := by simpa using h2
        rw [this]
        exact .inl ⟨s, sn', Nat.le_refl _, ⟨by omega, h2⟩, fun q a b => absurd a (by omega), rfl⟩
      · have : (m.text.getD s 0 == 10 || m.text.getD s 0 == 13) = false := by simpa using h2
        rw [this]
        have n : ¬ eAt m.text s := fun x => h2 x.2
        rcases e_adm hc hl fuel (s + 1) sn' (by omega) with ⟨p, sn2, a1, a2, a3, a4⟩ | ⟨a1, sn2, a2⟩
        · refine .inl ⟨p, sn2, by omega, a2, fun q b1 b2 => ?_, a4⟩
          by_cases hq : q = s
          · rw [hq]; exact n
          · exact a3 q (by omega) b2
        · refine .inr ⟨fun q b1 => ?_, sn2, a2⟩
          by_cases hq : q = s
          · rw [hq]; exact n
          · exact a1 q (by omega)
theorem af_some {m : M} {p : Nat} {sn : Seen} (hf : m.hasFirstSet = true) (e : M.admitted m (m.lim + 1 - s) s m.seen = .ok (some p, sn)) : m.attemptFrom s b = M.attemptAt { m with mustAdvance := false, seen := sn } p b := by
  unfold M.attemptFrom
  rw [if_neg (by rw [hf]; decide), e]
theorem af_none {m : M} {sn : Seen} (hf : m.hasFirstSet = true) (e : M.admitted m (m.lim + 1 - s) s m.seen = .ok (none, sn)) : m.attemptFrom s b = M.say { m with seen := sn } false := by
  unfold M.attemptFrom
  rw [if_neg (by rw [hf]; decide), e]
def mE (text : Array Nat) (s : Nat) : M := { code := EC, text, lim := text.size, start := s, lastStart := text.size, pc := 10, pos := s, handed := s, marks := #[], mustAdvance := false, seen := ({} : Seen).add 14 }
/-- the search for an end of a row -/
theorem e_search (hs : s ≤ text.size) : ∃ k, k ≤ 20 ∧ Found (it k (forSearch EC text 0 s text.size false)) (eAt text) (eW text) s := by
  by_cases hl : text.size - s < 1
  · have e : forSearch EC text 0 s text.size false = M.say { code := EC, text, lim := text.size, start := s, pc := 10, pos := s, handed := s, marks := Array.replicate (2 * 0) none, mustAdvance := false, seen := ({} : Seen).add 14 } false := by
      show (if (decide (s > text.size) || decide (text.size - s < 1)) = true then _ else _) = _
      rw [if_pos (by simp; omega)]; rfl
    refine ⟨1, by omega, .inr ⟨fun q a1 a2 => ?_, ?_⟩⟩
    · have := a2.1
      omega
    · rw [e]; rfl
  · have e : forSearch EC text 0 s text.size false = M.attemptFrom (mE text s) s true := by
      show (if (decide (s > text.size) || decide (text.size - s < 1)) = true then _ else _) = _
      rw [if_neg (by simp; omega)]; rfl
    rcases e_adm (m := mE text s) rfl rfl (text.size + 1 - s) s (({} : Seen).add 14) (by show text.size < _; omega) with ⟨p, sn', a1, a2, a3, a4⟩ | ⟨a1, sn', a2⟩
    · obtain ⟨k, hk, f⟩ := e_one (text := text) (s := p) (b := true) (h := p) (sn := sn') a2
      refine ⟨k, hk, .inl ⟨p, a1, a2, a3, ?_⟩⟩
      have e' : forSearch EC text 0 s text.size false = cE text p true p 10 p [fN p true] 1 sn' none := by
        rw [e, af_some rfl a4]; rfl
      rw [e']; exact f
    · refine ⟨1, by decide, .inr ⟨a1, ?_⟩⟩
      rw [e, af_none rfl a2]; rfl
end
end Mine
end
/-! part Sd -/
section
open PySem PySem.Sre PySem.Builtin.Re
set_option Elab.async false
namespace Mine
theorem it_same {m : M} {a b : Nat} (ha : (it a m).outcome.isSome = true) (hb : (it b m).outcome.isSome = true) : it a m = it b m := by
  rcases Nat.le_total a b with h | h
  · obtain ⟨c, rfl⟩ := Nat.le.dest h
    rw [it_add, it_fin ha]
  · obtain ⟨c, rfl⟩ := Nat.le.dest h
    rw [it_add (m := m) b c, it_fin hb]
section
variable {Mo : Model} {A : Around} {E : Value → Shared → Prop} {s : Shared}
theorem drive_c {Q : M → Shared → Prop} : ∀ T (m : M) k, k ≤ 4 * T → 0 < T → (it k m).outcome.isSome = true → Q (it k m) s → wpAny Mo A (reDrive T m) Q E s
  | 0, _, _, _, h, _, _ => absurd h (by decide)
  | T + 1, m, k, hk, _, ho, hq => by
    unfold reDrive
    show wpAny Mo A (if (m.runFor 4).outcome.isSome = true then pure (m.runFor 4) else do rule "sre.turn"; reDrive T (m.runFor 4)) Q E s
    rw [runFor_it]
    by_cases h : (it 4 m).outcome.isSome = true
    · rw [if_pos h, it_same h ho]; exact wpAny_pure hq
    · rw [if_neg h]
      refine wpAny_bind (wpAny_rule ?_)
      have hk4 : 4 < k := by
        rcases Nat.lt_or_ge 4 k with x | x
        · exact x
        · obtain ⟨c, e⟩ := Nat.le.dest x
          refine absurd ?_ h
          rw [← e, it_add, it_fin ho]; exact ho
      have e : it k m = it (k - 4) (it 4 m) := by rw [← it_add]; congr 1; omega
      rw [e] at ho hq
      exact drive_c T (it 4 m) (k - 4) (by omega) (by omega) ho hq
theorem forIn_c {α : Type} {f : α → PUnit → Sem (ForInStep PUnit)} {Q : PUnit → Shared → Prop} (hf : ∀ i, wpAny Mo A (f i ⟨⟩) (fun r s' => r = .yield ⟨⟩ ∧ s' = s) E s) (h : Q ⟨⟩ s) : ∀ l : List α, wpAny Mo A (forIn l PUnit.unit f) Q E s
  | [] => by rw [List.forIn_nil]; exact wpAny_pure h
  | a :: l => by
    rw [List.forIn_cons]
    refine wpAny_bind (wpAny_mono (hf a) (fun r s' hr => ?_) fun _ _ x => x)
    obtain ⟨h1, h2⟩ := hr
    rw [h1, h2]
    exact forIn_c hf h l
theorem end_c {Q : Option M → Shared → Prop} {m : M} {k : Nat} (hk : k ≤ 2 ^ 60) (hy : (it k m).outcome = some .matched → Q (some (it k m)) s) (hn : (it k m).outcome = some .failed → Q none s) (ho : (it k m).outcome = some .matched ∨ (it k m).outcome = some .failed) :
    wpAny Mo A (reRunToEnd m) Q E s := by
  unfold reRunToEnd
  refine wpAny_bind (drive_c (2 ^ 64) m k (by omega) (by decide) (by rcases ho with h | h <;> rw [h] <;> rfl) ?_)
  refine wpAny_bind (forIn_c (fun i => ?_) ?_ _)
  · by_cases h : (it k m).seen.has i = true
    · rw [if_pos h]; exact wpAny_bind (wpAny_rule (wpAny_pure ⟨rfl, rfl⟩))
    · rw [if_neg h]; exact wpAny_pure ⟨rfl, rfl⟩
  · rcases ho with h | h
    · rw [h]; exact wpAny_pure (hy h)
    · rw [h]; exact wpAny_pure (hn h)
/-- the search as the driver runs it -/
theorem next_c {Q : Option M → Shared → Prop} {t : ReTarget} {start : Nat} {P : Nat → Prop} {wd : Nat → Nat} (hk : ∃ k, k ≤ 2 ^ 60 ∧ Found (it k (forSearch t.code t.text t.groups start t.lim false)) P wd start)
    (hy : ∀ m : M, ∀ p, start ≤ p → P p → (∀ q, start ≤ q → q < p → ¬ P q) → m.start = p → m.handed = p + wd p → Q (some m) s) (hn : (∀ q, start ≤ q → ¬ P q) → Q none s) :
    wpAny Mo A (reNextFound t start false) Q E s := by
  obtain ⟨k, hk, f⟩ := hk
  unfold reNextFound
  rcases f with ⟨p, h1, h2, h3, h4, h5, h6⟩ | ⟨h1, h2⟩
  · exact end_c hk (fun _ => hy _ p h1 h2 h3 h5 h6) (fun h => by rw [h4] at h; cases h) (.inl h4)
  · exact end_c hk (fun h => by rw [h2] at h; cases h) (fun _ => hn h1) (.inr h2)
end
end Mine
end
/-! part Sf -/
section
open PySem PySem.Sre PySem.Builtin PySem.Builtin.Re PyProof.Rows
set_option Elab.async false
namespace Mine
theorem entry_sub : entryFor table "re.Pattern.sub" = some Builtin.«re.Pattern.sub» := entryFor_of_tree (by kernel_rfl)
theorem entry_loop : entryFor table "re.Pattern.sub.loop" = some Builtin.«re.Pattern.sub.loop» := entryFor_of_tree (by kernel_rfl)
theorem entry_bjoin : entryFor table "bytes.join" = some Builtin.«bytes.join» := entryFor_of_tree (by kernel_rfl)
theorem plain_sub : plainId "re.Pattern.sub" = true := by kernel_rfl
theorem plain_loop : plainId "re.Pattern.sub.loop" = true := by kernel_rfl
theorem plain_bjoin : plainId "bytes.join" = true := by kernel_rfl
section
variable {Mo : Model} {A : Around} {E : Value → Shared → Prop} {s : Shared}
/-- a compiled pattern in the heap -/
structure IsPat (h : Heap) (pa : Addr) (code : Array Nat) (kind : Int) : Prop where
  ex : ∃ op fs ca oc items n tk, h.get? pa = some op ∧ op.data = .fields fs ∧ fs.getD 2 .none = rawInt 0 ∧ fs.getD 5 .none = .ref ca ∧ fs.getD 6 .none = .int kind tk ∧ h.get? ca = some oc ∧ oc.data = .seq items n ∧ (items.map reRawOf).map (·.toNat) = code
theorem whole_str {Q : ReTarget → Shared → Prop} {pa : Addr} {code : Array Nat} {x : PySem.Str} {t : Tok} (P : IsPat s.heap pa code 0)
    (h : Q { pattern := .ref pa, string := .str x t, code, text := x.cps, kind := 0, groups := 0, pos := 0, lim := x.cps.size } s) : wpAny Mo A (reWholeTarget (.ref pa) (.str x t)) Q E s := by
  obtain ⟨op, fs, ca, oc, items, n, tk, p1, p2, p3, p4, p5, p6, p7, p8⟩ := P.ex
  unfold reWholeTarget
  refine wpAny_bind (wpAny_fieldsOf p1 p2 ?_)
  unfold reTextOf
  refine wpAny_bind (wpAny_of_eq (a := (x.cps, 0)) rfl ?_)
  rw [p5]
  dsimp only [reRawNat]
  refine wpAny_bind (wpAny_of_eq (a := ()) rfl ?_)
  rw [p4, p3]
  unfold reRawItems
  refine wpAny_bind (wpAny_bind (wpAny_seqItems p6 p7 (wpAny_pure ?_)))
  refine wpAny_pure ?_
  rw [Option.getD_some, p8]
  exact h
end
end Mine
end
/-! part Sl -/
section
open PySem PySem.Sre PySem.Builtin PySem.Builtin.Re PyProof.Rows
set_option Elab.async false
namespace Mine
section
variable {Mo : Model} {prog : Program} {w : World} {A : Around} {E : Value → Shared → Prop} {s : Shared} {h₀ : Heap} {L l : Addr} {m : PySem.Str → Option Value} {news : List (Addr × Obj)}
theorem push_c {xs : Array Value} {n : Nat} {v : Value} {Q : Unit → Shared → Prop} (F : Fr h₀ L s.heap m) (N : News h₀ L s.heap ((l, W.listOf xs n) :: news)) (hne : ∀ p ∈ news, p.1 ≠ l) (hx : xs.size ≤ sizeLine)
    (h : ∀ h' n', Fr h₀ L h' m → News h₀ L h' ((l, W.listOf (xs.push v) n') :: news) → Q () { s with heap := h' }) : wpAny Mo A (updateSeq l (·.push v)) Q E s := by
  have z := N (l, W.listOf xs n) (.head _)
  have hs : Heap.SameBut l s.heap (s.heap.update l (Obj.mapSeq (·.push v))) := Heap.SameBut.update ..
  have ho := Heap.get?_update_self (Obj.mapSeq (·.push v)) z.1 rfl
  exact wpAny_updateSeq z.1 rfl (h _ _ (F.change hs z.2.1 z.2.2) (N.setHead hne hs ho)) hx (by rw [Array.size_push]; omega)
theorem pat_keep {h : Heap} {pa : Addr} {code : Array Nat} {kind : Int} (P : IsPat h₀ pa code kind) (F : Fr h₀ L h m) : IsPat h pa code kind := by
  obtain ⟨op, fs, ca, oc, items, n, tk, p1, p2, p3, p4, p5, p6, p7, p8⟩ := P.ex
  exact ⟨op, fs, ca, oc, items, n, tk, F.keep _ _ p1, p2, p3, p4, p5, F.keep _ _ p6, p7, p8⟩
/-- texts laid end to end -/
def cat : List PySem.Str → PySem.Str
  | [] => PySem.Str.empty
  | x :: xs => x ++ cat xs
theorem lit_str {x : PySem.Str} {t : Tok} {Q : Unit → Shared → Prop} (h : Q () s) : wpAny Mo A (reLiteralCannotBeTurned (.str x t)) Q E s := wpAny_of_eq (a := ()) rfl h
theorem slice_str {text : Array Nat} {b e : Nat} {Q : Value → Shared → Prop} (hz : text.size ≤ 1000000) (h : Q (.str ⟨text.extract b e⟩ s.toks) { s with toks := s.toks + 1 }) : wpAny Mo A (reSlice text 0 b e) Q E s := by
  show wpAny Mo A (mkStr ⟨text.extract b e⟩) Q E s
  refine wpAny_mkStr h ?_
  show (text.extract b e).size ≤ sizeLine
  have : (text.extract b e).size ≤ text.size := by rw [Array.size_extract]; omega
  rw [sizeLine_eq]; omega
end
end Mine
end
/-! part Sm -/
section
open PySem PySem.Sre PySem.Builtin PySem.Builtin.Re PyProof.Rows
set_option Elab.async false
namespace Mine
theorem str_assoc (a b c : PySem.Str) : a ++ b ++ c = a ++ (b ++ c) := by
  show PySem.Str.mk _ = PySem.Str.mk _
  congr 1
  exact Array.append_assoc
theorem str_empty (a : PySem.Str) : PySem.Str.empty ++ a = a := by
  show PySem.Str.mk (#[] ++ a.cps) = a
  rw [Array.empty_append]
theorem str_none (a : PySem.Str) : a ++ PySem.Str.empty = a := by
  show PySem.Str.mk (a.cps ++ #[]) = a
  rw [Array.append_empty]
theorem cat_snoc (y : PySem.Str) : ∀ ys, cat (ys ++ [y]) = cat ys ++ y
  | [] => by show y ++ PySem.Str.empty = PySem.Str.empty ++ y; rw [str_none, str_empty]
  | z :: ys => by show z ++ cat (ys ++ [y]) = z ++ cat ys ++ y; rw [cat_snoc y ys, str_assoc]
theorem strs_snoc {y : PySem.Str} {t : Tok} : ∀ {vs : List Value} {ys : List PySem.Str}, StrsAre vs ys → StrsAre (vs ++ [.str y t]) (ys ++ [y])
  | _, _, .nil => .cons y t .nil
  | _, _, .cons z t' r => .cons z t' (strs_snoc r)
theorem sum_snoc (y : PySem.Str) (ys : List PySem.Str) : ((ys ++ [y]).map (·.length)).sum = (ys.map (·.length)).sum + y.length := by
  rw [List.map_append, List.sum_append]; simp
theorem fold_cat : ∀ (rest : List PySem.Str) (a : PySem.Str), (⟨rest.foldl (fun acc p => acc ++ #[] ++ p.cps) a.cps⟩ : PySem.Str) = a ++ cat rest
  | [], a => (str_none a).symm
  | y :: rest, a => by
    rw [List.foldl_cons, Array.append_empty]
    exact (fold_cat rest (a ++ y)).trans (str_assoc a y (cat rest))
theorem join_cat (text : Array Nat) (ys : List PySem.Str) : Txt.join ⟨text.extract 0 0⟩ ys = cat ys := by
  rw [show text.extract 0 0 = #[] by simp]
  cases ys with
  | nil => rfl
  | cons y rest => exact fold_cat rest y
section
variable {prog : Program} {w : World} {A : Around} {R : Result → Shared → Prop} {s : Shared} {h₀ : Heap} {L l : Addr} {m : PySem.Str → Option Value} {news : List (Addr × Obj)}
theorem loop_str {pa : Addr} {code : Array Nat} {x r : PySem.Str} {t u : Tok} {P : Nat → Prop} {wd : Nat → Nat} {g : Nat → PySem.Str}
    (hpat : IsPat h₀ pa code 0) (hz : x.cps.size ≤ 100000) (hr : r.length ≤ 10)
    (hsr : ∀ d, d ≤ x.cps.size → ∃ k, k ≤ 2 ^ 60 ∧ Found (it k (forSearch code x.cps 0 d x.cps.size false)) P wd d)
    (hP : ∀ p, P p → p + wd p ≤ x.cps.size ∧ 0 < wd p)
    (hf : ∀ d p, d ≤ p → P p → (∀ q, d ≤ q → q < p → ¬ P q) → g d = ⟨x.cps.extract d p⟩ ++ r ++ g (p + wd p))
    (hn : ∀ d, (∀ q, d ≤ q → ¬ P q) → g d = ⟨x.cps.extract d x.cps.size⟩) :
    ∀ gap d n s xs c ys, x.cps.size - d = gap → d ≤ x.cps.size → Fr h₀ L s.heap m → News h₀ L s.heap ((l, W.listOf xs c) :: news) → (∀ p ∈ news, p.1 ≠ l) → StrsAre xs.toList ys → xs.size ≤ 2 * d → (ys.map (·.length)).sum ≤ 11 * d →
      (∀ t' h' tk, Fr h₀ L h' m → News h₀ L h' news → R (.ok (.ret (.str (cat ys ++ g d) t'))) { s with heap := h', toks := tk }) →
      codeAny (model prog w) A (.builtin "re.Pattern.sub.loop" ⟨[.ref pa, .str x t, .str r u, rawInt 0, rawInt 0, rawInt n, rawInt (d : Nat), rawInt (d : Nat), .bool false, .ref l, .bool false], []⟩) R s
  | gap, d, n, s, xs, c, ys, hg, hd, F, N, hne, hxs, hsz, hsum, hR => by
    refine codeAny_builtin entry_loop ?_
    rw [Around.under_plainId plain_loop]
    unfold Builtin.«re.Pattern.sub.loop»
    dsimp only [rawInt]
    refine wpAny_bind (whole_str (pat_keep hpat F) ?_)
    dsimp only
    refine wpAny_bind (lit_str ?_)
    rw [if_neg (by simp), Int.toNat_natCast]
    refine wpAny_bind (next_c (P := P) (wd := wd) (hsr d hd) (fun mm p h1 h2 h3 h4 h5 => ?_) (fun h1 => ?_))
    · dsimp only
      rw [h4, h5]
      have hp := hP p h2
      by_cases hlt : d < p
      · rw [if_pos hlt]
        refine wpAny_bind (slice_str (by omega) ?_)
        refine wpAny_bind (push_c F N hne (by rw [sizeLine_eq]; omega) fun h' n' F' N' => ?_)
        rw [if_pos (by rfl)]
        refine wpAny_bind (wpAny_pure ?_)
        rw [if_pos (by rfl)]
        refine wpAny_bind (push_c (F := F') (N := N') hne (by rw [sizeLine_eq, Array.size_push]; omega) fun h2' n2' F2 N2 => wpAny_pure ⟨plainId_quiet plain_loop _, ?_⟩)
        rw [show (p + wd p == p) = false from beq_eq_false_iff_ne.mpr (by omega)]
        refine loop_str hpat hz hr hsr hP hf hn (gap - (p + wd p - d)) (p + wd p) (n + 1) _ _ _ ((ys ++ [⟨x.cps.extract d p⟩]) ++ [r]) (by omega) hp.1 F2 N2 hne (by rw [Array.toList_push, Array.toList_push]; exact strs_snoc (strs_snoc hxs)) (by rw [Array.size_push, Array.size_push]; omega) ?_ (fun t' h' tk F3 N3 => ?_)
        · rw [sum_snoc, sum_snoc]
          have : PySem.Str.length ⟨x.cps.extract d p⟩ ≤ p - d := by show (x.cps.extract d p).size ≤ _; rw [Array.size_extract]; omega
          omega
        · have e := hR t' h' tk F3 N3
          rw [hf d p h1 h2 h3] at e
          rw [cat_snoc, cat_snoc, str_assoc, str_assoc]
          rw [str_assoc] at e
          exact e
      · rw [if_neg hlt]
        have hdp : d = p := by omega
        rw [if_pos (by rfl)]
        refine wpAny_bind (wpAny_pure ?_)
        rw [if_pos (by rfl)]
        refine wpAny_bind (push_c (F := F) (N := N) hne (by rw [sizeLine_eq]; omega) fun h2' n2' F2 N2 => wpAny_pure ⟨plainId_quiet plain_loop _, ?_⟩)
        rw [show (p + wd p == p) = false from beq_eq_false_iff_ne.mpr (by omega)]
        refine loop_str hpat hz hr hsr hP hf hn (gap - (p + wd p - d)) (p + wd p) (n + 1) _ _ _ (ys ++ [r]) (by omega) hp.1 F2 N2 hne (by rw [Array.toList_push]; exact strs_snoc hxs) (by rw [Array.size_push]; omega) ?_ (fun t' h' tk F3 N3 => ?_)
        · rw [sum_snoc]
          omega
        · have e := hR t' h' tk F3 N3
          rw [hf d p h1 h2 h3] at e
          have e0 : (⟨x.cps.extract d p⟩ : PySem.Str) = PySem.Str.empty := by
            show PySem.Str.mk _ = PySem.Str.mk _
            congr 1
            rw [hdp]; simp; omega
          rw [e0, str_empty] at e
          rw [cat_snoc, str_assoc]
          exact e
    · dsimp only
      have e := hn d h1
      by_cases hlt : d < x.cps.size
      · rw [if_pos hlt]
        refine wpAny_bind (slice_str (by omega) ?_)
        refine wpAny_bind (push_c F N hne (by rw [sizeLine_eq]; omega) fun h' n' F' N' => ?_)
        refine wpAny_bind (slice_str (by omega) ?_)
        refine wpAny_bind (wpAny_seqItems (N' _ (.head _)).1 rfl ?_)
        rw [if_neg (by simp)]
        refine wpAny_bind (join_list (ys := ys ++ [⟨x.cps.extract d x.cps.size⟩]) (News.isList N' (.head _)) (by rw [Array.toList_push]; exact strs_snoc hxs) ?_ (fun t' k => ?_))
        · rw [sum_snoc]
          have a1 : PySem.Str.length ⟨x.cps.extract d x.cps.size⟩ ≤ x.cps.size - d := by show (x.cps.extract d x.cps.size).size ≤ _; rw [Array.size_extract]; omega
          have a2 : PySem.Str.length ⟨x.cps.extract 0 0⟩ = 0 := by show (x.cps.extract 0 0).size = _; rw [Array.size_extract]; omega
          rw [a2]; omega
        · rw [if_neg (by decide)]
          refine wpAny_pure ?_
          have e2 := hR t' h' k F' (fun p hp => N' p (.tail _ hp))
          rw [e] at e2
          rw [join_cat, cat_snoc]
          exact e2
      · rw [if_neg hlt]
        refine wpAny_bind (slice_str (by omega) ?_)
        refine wpAny_bind (wpAny_seqItems (N _ (.head _)).1 rfl ?_)
        have e0 : g d = PySem.Str.empty := by
          rw [e]
          show PySem.Str.mk _ = PySem.Str.mk _
          congr 1
          rw [show d = x.cps.size by omega]; simp
        rw [e0, str_none] at hR
        rw [Option.getD_some]
        by_cases hem : xs.isEmpty = true
        · rw [if_pos hem]
          refine wpAny_bind (wpAny_pure ?_)
          rw [if_neg (by decide)]
          refine wpAny_pure ?_
          have hnil : ys = [] := by
            have : xs = #[] := by simpa using hem
            rw [this] at hxs
            cases hxs; rfl
          have e2 := hR s.toks s.heap (s.toks + 1) F (fun p hp => N p (.tail _ hp))
          rw [hnil] at e2
          have e3 : (⟨x.cps.extract 0 0⟩ : PySem.Str) = PySem.Str.empty := by
            show PySem.Str.mk _ = PySem.Str.mk _
            congr 1
            simp
          rw [e3]
          exact e2
        · rw [if_neg hem]
          refine wpAny_bind (join_list (ys := ys) (News.isList N (.head _)) hxs ?_ (fun t' k => ?_))
          · have a2 : PySem.Str.length ⟨x.cps.extract 0 0⟩ = 0 := by show (x.cps.extract 0 0).size = _; rw [Array.size_extract]; omega
            rw [a2]; omega
          · rw [if_neg (by decide)]
            refine wpAny_pure ?_
            rw [join_cat]
            exact hR t' s.heap k F (fun p hp => N p (.tail _ hp))
termination_by gap => gap
decreasing_by all_goals omega
end
end Mine
end
/-! part Sg -/
section
open PySem PySem.Sre PySem.Builtin PySem.Builtin.Re PyProof.Rows
set_option Elab.async false
set_option maxRecDepth 100000
namespace Mine
theorem slot_sub : Slot "re.Pattern" "sub" "re.Pattern.sub" :=
  .of (owner := "re.Pattern") (n := "sub") (by rw [typeLookup_type, builtinLookup_eq_fast]; kernel_rfl) (by decide +kernel) (by decide +kernel) (by decide +kernel)
    (by first | exact .inl (by decide +kernel) | exact .inr (by decide +kernel)) (by rw [isSubtype_type]; kernel_rfl)
theorem type_sub : typeOf (.builtin "re.Pattern.sub") = pure (.type "method_descriptor") := by show builtinType _ = _; rw [builtinType_eq_fast]; kernel_rfl
theorem plainAttrs_pat : PlainAttrs "re.Pattern" :=
  ⟨⟨"object.__getattribute__", by rw [typeLookup_type, builtinLookup_eq_fast]; kernel_rfl, by decide +kernel⟩, by rw [typeLookup_type, builtinLookup_eq_fast]; kernel_rfl⟩
end Mine
end
/-! part Sh -/
section
open PySem PySem.Sre PySem.Builtin PySem.Builtin.Re PyProof.Rows
set_option Elab.async false
set_option maxRecDepth 100000
namespace Mine
theorem args_sub (a b c : Value) : argsOk "re.Pattern.sub" ⟨[a, b, c], []⟩ := by
  unfold argsOk; kernel_rfl
end Mine
namespace Mine
theorem no_call_str : typeLookup (.type "str") "__call__" = pure none := by rw [typeLookup_type, builtinLookup_eq_fast]; kernel_rfl
section
variable {prog : Program} {w : World} {A : Around} {E : Value → Shared → Prop} {s : Shared} {h₀ : Heap} {L : Addr} {m : PySem.Str → Option Value} {news : List (Addr × Obj)}
theorem sub_str {Q : Value → Shared → Prop} {pa : Addr} {code : Array Nat} {x r : PySem.Str} {t u : Tok} {P : Nat → Prop} {wd : Nat → Nat} {g : Nat → PySem.Str}
    (F : Fr h₀ L s.heap m) (N : News h₀ L s.heap news) (hT : s.TypeIs (.ref pa) "re.Pattern")
    (hpat : IsPat h₀ pa code 0) (hz : x.cps.size ≤ 100000) (hr : r.length ≤ 10) (h92 : r.cps.contains 92 = false)
    (hsr : ∀ d, d ≤ x.cps.size → ∃ k, k ≤ 2 ^ 60 ∧ Found (it k (forSearch code x.cps 0 d x.cps.size false)) P wd d)
    (hP : ∀ p, P p → p + wd p ≤ x.cps.size ∧ 0 < wd p)
    (hf : ∀ d p, d ≤ p → P p → (∀ q, d ≤ q → q < p → ¬ P q) → g d = ⟨x.cps.extract d p⟩ ++ r ++ g (p + wd p))
    (hn : ∀ d, (∀ q, d ≤ q → ¬ P q) → g d = ⟨x.cps.extract d x.cps.size⟩)
    (hQ : ∀ t' h' tk, Fr h₀ L h' m → News h₀ L h' news → Q (.str (g 0) t') { s with heap := h', toks := tk }) :
    wpAny (model prog w) A (call (.builtin "re.Pattern.sub") [.ref pa, .str r u, .str x t]) Q E s := by
  refine wpAny_call (codeAny_call_builtin slot_sub.plain entry_sub (slot_sub.check _ _ _ _ _ _ _ _ hT (args_sub _ _ _) ?_))
  unfold Builtin.«re.Pattern.sub» reSubstitute
  dsimp only
  refine wpAny_bind (wpAny_of_eq (a := [some (.str r u), some (.str x t), none]) rfl ?_)
  dsimp only
  refine wpAny_bind (wpAny_pure ?_)
  refine wpAny_bind (wpAny_specialOf (typeIs_str _ _ _) no_call_str ?_)
  rw [if_neg (by decide)]
  refine wpAny_bind (wpAny_of_eq (a := some r) rfl ?_)
  dsimp only
  refine wpAny_bind (wpAny_pure ?_)
  rw [if_neg (by decide), h92, if_pos (by rfl)]
  refine wpAny_bind (wpAny_pure ?_)
  refine wpAny_bind (wpAny_holding (whole_str (pat_keep hpat F) ?_))
  dsimp only
  rw [if_neg (by decide)]
  refine wpAny_bind (W.newList_K F N (fun l h' F' N' hl => wpAny_pure ⟨plainId_quiet plain_loop _, ?_⟩) (by decide))
  refine loop_str hpat hz hr hsr hP hf hn _ 0 0 _ _ _ [] rfl (Nat.zero_le _) F' N' (fun p hp => Nat.ne_of_lt (hl p hp)) .nil (by simp) (by simp) (fun t' h' tk F2 N2 => ?_)
  have e := hQ t' h' tk F2 N2
  rw [show cat [] ++ g 0 = g 0 from str_empty _]
  exact e
end
end Mine
end
/-! part Sb -/
section
open PySem PySem.Sre PySem.Builtin PySem.Builtin.Re PyProof.Rows
set_option Elab.async false
set_option maxRecDepth 100000
namespace Mine
theorem text_bytes (b : Array UInt8) (t : Tok) : reTextOf (.bytes b t) = pure (b.map (·.toNat), 1) := by kernel_rfl
theorem nocoll_bytes (b : Array UInt8) (t : Tok) : reNoCollectionInside (.bytes b t) 1 = pure () := by kernel_rfl
theorem lit_b (b : Array UInt8) (t : Tok) : reLiteralCannotBeTurned (.bytes b t) = pure () := by kernel_rfl
theorem take_b (b : Array UInt8) (t : Tok) : Bytes.takeBufferQuiet? "bytes.join" (.bytes b t) 0 = pure (some (b, none)) := by kernel_rfl
theorem bufq_b (b : Array UInt8) (t : Tok) : Bytes.bufferQuiet? "re.Pattern.sub" (.bytes b t) = pure (some b) := by kernel_rfl
theorem no_call_bytes : typeLookup (.type "bytes") "__call__" = pure none := by rw [typeLookup_type, builtinLookup_eq_fast]; kernel_rfl
end Mine
end
/-! part Sc -/
section
open PySem PySem.Sre PySem.Builtin PySem.Builtin.Re PyProof.Rows
set_option Elab.async false
set_option maxRecDepth 100000
namespace Mine
theorem slot_bjoin : Slot "bytes" "join" "bytes.join" :=
  .of (owner := "bytes") (n := "join") (by rw [typeLookup_type, builtinLookup_eq_fast]; kernel_rfl) (by decide +kernel) (by decide +kernel) (by decide +kernel)
    (by first | exact .inl (by decide +kernel) | exact .inr (by decide +kernel)) (by rw [isSubtype_type]; kernel_rfl)
theorem args_bjoin (a b : Value) : argsOk "bytes.join" ⟨[a, b], []⟩ := by
  unfold argsOk; kernel_rfl
/-- octets laid end to end -/
def bcat : List (Array UInt8) → Array UInt8
  | [] => #[]
  | x :: xs => x ++ bcat xs
def bvals (l : List (Array UInt8 × Tok)) : List Value := l.map fun p => .bytes p.1 p.2
theorem bcat_snoc (y : Array UInt8) : ∀ ys, bcat (ys ++ [y]) = bcat ys ++ y
  | [] => by show y ++ #[] = #[] ++ y; rw [Array.append_empty, Array.empty_append]
  | z :: ys => by show z ++ bcat (ys ++ [y]) = z ++ bcat ys ++ y; rw [bcat_snoc y ys, Array.append_assoc]
theorem joined_cat (ps : List (Array UInt8)) : Bytes.joined #[] ps = bcat ps := by
  have key : ∀ (l : List (Array UInt8)) (n : Nat) (acc : Array UInt8), (l.zipIdx n).foldl (fun out (p : Array UInt8 × Nat) => (if p.2 > 0 then out ++ (#[] : Array UInt8) else out) ++ p.1) acc = acc ++ bcat l := by
    intro l
    induction l with
    | nil => intro n acc; show acc = acc ++ #[]; rw [Array.append_empty]
    | cons x l ih =>
      intro n acc
      rw [List.zipIdx_cons, List.foldl_cons, ih]
      show (if n > 0 then acc ++ (#[] : Array UInt8) else acc) ++ x ++ bcat l = acc ++ (x ++ bcat l)
      rw [Array.append_empty, ite_self, Array.append_assoc]
  have := key ps 0 #[]
  rw [Array.empty_append] at this
  exact this
section
variable {Mo : Model} {A : Around} {E : Value → Shared → Prop} {s : Shared}
theorem letGo_c {Q : Unit → Shared → Prop} (h : Q () s) : ∀ (l k : List Value), wpAny Mo A (letGo l k) Q E s
  | [], _ => wpAny_pure h
  | _ :: r, k => wpAny_bind (wpAny_holding (wpAny_point (letGo_c h r k)))
theorem joinLetGo_c {Q : Unit → Shared → Prop} (h : Q () s) : ∀ (l : List (Value × Option Value)) (k : List Value), (∀ p ∈ l, p.2 = none) → wpAny Mo A (Bytes.joinLetGo l k) Q E s
  | [], _, _ => wpAny_pure h
  | (x, u) :: r, k, hl => by
    have hu : u = none := hl _ (.head _)
    subst hu
    unfold Bytes.joinLetGo
    exact wpAny_bind (letGo_c (joinLetGo_c h r k (fun p hp => hl p (.tail _ hp))) _ _)
end
end Mine
namespace Mine
section
variable {prog : Program} {w : World} {A : Around} {E : Value → Shared → Prop} {s : Shared}
theorem bjoin_c {Q : Value → Shared → Prop} {l : Addr} {xs : Array Value} {ps : List (Array UInt8 × Tok)} {tj : Tok} (hl : s.heap.IsList l xs) (hx : xs.toList = bvals ps) (hne : ps ≠ [])
    (hs : ((ps.map (·.1)).map (·.size)).sum ≤ 16777216) (hb : (bcat (ps.map (·.1))).size ≤ 16777216)
    (h : ∀ t' k, Q (.bytes (bcat (ps.map (·.1))) t') { s with toks := k }) : wpAny (model prog w) A (call (.builtin "bytes.join") [.bytes #[] tj, .ref l]) Q E s := by
  obtain ⟨o, ho, hc, n, hd⟩ := hl
  refine wpAny_call (codeAny_call_builtin slot_bjoin.plain entry_bjoin (slot_bjoin.check _ _ _ _ _ _ _ _ (PySem.W.typeIs_bytes _ _ _) (args_bjoin _ _) ?_))
  unfold Builtin.«bytes.join» Bytes.joinM
  refine wpAny_bind (wpAny_of_eq (a := (Value.bytes #[] tj, Value.ref l)) rfl ?_)
  dsimp only
  rw [if_pos (by decide)]
  unfold Bytes.joinItems
  refine wpAny_bind (wpAny_bind (wpAny_typeOf_ref ho ?_))
  rw [hc, if_pos (by decide)]
  refine wpAny_pure ?_
  refine wpAny_bind (wpAny_seqItems ho hd ?_)
  dsimp only
  rw [if_pos (by decide)]
  have hxs : xs = (bvals ps).toArray := by rw [← hx]
  subst hxs
  rcases ps with _ | ⟨⟨b, t⟩, _ | ⟨q, r⟩⟩
  · exact absurd rfl hne
  · show wpAny _ _ (typeOf (Value.bytes b t) >>= fun z => _) _ _ _
    refine wpAny_bind (wpAny_typeOf (PySem.W.typeIs_bytes _ _ _) ?_)
    rw [if_pos (by decide)]
    refine wpAny_bind (wpAny_rule (wpAny_pure ?_))
    have := h t s.toks
    rw [show bcat (([(b, t)] : List (Array UInt8 × Tok)).map (·.1)) = b from Array.append_empty] at this
    exact this
  · show wpAny _ _ (forIn (m := Sem) [:(bvals ((b, t) :: q :: r)).toArray.size] (#[], []) _ >>= _) _ _ _
    generalize hps : ((b, t) :: q :: r) = ps at *
    have hlen : (bvals ps).toArray.size = ps.length := by simp [bvals]
    refine wpAny_bind ?_
    rw [Std.Legacy.Range.forIn_eq_forIn_range']
    simp only [Std.Legacy.Range.size, Nat.sub_zero, Nat.add_sub_cancel, Nat.div_one]
    refine wpAny_forIn_list _
      (fun rest b s' => ∃ i, s' = s ∧ rest = List.range' i ((bvals ps).toArray.size - i) ∧ i ≤ (bvals ps).toArray.size ∧ b.1.toList = (ps.take i).map (·.1) ∧ b.2 = (ps.take i).map (fun p => (Value.bytes p.1 p.2, none)))
      _ ?_ ?_ _ _ ⟨0, rfl, by simp, Nat.zero_le _, by simp, by simp⟩
    · rintro x rest b s' ⟨i, rfl, hr, hi, hb1, hb2⟩
      have hlt : i < (bvals ps).toArray.size := by
        rcases Nat.lt_or_ge i (bvals ps).toArray.size with h | h
        · exact h
        · rw [Nat.sub_eq_zero_of_le h] at hr; simp at hr
      obtain ⟨rfl, hrest⟩ : x = i ∧ rest = List.range' (i + 1) ((bvals ps).toArray.size - (i + 1)) := by
        have e : (bvals ps).toArray.size - i = ((bvals ps).toArray.size - (i + 1)) + 1 := by omega
        rw [e, List.range'_succ] at hr
        injection hr with h1 h2
        exact ⟨h1, h2⟩
      have hxp : x < ps.length := by omega
      have hget : (bvals ps).toArray.getD x Value.none = .bytes (ps[x]).1 (ps[x]).2 := by
        rw [Array.getD_eq_getD_getElem?]
        simp [bvals, hxp]
      have hany : (b.snd.any fun x => x.fst.onHeap) = false := by
        rw [hb2, List.any_map]
        refine List.any_eq_false.mpr fun q hq => ?_
        exact Bool.false_ne_true
      refine wpAny_bind (wpAny_seqItems ho hd ?_)
      dsimp only
      rw [hany, if_neg (by decide), hget]
      refine wpAny_bind (wpAny_holding ?_)
      refine wpAny_of_eq (take_b _ _) ?_
      dsimp only
      refine wpAny_bind (wpAny_seqItems ho hd ?_)
      dsimp only
      rw [if_neg (by simp)]
      refine wpAny_pure ⟨x + 1, rfl, hrest, by omega, ?_, ?_⟩
      · rw [Array.toList_push, hb1, List.take_add_one, List.map_append, List.getElem?_eq_getElem hxp]; rfl
      · rw [hb2, List.take_add_one, List.map_append, List.getElem?_eq_getElem hxp]; rfl
    · rintro b s' ⟨i, rfl, hr, hi, hb1, hb2⟩
      have hi' : i = ps.length := by
        have : (bvals ps).toArray.size - i = 0 := by
          rcases Nat.eq_zero_or_pos ((bvals ps).toArray.size - i) with h | h
          · exact h
          · obtain ⟨k, hk⟩ := Nat.exists_eq_succ_of_ne_zero (Nat.ne_of_gt h)
            rw [hk, List.range'_succ] at hr; cases hr
        omega
      rw [hi', List.take_length] at hb1 hb2
      have hpart : b.fst = (ps.map (·.1)).toArray := by rw [← hb1]
      refine wpAny_bind (wpAny_of_eq (a := (#[] : Array UInt8)) rfl ?_)
      have hfold : ∀ (l : List (Array UInt8)) (n : Nat), l.foldl (fun x y => x + y.size) n = n + (l.map (·.size)).sum := by
        intro l
        induction l with
        | nil => intro n; simp
        | cons y l ih => intro n; rw [List.foldl_cons, ih]; simp only [List.map_cons, List.sum_cons]; omega
      rw [if_neg (by
        unfold Bytes.tooLong
        rw [hpart, List.foldl_toArray, hfold, sizeLine_eq]
        simp only [decide_eq_true_eq, Nat.not_lt, Array.size_empty, Nat.zero_mul]
        omega)]
      have hjo : Bytes.joined #[] b.fst.toList = bcat (ps.map (·.1)) := by rw [joined_cat, hb1]
      rw [hjo]
      refine wpAny_bind (wpAny_mkBytes ?_ (by rw [sizeLine_eq]; exact hb))
      refine wpAny_bind (wpAny_holding (wpAny_point ?_))
      refine wpAny_bind (joinLetGo_c ?_ _ _ (by rw [hb2]; intro p hp; obtain ⟨q, _, rfl⟩ := List.mem_map.mp hp; rfl))
      exact wpAny_pure (h _ _)
end
end Mine
end
/-! part Sn -/
section
open PySem PySem.Sre PySem.Builtin PySem.Builtin.Re PyProof.Rows
set_option Elab.async false
set_option maxRecDepth 100000
namespace Mine
theorem back_bytes (b : Array UInt8) (d e : Nat) : ((b.map (·.toNat)).extract d e).map (·.toUInt8) = b.extract d e := by
  rw [← Array.map_extract, Array.map_map]
  have : ((fun x : Nat => x.toUInt8) ∘ fun x : UInt8 => x.toNat) = _root_.id := by
    funext x; exact UInt8.ofNat_toNat
  rw [this]; exact Array.map_id _
theorem bcat_size : ∀ l : List (Array UInt8), (bcat l).size = (l.map (·.size)).sum
  | [] => rfl
  | x :: l => by show (x ++ bcat l).size = _; rw [Array.size_append, bcat_size l]; rfl
theorem bsum_snoc (y : Array UInt8) (ys : List (Array UInt8)) : ((ys ++ [y]).map (·.size)).sum = (ys.map (·.size)).sum + y.size := by
  rw [List.map_append, List.sum_append]; simp
section
variable {Mo : Model} {prog : Program} {w : World} {A : Around} {E : Value → Shared → Prop} {s : Shared}
theorem whole_b {Q : ReTarget → Shared → Prop} {pa : Addr} {code : Array Nat} {x : Array UInt8} {t : Tok} (P : IsPat s.heap pa code 1)
    (h : Q { pattern := .ref pa, string := .bytes x t, code, text := x.map (·.toNat), kind := 1, groups := 0, pos := 0, lim := (x.map (·.toNat)).size } s) : wpAny Mo A (reWholeTarget (.ref pa) (.bytes x t)) Q E s := by
  obtain ⟨op, fs, ca, oc, items, n, tk, p1, p2, p3, p4, p5, p6, p7, p8⟩ := P.ex
  unfold reWholeTarget
  refine wpAny_bind (wpAny_fieldsOf p1 p2 ?_)
  refine wpAny_bind (wpAny_of_eq (text_bytes x t) ?_)
  rw [p5]
  dsimp only [reRawNat]
  refine wpAny_bind (wpAny_of_eq (nocoll_bytes x t) ?_)
  rw [p4, p3]
  unfold reRawItems
  refine wpAny_bind (wpAny_bind (wpAny_seqItems p6 p7 (wpAny_pure ?_)))
  refine wpAny_pure ?_
  rw [Option.getD_some, p8]
  exact h
theorem slice_b {x : Array UInt8} {b e : Nat} {Q : Value → Shared → Prop} (hz : x.size ≤ 1000000) (h : Q (.bytes (x.extract b e) s.toks) { s with toks := s.toks + 1 }) : wpAny Mo A (reSlice (x.map (·.toNat)) 1 b e) Q E s := by
  show wpAny Mo A (mkBytes (((x.map (·.toNat)).extract b e).map (·.toUInt8))) Q E s
  rw [back_bytes]
  refine wpAny_mkBytes h ?_
  have : (x.extract b e).size ≤ x.size := by rw [Array.size_extract]; omega
  rw [sizeLine_eq]; omega
end
section
variable {prog : Program} {w : World} {A : Around} {R : Result → Shared → Prop} {s : Shared} {h₀ : Heap} {L l : Addr} {m : PySem.Str → Option Value} {news : List (Addr × Obj)}
theorem bvals_snoc (l : List (Array UInt8 × Tok)) (y : Array UInt8) (t : Tok) : bvals (l ++ [(y, t)]) = bvals l ++ [.bytes y t] := by simp [bvals]
theorem fst_snoc (l : List (Array UInt8 × Tok)) (y : Array UInt8) (t : Tok) : (l ++ [(y, t)]).map (·.1) = l.map (·.1) ++ [y] := by simp
theorem loop_b {pa : Addr} {code : Array Nat} {x r : Array UInt8} {t u : Tok} {P : Nat → Prop} {wd : Nat → Nat} {g : Nat → Array UInt8}
    (hpat : IsPat h₀ pa code 1) (hz : x.size ≤ 100000) (hr : r.size ≤ 10)
    (hsr : ∀ d, d ≤ x.size → ∃ k, k ≤ 2 ^ 60 ∧ Found (it k (forSearch code (x.map (·.toNat)) 0 d (x.map (·.toNat)).size false)) P wd d)
    (hP : ∀ p, P p → p + wd p ≤ x.size ∧ 0 < wd p)
    (hf : ∀ d p, d ≤ p → P p → (∀ q, d ≤ q → q < p → ¬ P q) → g d = x.extract d p ++ r ++ g (p + wd p))
    (hn : ∀ d, (∀ q, d ≤ q → ¬ P q) → g d = x.extract d x.size) :
    ∀ gap d n s xs c ps, x.size - d = gap → d ≤ x.size → Fr h₀ L s.heap m → News h₀ L s.heap ((l, W.listOf xs c) :: news) → (∀ p ∈ news, p.1 ≠ l) → xs.toList = bvals ps → xs.size ≤ 2 * d → ((ps.map (·.1)).map (·.size)).sum ≤ 11 * d →
      (∀ t' h' tk, Fr h₀ L h' m → News h₀ L h' news → R (.ok (.ret (.bytes (bcat (ps.map (·.1)) ++ g d) t'))) { s with heap := h', toks := tk }) →
      codeAny (model prog w) A (.builtin "re.Pattern.sub.loop" ⟨[.ref pa, .bytes x t, .bytes r u, rawInt 0, rawInt 0, rawInt n, rawInt (d : Nat), rawInt (d : Nat), .bool false, .ref l, .bool false], []⟩) R s
  | gap, d, n, s, xs, c, ps, hg, hd, F, N, hne, hxs, hsz, hsum, hR => by
    refine codeAny_builtin entry_loop ?_
    rw [Around.under_plainId plain_loop]
    unfold Builtin.«re.Pattern.sub.loop»
    dsimp only [rawInt]
    refine wpAny_bind (whole_b (pat_keep hpat F) ?_)
    dsimp only
    refine wpAny_bind (wpAny_of_eq (lit_b r u) ?_)
    rw [if_neg (by simp), Int.toNat_natCast]
    have hms : (x.map (·.toNat)).size = x.size := Array.size_map
    refine wpAny_bind (next_c (P := P) (wd := wd) (hsr d hd) (fun mm p h1 h2 h3 h4 h5 => ?_) (fun h1 => ?_))
    · dsimp only
      rw [h4, h5]
      have hp := hP p h2
      by_cases hlt : d < p
      · rw [if_pos hlt]
        refine wpAny_bind (slice_b (by omega) ?_)
        refine wpAny_bind (push_c F N hne (by rw [sizeLine_eq]; omega) fun h' n' F' N' => ?_)
        rw [if_pos (by rfl)]
        refine wpAny_bind (wpAny_pure ?_)
        rw [if_pos (by rfl)]
        refine wpAny_bind (push_c (F := F') (N := N') hne (by rw [sizeLine_eq, Array.size_push]; omega) fun h2' n2' F2 N2 => wpAny_pure ⟨plainId_quiet plain_loop _, ?_⟩)
        rw [show (p + wd p == p) = false from beq_eq_false_iff_ne.mpr (by omega)]
        refine loop_b hpat hz hr hsr hP hf hn (gap - (p + wd p - d)) (p + wd p) (n + 1) _ _ _ ((ps ++ [(x.extract d p, s.toks)]) ++ [(r, u)]) (by omega) hp.1 F2 N2 hne (by rw [Array.toList_push, Array.toList_push, hxs, bvals_snoc, bvals_snoc]) (by rw [Array.size_push, Array.size_push]; omega) ?_ (fun t' h' tk F3 N3 => ?_)
        · rw [fst_snoc, fst_snoc, bsum_snoc, bsum_snoc]
          have : (x.extract d p).size ≤ p - d := by rw [Array.size_extract]; omega
          omega
        · have e := hR t' h' tk F3 N3
          rw [hf d p h1 h2 h3] at e
          rw [fst_snoc, fst_snoc, bcat_snoc, bcat_snoc]
          rw [← Array.append_assoc, ← Array.append_assoc] at e
          exact e
      · rw [if_neg hlt]
        have hdp : d = p := by omega
        rw [if_pos (by rfl)]
        refine wpAny_bind (wpAny_pure ?_)
        rw [if_pos (by rfl)]
        refine wpAny_bind (push_c (F := F) (N := N) hne (by rw [sizeLine_eq]; omega) fun h2' n2' F2 N2 => wpAny_pure ⟨plainId_quiet plain_loop _, ?_⟩)
        rw [show (p + wd p == p) = false from beq_eq_false_iff_ne.mpr (by omega)]
        refine loop_b hpat hz hr hsr hP hf hn (gap - (p + wd p - d)) (p + wd p) (n + 1) _ _ _ (ps ++ [(r, u)]) (by omega) hp.1 F2 N2 hne (by rw [Array.toList_push, hxs, bvals_snoc]) (by rw [Array.size_push]; omega) ?_ (fun t' h' tk F3 N3 => ?_)
        · rw [fst_snoc, bsum_snoc]
          omega
        · have e := hR t' h' tk F3 N3
          rw [hf d p h1 h2 h3] at e
          have e0 : x.extract d p = #[] := by
            rw [hdp]; simp; omega
          rw [e0, Array.empty_append, ← Array.append_assoc] at e
          rw [fst_snoc, bcat_snoc]
          exact e
    · dsimp only
      have e := hn d h1
      rw [hms]
      by_cases hlt : d < x.size
      · rw [if_pos hlt]
        refine wpAny_bind (slice_b (by omega) ?_)
        refine wpAny_bind (push_c F N hne (by rw [sizeLine_eq]; omega) fun h' n' F' N' => ?_)
        refine wpAny_bind (slice_b (by omega) ?_)
        refine wpAny_bind (wpAny_seqItems (N' _ (.head _)).1 rfl ?_)
        rw [if_neg (by simp)]
        have e0 : x.extract 0 0 = #[] := by simp
        rw [e0]
        have hsum2 : (((ps ++ [(x.extract d x.size, s.toks)]).map (·.1)).map (·.size)).sum ≤ 16777216 := by
          rw [fst_snoc, bsum_snoc]
          have a1 : (x.extract d x.size).size ≤ x.size - d := by rw [Array.size_extract]; omega
          omega
        refine wpAny_bind (bjoin_c (ps := ps ++ [(x.extract d x.size, s.toks)]) (News.isList N' (.head _)) (by rw [Array.toList_push, hxs, bvals_snoc]) (by simp) hsum2 (by rw [bcat_size]; exact hsum2) (fun t' k => ?_))
        rw [if_neg (by decide)]
        refine wpAny_pure ?_
        have e2 := hR t' h' k F' (fun p hp => N' p (.tail _ hp))
        rw [e] at e2
        rw [fst_snoc, bcat_snoc]
        exact e2
      · rw [if_neg hlt]
        refine wpAny_bind (slice_b (by omega) ?_)
        refine wpAny_bind (wpAny_seqItems (N _ (.head _)).1 rfl ?_)
        have e0 : g d = #[] := by
          rw [e, show d = x.size by omega]; simp
        rw [e0, Array.append_empty] at hR
        rw [Option.getD_some]
        have e00 : x.extract 0 0 = #[] := by simp
        rw [e00]
        by_cases hem : xs.isEmpty = true
        · rw [if_pos hem]
          refine wpAny_bind (wpAny_pure ?_)
          rw [if_neg (by decide)]
          refine wpAny_pure ?_
          have hnil : ps = [] := by
            have : xs = #[] := by simpa using hem
            rw [this] at hxs
            cases ps with
            | nil => rfl
            | cons a b => simp [bvals] at hxs
          have e2 := hR s.toks s.heap (s.toks + 1) F (fun p hp => N p (.tail _ hp))
          rw [hnil] at e2
          exact e2
        · rw [if_neg hem]
          have hpsne : ps ≠ [] := by
            intro hnil
            rw [hnil] at hxs
            apply hem
            have : xs = #[] := by rw [← Array.toArray_toList (xs := xs), hxs]; rfl
            rw [this]; rfl
          have hsum2 : ((ps.map (·.1)).map (·.size)).sum ≤ 16777216 := by omega
          refine wpAny_bind (bjoin_c (ps := ps) (News.isList N (.head _)) hxs hpsne hsum2 (by rw [bcat_size]; exact hsum2) (fun t' k => ?_))
          rw [if_neg (by decide)]
          refine wpAny_pure ?_
          exact hR t' s.heap k F (fun p hp => N p (.tail _ hp))
termination_by gap => gap
decreasing_by all_goals omega
end
section
variable {prog : Program} {w : World} {A : Around} {E : Value → Shared → Prop} {s : Shared} {h₀ : Heap} {L : Addr} {m : PySem.Str → Option Value} {news : List (Addr × Obj)}
theorem sub_b {Q : Value → Shared → Prop} {pa : Addr} {code : Array Nat} {x r : Array UInt8} {t u : Tok} {P : Nat → Prop} {wd : Nat → Nat} {g : Nat → Array UInt8}
    (F : Fr h₀ L s.heap m) (N : News h₀ L s.heap news) (hT : s.TypeIs (.ref pa) "re.Pattern")
    (hpat : IsPat h₀ pa code 1) (hz : x.size ≤ 100000) (hr : r.size ≤ 10) (h92 : r.contains 92 = false)
    (hsr : ∀ d, d ≤ x.size → ∃ k, k ≤ 2 ^ 60 ∧ Found (it k (forSearch code (x.map (·.toNat)) 0 d (x.map (·.toNat)).size false)) P wd d)
    (hP : ∀ p, P p → p + wd p ≤ x.size ∧ 0 < wd p)
    (hf : ∀ d p, d ≤ p → P p → (∀ q, d ≤ q → q < p → ¬ P q) → g d = x.extract d p ++ r ++ g (p + wd p))
    (hn : ∀ d, (∀ q, d ≤ q → ¬ P q) → g d = x.extract d x.size)
    (hQ : ∀ t' h' tk, Fr h₀ L h' m → News h₀ L h' news → Q (.bytes (g 0) t') { s with heap := h', toks := tk }) :
    wpAny (model prog w) A (call (.builtin "re.Pattern.sub") [.ref pa, .bytes r u, .bytes x t]) Q E s := by
  refine wpAny_call (codeAny_call_builtin slot_sub.plain entry_sub (slot_sub.check _ _ _ _ _ _ _ _ hT (args_sub _ _ _) ?_))
  unfold Builtin.«re.Pattern.sub» reSubstitute
  dsimp only
  refine wpAny_bind (wpAny_of_eq (a := [some (.bytes r u), some (.bytes x t), none]) rfl ?_)
  dsimp only
  refine wpAny_bind (wpAny_pure ?_)
  refine wpAny_bind (wpAny_specialOf (PySem.W.typeIs_bytes _ _ _) no_call_bytes ?_)
  rw [if_neg (by decide)]
  refine wpAny_bind (wpAny_of_eq (a := none) rfl ?_)
  dsimp only
  refine wpAny_bind (wpAny_of_eq (bufq_b r u) ?_)
  dsimp only
  refine wpAny_bind (wpAny_pure ?_)
  rw [if_neg (by decide), h92, if_pos (by rfl)]
  refine wpAny_bind (wpAny_pure ?_)
  refine wpAny_bind (wpAny_holding (whole_b (pat_keep hpat F) ?_))
  dsimp only
  rw [if_neg (by decide)]
  refine wpAny_bind (W.newList_K F N (fun l h' F' N' hl => wpAny_pure ⟨plainId_quiet plain_loop _, ?_⟩) (by decide))
  refine loop_b hpat hz hr hsr hP hf hn _ 0 0 _ _ _ [] rfl (Nat.zero_le _) F' N' (fun p hp => Nat.ne_of_lt (hl p hp)) rfl (by simp) (by simp) (fun t' h' tk F2 N2 => ?_)
  have e := hQ t' h' tk F2 N2
  rw [show bcat (([] : List (Array UInt8 × Tok)).map (·.1)) ++ g 0 = g 0 from Array.empty_append]
  exact e
end
end Mine
end
/-! part Qf -/
section
open PySem PySem.Sre PySem.Builtin PySem.Builtin.Re PyProof.Rows
set_option Elab.async false
set_option maxRecDepth 100000
namespace Mine
/-- one more dot behind a feed; the flag: a feed (or nothing) stands before -/
def qT : Bool → List Nat → List Nat
  | _, [] => []
  | b, x :: xs => if b = true ∧ x = 46 then 46 :: 46 :: qT false xs else x :: qT (x == 10) xs
/-- the ends of rows made even -/
def fT : List Nat → List Nat
  | [] => []
  | 13 :: 10 :: xs => 13 :: 10 :: fT xs
  | x :: xs => if x = 10 ∨ x = 13 then 13 :: 10 :: fT xs else x :: fT xs
theorem fT_two (xs : List Nat) : fT (13 :: 10 :: xs) = 13 :: 10 :: fT xs := by rw [fT]
theorem fT_13 (xs : List Nat) (h : ∀ ys, xs ≠ 10 :: ys) : fT (13 :: xs) = 13 :: 10 :: fT xs := by
  rw [fT]
  · rw [if_pos (.inr rfl)]
  · intro ys _ e; exact h ys e
theorem fT_10 (xs : List Nat) : fT (10 :: xs) = 13 :: 10 :: fT xs := by
  rw [fT]
  · rw [if_pos (.inl rfl)]
  · intro ys e; cases e
theorem fT_else (x : Nat) (xs : List Nat) (h1 : x ≠ 10) (h2 : x ≠ 13) : fT (x :: xs) = x :: fT xs := by
  rw [fT]
  · rw [if_neg (by omega)]
  · intro ys e; exact absurd e h2
def flagAt (l : List Nat) (d : Nat) : Bool := d == 0 || l.getD (d - 1) 0 == 10
def dAtL (l : List Nat) (p : Nat) : Prop := p < l.length ∧ (p = 0 ∨ l.getD (p - 1) 0 = 10) ∧ l.getD p 0 = 46
def eAtL (l : List Nat) (p : Nat) : Prop := p < l.length ∧ (l.getD p 0 = 10 ∨ l.getD p 0 = 13)
def eWL (l : List Nat) (p : Nat) : Nat := if l.getD p 0 = 13 ∧ p + 1 < l.length ∧ l.getD (p + 1) 0 = 10 then 2 else 1
theorem drop_at {l : List Nat} {d : Nat} (h : d < l.length) : l.drop d = l.getD d 0 :: l.drop (d + 1) := by
  rw [List.drop_eq_getElem_cons h]
  simp [h]
theorem take_at {l : List Nat} {d p : Nat} (h : d < p) (hp : p ≤ l.length) : (l.drop d).take (p - d) = l.getD d 0 :: (l.drop (d + 1)).take (p - (d + 1)) := by
  rw [drop_at (by omega : d < l.length), show p - d = (p - (d + 1)) + 1 by omega, List.take_succ_cons]
theorem q_go {l : List Nat} {d : Nat} (h : d < l.length) (hn : ¬ dAtL l d) : qT (flagAt l d) (l.drop d) = l.getD d 0 :: qT (flagAt l (d + 1)) (l.drop (d + 1)) := by
  rw [drop_at h, qT]
  rw [if_neg]
  · congr 1
  · intro ⟨h1, h2⟩
    refine hn ⟨h, ?_, h2⟩
    simpa [flagAt] using h1
theorem q_hit {l : List Nat} {p : Nat} (h : dAtL l p) : qT (flagAt l p) (l.drop p) = 46 :: 46 :: qT (flagAt l (p + 1)) (l.drop (p + 1)) := by
  have e : flagAt l (p + 1) = false := by
    show (false || l.getD p 0 == 10) = false
    rw [h.2.2]; rfl
  rw [drop_at h.1, qT, if_pos ⟨by have := h.2.1; simpa [flagAt] using this, h.2.2⟩, e]
theorem q_found {l : List Nat} : ∀ n d p, p - d = n → d ≤ p → dAtL l p → (∀ q, d ≤ q → q < p → ¬ dAtL l q) → qT (flagAt l d) (l.drop d) = (l.drop d).take (p - d) ++ [46, 46] ++ qT (flagAt l (p + 1)) (l.drop (p + 1))
  | 0, d, p, e, hd, hp, _ => by
    have : d = p := by omega
    subst this
    rw [q_hit hp, Nat.sub_self, List.take_zero]; rfl
  | n + 1, d, p, e, hd, hp, hq => by
    have hl := hp.1
    rw [q_go (by omega) (hq d (Nat.le_refl _) (by omega)), q_found n (d + 1) p (by omega) (by omega) hp (fun q a b => hq q (by omega) b), take_at (l := l) (d := d) (p := p) (by omega) (by omega)]
    rfl
theorem q_none {l : List Nat} : ∀ n d, l.length - d = n → (∀ q, d ≤ q → ¬ dAtL l q) → qT (flagAt l d) (l.drop d) = l.drop d
  | 0, d, e, _ => by
    rw [List.drop_eq_nil_of_le (by omega)]; cases flagAt l d <;> rfl
  | n + 1, d, e, hq => by
    rw [q_go (by omega) (hq d (Nat.le_refl _)), q_none n (d + 1) (by omega) (fun q a => hq q (by omega)), ← drop_at (by omega)]
theorem f_go {l : List Nat} {d : Nat} (h : d < l.length) (hn : ¬ eAtL l d) : fT (l.drop d) = l.getD d 0 :: fT (l.drop (d + 1)) := by
  rw [drop_at h, fT_else _ _ (fun e => hn ⟨h, .inl e⟩) (fun e => hn ⟨h, .inr e⟩)]
theorem f_hit {l : List Nat} {p : Nat} (h : eAtL l p) : fT (l.drop p) = 13 :: 10 :: fT (l.drop (p + eWL l p)) := by
  rw [drop_at h.1]
  unfold eWL
  rcases h.2 with e | e
  · rw [e, fT_10, if_neg (by omega)]
  · by_cases c : p + 1 < l.length ∧ l.getD (p + 1) 0 = 10
    · rw [if_pos ⟨e, c⟩, e, drop_at c.1, c.2, fT_two]
    · rw [if_neg (fun x => c x.2), e, fT_13]
      intro ys hy
      apply c
      have hl : p + 1 < l.length := by
        rcases Nat.lt_or_ge (p + 1) l.length with h | h
        · exact h
        · rw [List.drop_eq_nil_of_le h] at hy; cases hy
      refine ⟨hl, ?_⟩
      rw [drop_at hl] at hy
      injection hy
theorem f_found {l : List Nat} : ∀ n d p, p - d = n → d ≤ p → eAtL l p → (∀ q, d ≤ q → q < p → ¬ eAtL l q) → fT (l.drop d) = (l.drop d).take (p - d) ++ [13, 10] ++ fT (l.drop (p + eWL l p))
  | 0, d, p, e, hd, hp, _ => by
    have : d = p := by omega
    subst this
    rw [f_hit hp, Nat.sub_self, List.take_zero]; rfl
  | n + 1, d, p, e, hd, hp, hq => by
    have hl := hp.1
    rw [f_go (by omega) (hq d (Nat.le_refl _) (by omega)), f_found n (d + 1) p (by omega) (by omega) hp (fun q a b => hq q (by omega) b), take_at (l := l) (d := d) (p := p) (by omega) (by omega)]
    rfl
theorem f_none {l : List Nat} : ∀ n d, l.length - d = n → (∀ q, d ≤ q → ¬ eAtL l q) → fT (l.drop d) = l.drop d
  | 0, d, e, _ => by
    rw [List.drop_eq_nil_of_le (by omega)]; rfl
  | n + 1, d, e, hq => by
    rw [f_go (by omega) (hq d (Nat.le_refl _)), f_none n (d + 1) (by omega) (fun q a => hq q (by omega)), ← drop_at (by omega)]
theorem arr_getD (a : Array Nat) (i : Nat) : a.getD i 0 = a.toList.getD i 0 := by
  rw [Array.getD_eq_getD_getElem?, List.getD_eq_getElem?_getD, Array.getElem?_toList]
theorem dAt_iff (a : Array Nat) (p : Nat) : dAt a p ↔ dAtL a.toList p := by
  unfold dAt dAtL; rw [arr_getD, arr_getD, Array.length_toList]
theorem eAt_iff (a : Array Nat) (p : Nat) : eAt a p ↔ eAtL a.toList p := by
  unfold eAt eAtL; rw [arr_getD, Array.length_toList]
theorem eW_is (a : Array Nat) (p : Nat) : eW a p = eWL a.toList p := by
  unfold eW eWL; rw [arr_getD, arr_getD, Array.length_toList]
theorem ext_list {α : Type} (a : Array α) (d p : Nat) : a.extract d p = ((a.toList.drop d).take (p - d)).toArray := by
  apply Array.toList_inj.mp
  rw [Array.toList_extract]
section
variable {prog : Program} {w : World} {A : Around} {E : Value → Shared → Prop} {s : Shared} {h₀ : Heap} {L : Addr} {m : PySem.Str → Option Value} {news : List (Addr × Obj)} {Q : Value → Shared → Prop} {pa : Addr} {t u : Tok}
/-- sub of the pattern of a leading dot, over a text -/
theorem sub_dots {x : PySem.Str} (F : Fr h₀ L s.heap m) (N : News h₀ L s.heap news) (hT : s.TypeIs (.ref pa) "re.Pattern") (hpat : IsPat h₀ pa DC 0) (hz : x.cps.size ≤ 100000)
    (hQ : ∀ t' h' tk, Fr h₀ L h' m → News h₀ L h' news → Q (.str ⟨(qT true x.cps.toList).toArray⟩ t') { s with heap := h', toks := tk }) :
    wpAny (model prog w) A (call (.builtin "re.Pattern.sub") [.ref pa, .str (PySem.Str.ofString "..") u, .str x t]) Q E s := by
  refine sub_str (P := dAt x.cps) (wd := fun _ => 1) (g := fun d => ⟨(qT (flagAt x.cps.toList d) (x.cps.toList.drop d)).toArray⟩) F N hT hpat hz (by decide +kernel) (by decide +kernel)
    (fun d hd => ?_) (fun p hp => ⟨hp.1, Nat.one_pos⟩) (fun d p h1 h2 h3 => ?_) (fun d h1 => ?_) (fun t' h' tk F' N' => hQ t' h' tk F' N')
  · obtain ⟨k, hk, f⟩ := d_search (text := x.cps) hd
    exact ⟨k, by have : (2:Nat) ^ 60 = 1152921504606846976 := by decide
                 omega, f⟩
  · show (⟨_⟩ : PySem.Str) = ⟨_⟩
    congr 1
    rw [q_found _ d p rfl h1 ((dAt_iff _ _).mp h2) (fun q a b => fun c => h3 q a b ((dAt_iff _ _).mpr c)), ext_list]
    show _ = (_ ++ (PySem.Str.ofString "..").cps) ++ _
    rw [show (PySem.Str.ofString "..").cps = #[46, 46] by decide +kernel]
    simp
  · show (⟨_⟩ : PySem.Str) = ⟨_⟩
    congr 1
    rw [q_none _ d rfl (fun q a => fun c => h1 q a ((dAt_iff _ _).mpr c)), ext_list]
    rw [List.take_of_length_le (by simp)]
/-- sub of the pattern of the ends of rows -/
theorem sub_eols {x : PySem.Str} (F : Fr h₀ L s.heap m) (N : News h₀ L s.heap news) (hT : s.TypeIs (.ref pa) "re.Pattern") (hpat : IsPat h₀ pa EC 0) (hz : x.cps.size ≤ 100000)
    (hQ : ∀ t' h' tk, Fr h₀ L h' m → News h₀ L h' news → Q (.str ⟨(fT x.cps.toList).toArray⟩ t') { s with heap := h', toks := tk }) :
    wpAny (model prog w) A (call (.builtin "re.Pattern.sub") [.ref pa, .str (PySem.Str.ofString "\u000d\n") u, .str x t]) Q E s := by
  refine sub_str (P := eAt x.cps) (wd := eW x.cps) (g := fun d => ⟨(fT (x.cps.toList.drop d)).toArray⟩) F N hT hpat hz (by decide +kernel) (by decide +kernel)
    (fun d hd => ?_) (fun p hp => ?_) (fun d p h1 h2 h3 => ?_) (fun d h1 => ?_) (fun t' h' tk F' N' => hQ t' h' tk F' N')
  · obtain ⟨k, hk, f⟩ := e_search (text := x.cps) hd
    exact ⟨k, by have : (2:Nat) ^ 60 = 1152921504606846976 := by decide
                 omega, f⟩
  · have := hp.1
    rcases (show eW x.cps p = 1 ∨ (eW x.cps p = 2 ∧ p + 1 < x.cps.size) from by
      unfold eW
      by_cases c : x.cps.getD p 0 = 13 ∧ p + 1 < x.cps.size ∧ x.cps.getD (p + 1) 0 = 10
      · rw [if_pos c]; exact .inr ⟨rfl, c.2.1⟩
      · rw [if_neg c]; exact .inl rfl) with h | ⟨h, h'⟩ <;> omega
  · show (⟨_⟩ : PySem.Str) = ⟨_⟩
    congr 1
    rw [f_found _ d p rfl h1 ((eAt_iff _ _).mp h2) (fun q a b => fun c => h3 q a b ((eAt_iff _ _).mpr c)), ext_list, eW_is]
    show _ = (_ ++ (PySem.Str.ofString "\u000d\n").cps) ++ _
    rw [show (PySem.Str.ofString "\u000d\n").cps = #[13, 10] by decide +kernel]
    simp
  · show (⟨_⟩ : PySem.Str) = ⟨_⟩
    congr 1
    rw [f_none _ d rfl (fun q a => fun c => h1 q a ((eAt_iff _ _).mpr c)), ext_list]
    rw [List.take_of_length_le (by simp)]
/-- sub of the pattern of a leading dot, over octets -/
theorem sub_octets {x : Array UInt8} (F : Fr h₀ L s.heap m) (N : News h₀ L s.heap news) (hT : s.TypeIs (.ref pa) "re.Pattern") (hpat : IsPat h₀ pa DC 1) (hz : x.size ≤ 100000)
    (hQ : ∀ t' h' tk, Fr h₀ L h' m → News h₀ L h' news → Q (.bytes ((qT true (x.map (·.toNat)).toList).map (·.toUInt8)).toArray t') { s with heap := h', toks := tk }) :
    wpAny (model prog w) A (call (.builtin "re.Pattern.sub") [.ref pa, .bytes #[46, 46] u, .bytes x t]) Q E s := by
  have hms : (x.map (·.toNat)).size = x.size := Array.size_map
  refine sub_b (P := dAt (x.map (·.toNat))) (wd := fun _ => 1) (g := fun d => ((qT (flagAt (x.map (·.toNat)).toList d) ((x.map (·.toNat)).toList.drop d)).map (·.toUInt8)).toArray) F N hT hpat hz (by decide +kernel) (by decide +kernel)
    (fun d hd => ?_) (fun p hp => ⟨by have := hp.1; omega, Nat.one_pos⟩) (fun d p h1 h2 h3 => ?_) (fun d h1 => ?_) (fun t' h' tk F' N' => hQ t' h' tk F' N')
  · obtain ⟨k, hk, f⟩ := d_search (text := x.map (·.toNat)) (s := d) (by omega)
    exact ⟨k, by have : (2:Nat) ^ 60 = 1152921504606846976 := by decide
                 omega, f⟩
  · rw [q_found _ d p rfl h1 ((dAt_iff _ _).mp h2) (fun q a b => fun c => h3 q a b ((dAt_iff _ _).mpr c)), ← back_bytes, ext_list]
    simp
  · rw [q_none _ d rfl (fun q a => fun c => h1 q a ((dAt_iff _ _).mpr c)), ← back_bytes, ext_list]
    rw [List.take_of_length_le (by simp)]
    simp
end
end Mine
end
/-! part Ed -/
section
open PySem PySem.Builtin PyProof.Rows
set_option Elab.async false
set_option maxRecDepth 100000
namespace Mine
theorem road_ascii (id : String) (self : Value) (x : PySem.Str) : _codecs.encodeRoad id self x (PySem.Str.ofString "ascii") none = (do mkBytes (← _codecs.encodeNarrow id _codecs.asciiCodec none self x)) := by kernel_rfl
theorem enc_tree (x : PySem.Str) (t u : Tok) : «str.encode» ⟨[.str x t, .str (PySem.Str.ofString "ascii") u], []⟩ = (do ret (← _codecs.encodeRoad "str.encode" (.str x t) x (PySem.Str.ofString "ascii") none)) := by kernel_rfl
theorem droad_ascii {id : String} {b : Array UInt8} : _codecs.decodeRoad id b (PySem.Str.ofString "ascii") none [] = (_codecs.runDecoder id _codecs.asciiDecoder none true b 0 [] >>= fun r => mkStr ⟨r.1⟩) := by kernel_rfl
theorem dec_tree {c : UInt8} {cs : List UInt8} {t u : Tok} : «bytes.decode» ⟨[.bytes (c :: cs).toArray t, .str (PySem.Str.ofString "ascii") u], []⟩ = (mkStr (PySem.Str.ofString "utf-8") >>= fun _ => mkStr (PySem.Str.ofString "ascii") >>= fun e => mkStr (PySem.Str.ofString "bytes.decode") >>= fun d =>
    call (.builtin "_codecs.decode.text") [.bytes (c :: cs).toArray t, e, .none, d] >>= fun v => ret v) := by kernel_rfl
theorem args_dec2 (a b : Value) : argsOk "bytes.decode" ⟨[a, b], []⟩ := by unfold argsOk; kernel_rfl
theorem fold_octets : ∀ (l : List Nat) (acc : Array UInt8), l.foldl (fun acc y => acc ++ ((fun c : Nat => [c.toUInt8]) y).toArray) acc = acc ++ (l.map (·.toUInt8)).toArray
  | [], acc => by simp
  | y :: l, acc => by rw [List.foldl_cons, fold_octets l]; simp
section
variable {Mo : Model} {A : Around} {E : Value → Shared → Prop} {s : Shared}
theorem narrow_c {Q : Array UInt8 → Shared → Prop} {x : PySem.Str} {self : Value} {id : String} (hx : ∀ c ∈ x.cps.toList, c < 128) (hz : x.length ≤ 1000000) (h : Q (x.cps.map (·.toUInt8)) s) : wpAny Mo A (_codecs.encodeNarrow id _codecs.asciiCodec none self x) Q E s := by
  unfold _codecs.encodeNarrow
  dsimp only
  refine wpAny_bind ?_
  rw [Std.Legacy.Range.forIn_eq_forIn_range']
  simp only [Std.Legacy.Range.size, Nat.sub_zero, Nat.add_sub_cancel, Nat.div_one]
  have hbad : ∀ c ∈ x.cps.toList, _codecs.asciiCodec.bad c = false := fun c hc => by
    show decide (c ≥ 128) = false
    exact decide_eq_false (by have := hx c hc; omega)
  refine wpAny_forIn_list _ (fun rest b s' => s' = s ∧ ((rest.length = x.length ∧ b.1 = 0 ∧ b.2.1 = #[]) ∨ (b.1 = x.length ∧ b.2.1 = x.cps.map (·.toUInt8)))) _ ?_ ?_ _ _ ⟨rfl, .inl ⟨by simp, rfl, rfl⟩⟩
  · rintro i rest b s' ⟨rfl, hb⟩
    have hsz : ¬ b.snd.fst.size > sizeLine := by
      rw [sizeLine_eq]
      rcases hb with ⟨_, _, e⟩ | ⟨_, e⟩ <;> rw [e]
      · simp
      · rw [Array.size_map]; have : x.cps.size = x.length := rfl; omega
    rw [if_neg hsz]
    rcases hb with ⟨e0, e1, e2⟩ | ⟨e1, e2⟩
    · rw [e1, e2]
      have hpos : 0 < x.cps.size := by have : x.cps.size = x.length := rfl; rw [List.length_cons] at e0; omega
      rw [Array.getElem?_eq_getElem hpos]
      dsimp only
      rw [if_pos (by rw [hbad _ (by simp)]; rfl)]
      refine wpAny_pure ⟨rfl, .inr ?_⟩
      have hnone : Array.findIdx? _codecs.asciiCodec.bad (x.cps.extract 0) = none := by
        rw [Array.findIdx?_eq_none_iff]
        intro c hc
        rw [hbad c (by simpa using hc)]
      rw [hnone]
      refine ⟨by simp [PySem.Str.length], ?_⟩
      rw [Option.getD_none, ← Array.foldl_toList]
      have := fold_octets (((x.cps.extract 0).extract 0 (x.cps.extract 0).size)).toList #[]
      refine this.trans ?_
      simp only [Array.empty_append, Array.toList_extract]
      apply Array.toList_inj.mp
      simp
      exact List.take_of_length_le (by simp)
    · rw [e1, show x.cps[x.length]? = none from Array.getElem?_eq_none (Nat.le_refl _)]
      exact wpAny_pure (wpAny_pure (by rw [e2]; exact h))
  · rintro b s' ⟨rfl, hb⟩
    refine wpAny_pure ?_
    rcases hb with ⟨e0, e1, e2⟩ | ⟨e1, e2⟩
    · have : x.cps = #[] := Array.eq_empty_of_size_eq_zero e0.symm
      rw [e2]
      rw [this, Array.map_empty] at h
      exact h
    · rw [e2]; exact h
theorem run_c {Q : Array Nat × Nat → Shared → Prop} {b : Array UInt8} {id : String} (hx : ∀ c ∈ b.toList, c.toNat < 128) (hz : b.size ≤ 1000000) (h : Q (b.map (·.toNat), b.size) s) : wpAny Mo A (_codecs.runDecoder id _codecs.asciiDecoder none true b 0 []) Q E s := by
  unfold _codecs.runDecoder
  dsimp only
  refine wpAny_bind ?_
  rw [Std.Legacy.Range.forIn_eq_forIn_range']
  simp only [Std.Legacy.Range.size, Nat.sub_zero, Nat.add_sub_cancel, Nat.div_one]
  refine wpAny_forIn_list _ (fun rest q s' => s' = s ∧ ∃ i, rest.length = b.size - i ∧ i ≤ b.size ∧ q.1 = i ∧ q.2.1 = (b.extract 0 i).map (·.toNat)) _ ?_ ?_ _ _ ⟨rfl, 0, by simp, Nat.zero_le _, rfl, by simp⟩
  · rintro j rest q s' ⟨rfl, i, hr, hi, e1, e2⟩
    rw [List.length_cons] at hr
    have hlt : i < b.size := by omega
    have hsz : ¬ q.2.1.size > sizeLine := by
      rw [sizeLine_eq, e2, Array.size_map, Array.size_extract]; omega
    rw [if_neg hsz, e1, if_neg (by omega)]
    have hc : (b.getD i 0).toNat < 128 := by
      rw [Array.getD_eq_getD_getElem?, Array.getElem?_eq_getElem hlt]
      exact hx _ (by simp)
    have hfind : _codecs.asciiDecoder.find true b i = .char (b.getD i 0).toNat (i + 1) := by
      show (if (b.getD i 0).toNat < 128 then _ else _) = _
      rw [if_pos hc]
    rw [hfind]
    refine wpAny_pure ⟨rfl, i + 1, by omega, by omega, rfl, ?_⟩
    rw [e2]
    have : b.extract 0 (i + 1) = (b.extract 0 i).push (b.getD i 0) := by
      rw [Array.getD_eq_getD_getElem?, Array.getElem?_eq_getElem hlt, Option.getD_some]
      apply Array.toList_inj.mp
      simp [List.take_add_one, hlt]
    rw [this, Array.map_push]
    simp
  · rintro q s' ⟨rfl, i, hr, hi, e1, e2⟩
    refine wpAny_pure ?_
    have : i = b.size := by rw [List.length_nil] at hr; omega
    subst this
    rw [e1, e2, Array.extract_size]
    exact h
end
section
variable {prog : Program} {w : World} {A : Around} {E : Value → Shared → Prop} {s : Shared} {Q : Value → Shared → Prop}
theorem encode_c {x : PySem.Str} {t u : Tok} (hx : ∀ c ∈ x.cps.toList, c < 128) (hz : x.length ≤ 1000000) (h : ∀ t' k, Q (.bytes (x.cps.map (·.toUInt8)) t') { s with toks := k }) :
    wpAny (model prog w) A (call (.builtin "str.encode") [.str x t, .str (PySem.Str.ofString "ascii") u]) Q E s := by
  refine wpAny_call (codeAny_call_builtin F.slot_str_encode.plain F.entry_str_encode (F.slot_str_encode.check _ _ _ _ _ _ _ _ (typeIs_str _ _ _) (F.args_str_encode_2 _ _) ?_))
  rw [enc_tree, road_ascii]
  refine wpAny_bind (wpAny_bind (narrow_c hx hz (wpAny_mkBytes (wpAny_pure (h _ _)) ?_)))
  rw [Array.size_map, sizeLine_eq]
  have : x.cps.size = x.length := rfl
  omega
theorem meets_text2 {b : Array UInt8} {t t1 t2 : Tok} {d : PySem.Str} (hx : ∀ c ∈ b.toList, c.toNat < 128) (hz : b.size ≤ 1000000) :
    Meets («_codecs.decode.text» ⟨[.bytes b t, .str (PySem.Str.ofString "ascii") t1, .none, .str d t2], []⟩) (fun _ R s => R (.ok (.ret (.str ⟨b.map (·.toNat)⟩ s.toks))) { s with toks := s.toks + 1 }) := by
  refine .of_wp fun prog w A R s h => ?_
  show wpAny _ _ (Bytes.bytesLike _ (.bytes b t) >>= fun r => _) _ _ s
  refine wpAny_bind (wpAny_of_eq PySem.W.KBd.like_eq ?_)
  refine wpAny_bind (wpAny_of_eq PySem.W.KBd.held_eq ?_)
  show wpAny _ _ (_codecs.decodeRoad _ b (PySem.Str.ofString "ascii") none [] >>= fun v => _) _ _ s
  rw [droad_ascii]
  refine wpAny_bind (wpAny_bind (run_c hx hz ?_))
  refine wpAny_mkStr (wpAny_pure ⟨_, rfl, h⟩) ?_
  show (b.map (·.toNat)).size ≤ _
  rw [Array.size_map, sizeLine_eq]; omega
theorem decode_c {b : Array UInt8} {t u : Tok} (hx : ∀ c ∈ b.toList, c.toNat < 128) (hz : b.size ≤ 1000000) (hp : 0 < b.size) (h : ∀ t' k, Q (.str ⟨b.map (·.toNat)⟩ t') { s with toks := k }) :
    wpAny (model prog w) A (call (.builtin "bytes.decode") [.bytes b t, .str (PySem.Str.ofString "ascii") u]) Q E s := by
  obtain ⟨l⟩ := b
  rcases l with _ | ⟨c, cs⟩
  · simp at hp
  refine wpAny_call (codeAny_call_builtin PySem.W.FB.slot_bytes_decode.plain PySem.W.FB.entry_bytes_decode (PySem.W.FB.slot_bytes_decode.check _ _ _ _ _ _ _ _ (PySem.W.typeIs_bytes _ _ _) (args_dec2 _ _) ?_))
  rw [dec_tree]
  refine wpAny_bind (wpAny_mkStr ?_ (by decide))
  refine wpAny_bind (wpAny_mkStr ?_ (by decide))
  refine wpAny_bind (wpAny_mkStr ?_ (by decide))
  exact wpAny_bind (call_function_meets PySem.W.KBd.kind_text PySem.W.KBd.plain_text PySem.W.KBd.entry_text (PySem.W.KBd.args_text _ _ _ _) (meets_text2 hx hz) (wpAny_pure (h _ _)))
end
end Mine
end
/-! part Pt -/
section
open PySem PySem.W PyProof.Rows PySem.Calls
set_option Elab.async false
namespace Mine
set_option maxRecDepth 100000
theorem pat_80 {w : World} {h : Heap} (X : (hd.heap_39 w.params).In h) : (∃ o, h.get? 80 = some o ∧ o.cls = .type "re.Pattern" ∧ o.dict = none) ∧ IsPat h 80 DC 0 := by
  have h1 := X 80 _ rfl
  have h2 := X 79 _ rfl
  exact ⟨⟨_, h1, rfl, rfl⟩, ⟨_, _, _, _, _, _, _, h1, rfl, rfl, rfl, rfl, h2, rfl, by decide +kernel⟩⟩
theorem pat_85 {w : World} {h : Heap} (X : (hd.heap_39 w.params).In h) : (∃ o, h.get? 85 = some o ∧ o.cls = .type "re.Pattern" ∧ o.dict = none) ∧ IsPat h 85 DC 1 := by
  have h1 := X 85 _ rfl
  have h2 := X 84 _ rfl
  exact ⟨⟨_, h1, rfl, rfl⟩, ⟨_, _, _, _, _, _, _, h1, rfl, rfl, rfl, rfl, h2, rfl, by decide +kernel⟩⟩
theorem pat_90 {w : World} {h : Heap} (X : (hd.heap_39 w.params).In h) : (∃ o, h.get? 90 = some o ∧ o.cls = .type "re.Pattern" ∧ o.dict = none) ∧ IsPat h 90 EC 0 := by
  have h1 := X 90 _ rfl
  have h2 := X 89 _ rfl
  exact ⟨⟨_, h1, rfl, rfl⟩, ⟨_, _, _, _, _, _, _, h1, rfl, rfl, rfl, rfl, h2, rfl, by decide +kernel⟩⟩
section
variable {prog : Program} {w : World} {A : Around} {E : Value → Shared → Prop} {s : Shared} {h₀ : Heap} {L : Addr} {m : PySem.Str → Option Value} {news : List (Addr × Obj)}
def patAddr (n : Nat) : Prop := n = 80 ∨ n = 85 ∨ n = 90
theorem pat_all {n : Nat} {h : Heap} (hn : patAddr n) (X : (hd.heap_39 w.params).In h) : ∃ o, h.get? n = some o ∧ o.cls = .type "re.Pattern" ∧ o.dict = none := by
  rcases hn with rfl | rfl | rfl
  · exact (pat_80 X).1
  · exact (pat_85 X).1
  · exact (pat_90 X).1
theorem pat_type {n : Nat} (hn : patAddr n) (X : (hd.heap_39 w.params).In h₀) (F : Fr h₀ L s.heap m) : s.TypeIs (.ref n) "re.Pattern" := by
  obtain ⟨o, h1, h2, h3⟩ := pat_all hn X
  exact ⟨o, F.keep _ _ h1, h2⟩
theorem pat_method {M : Model} {n : Nat} {pl : Sem Bool} {Q : Value × List Value → Shared → Prop} (hn : patAddr n) (X : (hd.heap_39 w.params).In h₀) (F : Fr h₀ L s.heap m) (h : Q (.builtin "re.Pattern.sub", [.ref n]) s) :
    wpAny M A (getMethod (.ref n) (Str.ofString "sub") pl) Q E s := by
  refine getMethod_builtin (pat_type hn X F) plainAttrs_pat slot_sub type_sub (fun a e => ?_) h
  cases e
  obtain ⟨o, h1, h2, h3⟩ := pat_all hn X
  exact ⟨o, F.keep _ _ h1, h3⟩
variable {Q : Value → Shared → Prop} {t u : Tok}
theorem s80 {x : Str} (X : (hd.heap_39 w.params).In h₀) (F : Fr h₀ L s.heap m) (N : News h₀ L s.heap news) (hz : x.cps.size ≤ 100000)
    (hQ : ∀ t' h' tk, Fr h₀ L h' m → News h₀ L h' news → Q (.str ⟨(qT true x.cps.toList).toArray⟩ t') { s with heap := h', toks := tk }) :
    wpAny (model prog w) A (call (.builtin "re.Pattern.sub") [.ref 80, .str (Str.ofString "..") u, .str x t]) Q E s :=
  sub_dots F N (pat_type (.inl rfl) X F) (pat_80 X).2 hz hQ
theorem s85 {x : Array UInt8} (X : (hd.heap_39 w.params).In h₀) (F : Fr h₀ L s.heap m) (N : News h₀ L s.heap news) (hz : x.size ≤ 100000)
    (hQ : ∀ t' h' tk, Fr h₀ L h' m → News h₀ L h' news → Q (.bytes ((qT true (x.map (·.toNat)).toList).map (·.toUInt8)).toArray t') { s with heap := h', toks := tk }) :
    wpAny (model prog w) A (call (.builtin "re.Pattern.sub") [.ref 85, .bytes #[46, 46] u, .bytes x t]) Q E s :=
  sub_octets F N (pat_type (.inr (.inl rfl)) X F) (pat_85 X).2 hz hQ
theorem s90 {x : Str} (X : (hd.heap_39 w.params).In h₀) (F : Fr h₀ L s.heap m) (N : News h₀ L s.heap news) (hz : x.cps.size ≤ 100000)
    (hQ : ∀ t' h' tk, Fr h₀ L h' m → News h₀ L h' news → Q (.str ⟨(fT x.cps.toList).toArray⟩ t') { s with heap := h', toks := tk }) :
    wpAny (model prog w) A (call (.builtin "re.Pattern.sub") [.ref 90, .str (Str.ofString "\u000d\n") u, .str x t]) Q E s :=
  sub_eols F N (pat_type (.inr (.inr rfl)) X F) (pat_90 X).2 hz hQ
theorem str_encode_m {M : Model} {x : Str} {pl : Sem Bool} {Q : Value × List Value → Shared → Prop} (h : Q (.builtin "str.encode", [.str x t]) s) : wpAny M A (getMethod (.str x t) (Str.ofString "encode") pl) Q E s :=
  getMethod_builtin (typeIs_str _ _ _) F.plainAttrs_str F.slot_str_encode F.type_str_encode (fun _ e => nomatch e) h
end
end Mine
end
theorem Mine.topOffWr : True := by
  w_top off
  trivial
/-! part Wr -/
section
open PySem PySem.W PyProof.Rows PySem.Calls
set_option Elab.async false
namespace Mine
def wT (d : Int) (l : List Nat) : List Nat := if d = 1 then qT true l else if d = 2 then qT true (fT l) else fT l
theorem qT_len : ∀ (l : List Nat) (b : Bool), (qT b l).length ≤ 2 * l.length
  | [], b => by cases b <;> simp [qT]
  | x :: l, b => by
    rw [qT]
    split
    · have := qT_len l false
      simp only [List.length_cons]; omega
    · have := qT_len l (x == 10)
      simp only [List.length_cons]; omega
theorem qT_ge : ∀ (l : List Nat) (b : Bool), l.length ≤ (qT b l).length
  | [], b => by cases b <;> simp [qT]
  | x :: l, b => by
    rw [qT]
    split
    · have := qT_ge l false
      simp only [List.length_cons]; omega
    · have := qT_ge l (x == 10)
      simp only [List.length_cons]; omega
theorem qT_in : ∀ (l : List Nat) (b : Bool) (c : Nat), c ∈ qT b l → c ∈ l
  | [], b, c, h => by cases b <;> simp [qT] at h
  | x :: l, b, c, h => by
    rw [qT] at h
    split at h
    · rename_i hb
      rcases List.mem_cons.mp h with e | h
      · rw [e, ← hb.2]; exact .head _
      rcases List.mem_cons.mp h with e | h
      · rw [e, ← hb.2]; exact .head _
      exact .tail _ (qT_in l _ c h)
    · rcases List.mem_cons.mp h with e | h
      · rw [e]; exact .head _
      exact .tail _ (qT_in l _ c h)
theorem fT_ind {P : List Nat → Prop} (h0 : P []) (h2 : ∀ l, P l → P (13 :: 10 :: l)) (h13 : ∀ l, (∀ ys, l ≠ 10 :: ys) → P l → P (13 :: l)) (h10 : ∀ l, P l → P (10 :: l)) (hx : ∀ x l, x ≠ 10 → x ≠ 13 → P l → P (x :: l)) : ∀ n (l : List Nat), l.length ≤ n → P l
  | _, [], _ => h0
  | n + 1, x :: l, h => by
    have hl : l.length ≤ n := Nat.le_of_succ_le_succ h
    by_cases e1 : x = 10
    · subst e1; exact h10 _ (fT_ind h0 h2 h13 h10 hx n l hl)
    by_cases e2 : x = 13
    · subst e2
      rcases l with _ | ⟨y, l⟩
      · exact h13 _ (fun _ e => by cases e) h0
      · by_cases e3 : y = 10
        · subst e3; exact h2 _ (fT_ind h0 h2 h13 h10 hx n l (by rw [List.length_cons] at hl; omega))
        · exact h13 _ (fun _ e => by injection e with e _; exact e3 e) (fT_ind h0 h2 h13 h10 hx n _ hl)
    · exact hx _ _ e1 e2 (fT_ind h0 h2 h13 h10 hx n l hl)
theorem fT_rec {P : List Nat → Prop} (l : List Nat) (h0 : P []) (h2 : ∀ l, P l → P (13 :: 10 :: l)) (h13 : ∀ l, (∀ ys, l ≠ 10 :: ys) → P l → P (13 :: l)) (h10 : ∀ l, P l → P (10 :: l)) (hx : ∀ x l, x ≠ 10 → x ≠ 13 → P l → P (x :: l)) : P l :=
  fT_ind h0 h2 h13 h10 hx l.length l (Nat.le_refl _)
theorem fT_len (l : List Nat) : (fT l).length ≤ 2 * l.length := by
  refine fT_rec (P := fun l => (fT l).length ≤ 2 * l.length) l (by simp [fT]) ?_ ?_ ?_ ?_
  · intro l h; rw [fT_two]; simp only [List.length_cons]; omega
  · intro l hl h; rw [fT_13 _ hl]; simp only [List.length_cons]; omega
  · intro l h; rw [fT_10]; simp only [List.length_cons]; omega
  · intro x l a b h; rw [fT_else _ _ a b]; simp only [List.length_cons]; omega
theorem fT_ge (l : List Nat) : l.length ≤ (fT l).length := by
  refine fT_rec (P := fun l => l.length ≤ (fT l).length) l (by simp [fT]) ?_ ?_ ?_ ?_
  · intro l h; rw [fT_two]; simp only [List.length_cons]; omega
  · intro l hl h; rw [fT_13 _ hl]; simp only [List.length_cons]; omega
  · intro l h; rw [fT_10]; simp only [List.length_cons]; omega
  · intro x l a b h; rw [fT_else _ _ a b]; simp only [List.length_cons]; omega
theorem fT_in (l : List Nat) : ∀ c, c ∈ fT l → c ∈ l ∨ c = 13 ∨ c = 10 := by
  refine fT_rec (P := fun l => ∀ c, c ∈ fT l → c ∈ l ∨ c = 13 ∨ c = 10) l (by simp [fT]) ?_ ?_ ?_ ?_
  · intro l h c hc; rw [fT_two] at hc; simp only [List.mem_cons] at hc ⊢; rcases hc with e | e | e
    · exact .inr (.inl e)
    · exact .inr (.inr e)
    · rcases h c e with e | e
      · exact .inl (.inr (.inr e))
      · exact .inr e
  · intro l hl h c hc; rw [fT_13 _ hl] at hc; simp only [List.mem_cons] at hc ⊢; rcases hc with e | e | e
    · exact .inr (.inl e)
    · exact .inr (.inr e)
    · rcases h c e with e | e
      · exact .inl (.inr e)
      · exact .inr e
  · intro l h c hc; rw [fT_10] at hc; simp only [List.mem_cons] at hc ⊢; rcases hc with e | e | e
    · exact .inr (.inl e)
    · exact .inr (.inr e)
    · rcases h c e with e | e
      · exact .inl (.inr e)
      · exact .inr e
  · intro x l a b h c hc; rw [fT_else _ _ a b] at hc; simp only [List.mem_cons] at hc ⊢; rcases hc with e | e
    · exact .inl (.inl e)
    · rcases h c e with e | e
      · exact .inl (.inr e)
      · exact .inr e
theorem small_f {x : Str} (h : x.length ≤ 40000) : (⟨(fT x.cps.toList).toArray⟩ : Str).cps.size ≤ 100000 := by
  show (fT x.cps.toList).toArray.size ≤ _
  rw [List.size_toArray]
  have h1 := fT_len x.cps.toList
  have h2 : x.cps.toList.length = x.length := Array.length_toList
  omega
theorem small_x {x : Str} (h : x.length ≤ 40000) : x.cps.size ≤ 100000 := by
  have : x.cps.size = x.length := rfl
  omega
theorem small_b {x : Str} (h : x.length ≤ 40000) : (x.cps.map (·.toUInt8)).size ≤ 100000 := by
  rw [Array.size_map]; exact small_x h
theorem back_str {x : Str} (hx : ∀ c ∈ x.cps.toList, c < 128) : ((x.cps.map (·.toUInt8)).map (·.toNat)) = x.cps := by
  apply Array.toList_inj.mp
  rw [Array.map_map, Array.toList_map]
  conv => rhs; rw [← List.map_id x.cps.toList]
  refine List.map_congr_left fun c hc => ?_
  show (UInt8.ofNat c).toNat = c
  rw [UInt8.toNat_ofNat']
  have := hx c hc
  omega
theorem back_list {l : List Nat} (hx : ∀ c ∈ l, c < 128) : (((l.map (·.toUInt8)).toArray).map (·.toNat)) = l.toArray := by
  apply Array.toList_inj.mp
  rw [Array.toList_map]
  show List.map _ (List.map _ l) = l
  rw [List.map_map]
  conv => rhs; rw [← List.map_id l]
  refine List.map_congr_left fun c hc => ?_
  show (UInt8.ofNat c).toNat = c
  rw [UInt8.toNat_ofNat']
  have := hx c hc
  omega
section
variable {prog : Program} {w : World} {A : Around} {E : Value → Shared → Prop} {s : Shared} {h₀ : Heap} {L : Addr} {m : PySem.Str → Option Value} {news : List (Addr × Obj)} {Q : Value → Shared → Prop} {t u : Tok}
theorem s85x {x : Str} (X : (hd.heap_39 w.params).In h₀) (F : Fr h₀ L s.heap m) (N : News h₀ L s.heap news) (hx : ∀ c ∈ x.cps.toList, c < 128) (hz : x.length ≤ 40000)
    (hQ : ∀ t' h' tk, Fr h₀ L h' m → News h₀ L h' news → Q (.bytes ((qT true x.cps.toList).map (·.toUInt8)).toArray t') { s with heap := h', toks := tk }) :
    wpAny (model prog w) A (call (.builtin "re.Pattern.sub") [.ref 85, .bytes #[46, 46] u, .bytes (x.cps.map (·.toUInt8)) t]) Q E s := by
  refine s85 X F N (small_b hz) ?_
  rw [back_str hx]; exact hQ
theorem dec_x {x : Str} (hx : ∀ c ∈ x.cps.toList, c < 128) (hz : x.length ≤ 40000) (hp : 0 < x.length) (h : ∀ t' k, Q (.str ⟨(qT true x.cps.toList).toArray⟩ t') { s with toks := k }) :
    wpAny (model prog w) A (call (.builtin "bytes.decode") [.bytes ((qT true x.cps.toList).map (·.toUInt8)).toArray t, .str (Str.ofString "ascii") u]) Q E s := by
  have hx' : ∀ c ∈ qT true x.cps.toList, c < 128 := fun c hc => hx c (qT_in _ _ c hc)
  have h1 := qT_len x.cps.toList true
  have h2 : x.cps.toList.length = x.length := Array.length_toList
  have h3 := qT_ge x.cps.toList true
  have e := back_list hx'
  refine decode_c ?_ ?_ ?_ ?_
  · intro c hc
    have hc' : c ∈ (qT true x.cps.toList).map (·.toUInt8) := hc
    obtain ⟨d, hd, rfl⟩ := List.mem_map.mp hc'
    show (UInt8.ofNat d).toNat < 128
    rw [UInt8.toNat_ofNat']
    have := hx' d hd
    omega
  · rw [List.size_toArray, List.length_map]; omega
  · rw [List.size_toArray, List.length_map]; omega
  · rw [e]; exact h
end
local macro_rules | `(tactic| walk_at "no such step") => `(tactic| skip)
local macro_rules | `(tactic| walk_at "getMethod ref") => `(tactic| (k_here; k_dflt (refine pat_method (by first | exact Or.inl rfl | exact Or.inr (Or.inl rfl) | exact Or.inr (Or.inr rfl)) (by k_asm) (by k_asm) ?_)))
local macro_rules | `(tactic| walk_at "getMethod str") => `(tactic| (k_here; refine str_encode_m ?_))
local macro_rules | `(tactic| walk_at "call builtin:str.encode") => `(tactic| (k_here; (refine encode_c (by assumption) (by omega) ?_); intro _ _))
local macro_rules | `(tactic| walk_at "call builtin:bytes.decode") => `(tactic| (k_here; (refine dec_x (by assumption) (by assumption) (by assumption) ?_); intro _ _))
local macro_rules | `(tactic| walk_at "call builtin:re.Pattern.sub") => `(tactic| (k_here; k_dflt (first
  | refine s90 (by k_asm) (by k_asm) (by k_asm) (small_x (by assumption)) ?_
  | refine s80 (by k_asm) (by k_asm) (by k_asm) (small_f (by assumption)) ?_
  | refine s85x (by k_asm) (by k_asm) (by k_asm) (by assumption) (by assumption) ?_); intro _ _ _ _ _))
theorem wT_1 {d : Int} {l : List Nat} (h : d = 1) : wT d l = qT true l := by rw [wT, if_pos h]
theorem wT_2 {d : Int} {l : List Nat} (h : d = 2) : wT d l = qT true (fT l) := by rw [wT, if_neg (by omega), if_pos h]
theorem wT_0 {d : Int} {l : List Nat} (h1 : ¬ d = 1) (h2 : ¬ d = 2) : wT d l = fT l := by rw [wT, if_neg h1, if_neg h2]
set_option maxRecDepth 100000 in
set_option maxHeartbeats 8000000 in
theorem written_c {w : World} {mean : ExcName → Option Value} {mg mb : Str → Option Value} {cn : Str} {cs : Scope} {a : Addr} {ccd : Value} {cl : List (Str × Addr)} {h₀ : Heap} {L : Addr} {m : Str → Option Value} {s : Shared} {Q E : Value → Shared → Prop} {news : List (Addr × Obj)}
   {x : Str} {tx : Tok} {d : Int} {td : Tok}
    (B : Below callerA h₀ [] h₀) (F : Fr h₀ L s.heap m) (X : (hd.heap_39 w.params).In h₀) (N : News h₀ L s.heap news) (T : Top hd.view_39 LL mean mg mb h₀) (hk : cs.kind = .function)
    (hlen : x.length ≤ 40000) (hpos : 0 < x.length) (hx : ∀ c ∈ x.cps.toList, c < 128)
    (hret : ∀ t h' tk', Fr h₀ L h' m → News h₀ L h' news → Q (.str ⟨(wT d x.cps.toList).toArray⟩ t) { s with heap := h', toks := tk' }) :
    wpAny (model Challenge.rw_pg0029_01.row.prog w) (callerA.deeper (envX cn cs L a ccd cl)) (call (.ref 125) [.int d td, .str x tx]) Q E s := by
  revert X; k_fill; intro X
  refine wpAny_call ?_
  k_dflt cell_enter
  k_steps
  all_goals (
    (first | rw [wT_1 (by assumption)] at hret | rw [wT_2 (by assumption)] at hret | rw [wT_0 (by assumption) (by assumption)] at hret | fail "wT")
    exact hret _ _ _ (by k_asm) (by k_asm))
end Mine
end
/-! part Lo -/
section
open PySem PySem.W PyProof.Rows PySem.Calls PySem.Spec
set_option Elab.async false
set_option maxRecDepth 100000
namespace Mine
section
variable {prog : Program} {w : World} {A : Around} {s : Shared} {env : Env} {h₀ : Heap} {L I : Addr}
def TurnPost {β : Type} (h₀ : Heap) (L I : Addr) (oI : Obj) (base : β → List (Addr × Obj)) (J : β → (Str → Option Value) → Prop) (s : Shared) (R : Result → Shared → Prop) (f : Flow) (s₃ : Shared) : Prop :=
  match f with
  | .brk => R (.ok .next) s₃
  | .ret v => R (.ok (.ret v)) s₃
  | _ => ∃ h' tk' m' x' news', s₃ = { s with heap := h', toks := tk' } ∧ Fr h₀ L h' m' ∧ News h₀ L h' news' ∧ (∀ p ∈ (I, oI) :: base x', p ∈ news') ∧ J x' m'
theorem TurnPost.intro {β : Type} {oI : Obj} {base : β → List (Addr × Obj)} {J : β → (Str → Option Value) → Prop} {R : Result → Shared → Prop} {h' : Heap} {tk' : Nat} {m' : Str → Option Value} {news' : List (Addr × Obj)} (x' : β)
    (F : Fr h₀ L h' m') (N : News h₀ L h' news') (hs : ∀ p ∈ (I, oI) :: base x', p ∈ news') (hj : J x' m') : TurnPost h₀ L I oI base J s R .next { s with heap := h', toks := tk' } :=
  ⟨h', tk', m', x', news', rfl, F, N, hs, hj⟩
theorem loop_C {β : Type} {target : PySem.Expr} {body : List Stmt} {R : Result → Shared → Prop} {fp : List Addr} {n : Nat} {P : Nat → Value → Prop} {St : Nat → Heap → Prop}
    (W : Walks prog w A I fp [I] n P St) (base : β → List (Addr × Obj)) (J : Nat → β → (Str → Option Value) → Prop)
    (hfp : ∀ b ∈ fp, b = I ∨ ∃ o, ∀ x, (b, o) ∈ base x) (hoff : ∀ x, ∀ p ∈ base x, p.1 ≠ I)
    (hlook : ∀ i h, St i h → ∃ o, h.get? I = some o) (hIL : I ≠ L) (hI0 : h₀.get? I = none)
    (turn : ∀ i x v m h tk oI, i < n → P i v → J i x m → Fr h₀ L h m → News h₀ L h ((I, oI) :: base x) → 
      wpAny (model prog w) A (assign target env v) (fun _ s₂ => wpC (model prog w) A (execs body env) (TurnPost h₀ L I oI base (J (i + 1)) { s with heap := h, toks := tk } R) (fun _ _ => False) s₂) (fun _ _ => False) { s with heap := h, toks := tk })
    (done : ∀ x m h tk, J n x m → Fr h₀ L h m → News h₀ L h (base x) → R (.ok .next) { s with heap := h, toks := tk })
    {x₀ : β} {m₀ : Str → Option Value} (hj : J 0 x₀ m₀) (F : Fr h₀ L s.heap m₀) (N : News h₀ L s.heap (base x₀)) (hst : St 0 s.heap)
    (ht : ∀ v, letOwnedTupleGo target (.ref I) v = pure () := by intro _; rfl) : codeC (model prog w) A (.forLoop target (.ref I) body [] env) R s := by
  refine codeC_for n (fun i s' => ∃ x m h tk, s' = { s with heap := h, toks := tk } ∧ Fr h₀ L h m ∧ News h₀ L h (base x) ∧ St i h ∧ J i x m) ?_ ?_ ht n 0 s (by omega) ⟨x₀, m₀, s.heap, s.toks, rfl, F, N, hst, hj⟩
  · rintro i s' hi ⟨x, m, h, tk, rfl, F, N, hst, hj⟩
    refine W.item i _ _ _ hi hst fun v h' tk' hP hst' hs => ⟨v, rfl, ?_⟩
    have hs' : ∀ b o, b ≠ I → h.get? b = some o → h'.get? b = some o := fun b o hb e => hs b o (fun q => hb (List.mem_singleton.mp q)) e
    have F' : Fr h₀ L h' m := ⟨F.ns.at' fun o e => hs' L o (Ne.symm hIL) e, fun b o e => hs' b o (fun q => by rw [q, hI0] at e; cases e) (F.keep b o e), F.above⟩
    obtain ⟨oI, hoI⟩ := hlook _ _ hst'
    have N' : News h₀ L h' ((I, oI) :: base x) := by
      intro p hp
      rcases List.mem_cons.mp hp with rfl | hp
      · exact ⟨hoI, hIL, hI0⟩
      · exact ⟨hs' _ _ (hoff x p hp) (N p hp).1, (N p hp).2⟩
    refine wpAny_mono (turn i x v m h' tk' oI hi hP hj F' N') (fun _ s₂ h₂ => wpC_mono h₂ (fun f s₃ h₃ => ?_) fun _ _ q => q) fun _ _ q => q
    have fin : TurnPost h₀ L I oI base (J (i + 1)) { s with heap := h', toks := tk' } R .next s₃ → ∃ x m h tk, s₃ = { s with heap := h, toks := tk } ∧ Fr h₀ L h m ∧ News h₀ L h (base x) ∧ St (i + 1) h ∧ J (i + 1) x m := by
      rintro ⟨h2, tk2, m2, x2, news2, e, F2, N2, hsub, hj2⟩
      refine ⟨x2, m2, h2, tk2, e, F2, fun p hp => N2 p (hsub p (.tail _ hp)), W.frame (i + 1) h' h2 hst' (fun b hb o ho => ?_), hj2⟩
      rcases hfp b hb with rfl | ⟨o', ho'⟩
      · have := (N2 _ (hsub _ (.head _))).1
        rw [hoI] at ho
        cases ho
        exact this
      · have h1 := (N' _ (.tail _ (ho' x))).1
        have h2' := (N2 _ (hsub _ (.tail _ (ho' x2)))).1
        have : o = o' := Option.some.inj (ho.symm.trans h1)
        rw [this]; exact h2'
    cases f with
    | next => exact fin h₃
    | cont => exact fin h₃
    | brk => exact h₃
    | ret v => exact h₃
  · rintro s' ⟨x, m, h, tk, rfl, F, N, hst, hj⟩
    refine W.done _ _ _ hst fun h' tk' hs => ⟨rfl, ?_⟩
    have hs' : ∀ b o, b ≠ I → h.get? b = some o → h'.get? b = some o := fun b o hb e => hs b o (fun q => hb (List.mem_singleton.mp q)) e
    exact done x m h' tk' hj ⟨F.ns.at' fun o e => hs' L o (Ne.symm hIL) e, fun b o e => hs' b o (fun q => by rw [q, hI0] at e; cases e) (F.keep b o e), F.above⟩
      fun p hp => ⟨hs' _ _ (hoff x p hp) (N p hp).1, (N p hp).2⟩

/-- over a list of the ledger -/
theorem iter_listC {β : Type} {target : PySem.Expr} {body : List Stmt} {Q : Flow → Shared → Prop} {E : Value → Shared → Prop} {l : Addr} {vs : List Value} {c : Nat}
    (base : β → List (Addr × Obj)) (J : Nat → β → (Str → Option Value) → Prop)
    (hh : A.handled = none) (hl : ∀ x, (l, ({ cls := .type "list", data := .seq vs.toArray c } : Obj)) ∈ base x) (hsame : ∀ x y, (base x).map (·.1) = (base y).map (·.1))
    (turn : ∀ i x v m h tk I oI, vs[i]? = some v → J i x m → (∀ p ∈ base x, p.1 ≠ I) → Fr h₀ L h m → News h₀ L h ((I, oI) :: base x) → 
      wpAny (model prog w) A (assign target env v) (fun _ s₂ => wpC (model prog w) A (execs body env) (TurnPost h₀ L I oI base (J (i + 1)) { s with heap := h, toks := tk } (fun r s' => match r with | .ok f => Q f s' | .error _ => False)) (fun _ _ => False) s₂) (fun _ _ => False) { s with heap := h, toks := tk })
    (done : ∀ x m h tk, J vs.length x m → Fr h₀ L h m → News h₀ L h (base x) → Q .next { s with heap := h, toks := tk })
    {x₀ : β} {m₀ : Str → Option Value} (hj : J 0 x₀ m₀) (F : Fr h₀ L s.heap m₀) (N : News h₀ L s.heap (base x₀))
    (ht : ∀ I v, letOwnedTupleGo target (.ref I) v = pure () := by intro _ _; rfl) :
    wpAny (model prog w) A (pyIter (.ref l)) (fun it s₂ => codeC (model prog w) A (.forLoop target it body [] env) (fun r s' => match r with | .ok f => Q f s' | .error _ => False) s₂) E s := by
  have hN := N _ (hl x₀)
  have hls : s.heap.IsList l vs.toArray := ⟨_, hN.1, rfl, _, rfl⟩
  refine wpAny_pyIter_list hls ?_
  have hlt : l < s.heap.objs.size := Heap.lt_size hN.1
  have offs : ∀ x, ∀ p ∈ base x, p.1 ≠ s.heap.objs.size := fun x p hp => by
    have : p.1 ∈ (base x₀).map (·.1) := hsame x x₀ ▸ List.mem_map_of_mem hp
    obtain ⟨q, hq, e⟩ := List.mem_map.mp this
    rw [← e]
    exact Nat.ne_of_lt (Heap.lt_size (N q hq).1)
  refine loop_C (s := { s with heap := s.heap.push { cls := .type "list_iterator", data := .fields #[.ref l, .int 0 0] } }) (n := vs.length) (Walks.list hh s.heap.objs.size l (Nat.ne_of_lt hlt) vs.toArray) base J (fun b hb => ?_) offs (fun i h st => ?_) (fun q => ?_) (Heap.get?_none_of_le ?_) (fun i x v m h tk oI hi hP hj F N => ?_) (fun x m h tk hj F N => ?_) hj (F.push _) (fun p hp => ⟨Heap.get?_push_of_some _ (N p hp).1, (N p hp).2⟩) ⟨⟨_, Heap.get?_push_size _ rfl, rfl, rfl⟩, hls.push _⟩ (ht _)
  · rcases List.mem_cons.mp hb with rfl | hb
    · exact .inl rfl
    · exact .inr ⟨_, fun x => List.mem_singleton.mp hb ▸ hl x⟩
  · obtain ⟨o, ho, _⟩ := st.1
    exact ⟨o, ho⟩
  · exact absurd F.ns.lt (q ▸ Nat.lt_irrefl _)
  · exact Nat.le_of_lt (Nat.lt_of_le_of_lt F.above F.ns.lt)
  · exact turn i x v m h tk _ oI (by simpa using hP) hj (offs x) F N
  · exact done x m h tk hj F N

/-- over a range by ones -/
theorem iter_rangeC {β : Type} {target : PySem.Expr} {body : List Stmt} {Q : Flow → Shared → Prop} {E : Value → Shared → Prop} {r : Addr} {b₀ : Int} {t₀ u₀ v₀ : Tok} {n : Nat}
    (base : β → List (Addr × Obj)) (J : Nat → β → (Str → Option Value) → Prop)
    (hh : A.handled = none) (hr : IsRange s.heap r 0 b₀ 1 t₀ u₀ v₀) (hsmall : Builtin.Range.small 0 b₀ 1 = true) (hn : Builtin.Range.rangeSize 0 b₀ 1 = (n : Int)) (hsame : ∀ x y, (base x).map (·.1) = (base y).map (·.1))
    (turn : ∀ i x t m h tk I oI, i < n → J i x m → (∀ p ∈ base x, p.1 ≠ I) → Fr h₀ L h m → News h₀ L h ((I, oI) :: base x) → 
      wpAny (model prog w) A (assign target env (.int (i : Nat) t)) (fun _ s₂ => wpC (model prog w) A (execs body env) (TurnPost h₀ L I oI base (J (i + 1)) { s with heap := h, toks := tk } (fun r s' => match r with | .ok f => Q f s' | .error _ => False)) (fun _ _ => False) s₂) (fun _ _ => False) { s with heap := h, toks := tk })
    (done : ∀ x m h tk, J n x m → Fr h₀ L h m → News h₀ L h (base x) → Q .next { s with heap := h, toks := tk })
    {x₀ : β} {m₀ : Str → Option Value} (hj : J 0 x₀ m₀) (F : Fr h₀ L s.heap m₀) (N : News h₀ L s.heap (base x₀))
    (ht : ∀ I v, letOwnedTupleGo target (.ref I) v = pure () := by intro _ _; rfl) :
    wpAny (model prog w) A (pyIter (.ref r)) (fun it s₂ => codeC (model prog w) A (.forLoop target it body [] env) (fun r s' => match r with | .ok f => Q f s' | .error _ => False) s₂) E s := by
  refine wpAny_pyIter_range hr hsmall ?_
  have offs : ∀ x, ∀ p ∈ base x, p.1 ≠ s.heap.objs.size := fun x p hp => by
    have : p.1 ∈ (base x₀).map (·.1) := hsame x x₀ ▸ List.mem_map_of_mem hp
    obtain ⟨q, hq, e⟩ := List.mem_map.mp this
    rw [← e]
    exact Nat.ne_of_lt (Heap.lt_size (N q hq).1)
  refine loop_C (s := { s with heap := s.heap.push { cls := .type "range_iterator", data := .fields #[rawInt 0, rawInt (Builtin.Range.rangeSize 0 b₀ 1), rawInt 1] } }) (n := n) (Walks.range hh s.heap.objs.size 0 1 n) base J (fun b hb => .inl (List.mem_singleton.mp hb)) offs (fun i h st => ⟨_, st⟩) (fun q => ?_) (Heap.get?_none_of_le ?_) (fun i x v m h tk oI hi hP hj F N => ?_) (fun x m h tk hj F N => ?_) hj (F.push _) (fun p hp => ⟨Heap.get?_push_of_some _ (N p hp).1, (N p hp).2⟩) (by show IsRangeIter _ _ _ _ _; rw [hn]; simpa using Heap.get?_push_size _ rfl) (ht _)
  · exact absurd F.ns.lt (q ▸ Nat.lt_irrefl _)
  · exact Nat.le_of_lt (Nat.lt_of_le_of_lt F.above F.ns.lt)
  · obtain ⟨t, rfl⟩ := hP
    have e : (0 : Int) + (i : Int) * 1 = (i : Nat) := by omega
    rw [e]
    exact turn i x t m h tk _ oI hi hj (offs x) F N
  · exact done x m h tk hj F N

/-- the same, the word told over the map at the start -/
theorem iter_listM {β : Type} {target : PySem.Expr} {body : List Stmt} {Q : Flow → Shared → Prop} {E : Value → Shared → Prop} {l : Addr} {vs : List Value} {c : Nat}
    (base : β → List (Addr × Obj)) (J : (Str → Option Value) → Nat → β → (Str → Option Value) → Prop) {x₀ : β} {m₀ : Str → Option Value} (F : Fr h₀ L s.heap m₀) (N : News h₀ L s.heap (base x₀))
    (hh : A.handled = none) (hl : ∀ x, (l, ({ cls := .type "list", data := .seq vs.toArray c } : Obj)) ∈ base x) (hsame : ∀ x y, (base x).map (·.1) = (base y).map (·.1))
    (turn : ∀ i x v m h tk I oI, vs[i]? = some v → J m₀ i x m → (∀ p ∈ base x, p.1 ≠ I) → Fr h₀ L h m → News h₀ L h ((I, oI) :: base x) → 
      wpAny (model prog w) A (assign target env v) (fun _ s₂ => wpC (model prog w) A (execs body env) (TurnPost h₀ L I oI base (J m₀ (i + 1)) { s with heap := h, toks := tk } (fun r s' => match r with | .ok f => Q f s' | .error _ => False)) (fun _ _ => False) s₂) (fun _ _ => False) { s with heap := h, toks := tk })
    (done : ∀ x m h tk, J m₀ vs.length x m → Fr h₀ L h m → News h₀ L h (base x) → Q .next { s with heap := h, toks := tk })
    (hj : J m₀ 0 x₀ m₀) (ht : ∀ I v, letOwnedTupleGo target (.ref I) v = pure () := by intro _ _; rfl) :
    wpAny (model prog w) A (pyIter (.ref l)) (fun it s₂ => codeC (model prog w) A (.forLoop target it body [] env) (fun r s' => match r with | .ok f => Q f s' | .error _ => False) s₂) E s :=
  iter_listC base (J m₀) hh hl hsame turn done hj F N ht
theorem iter_rangeM {β : Type} {target : PySem.Expr} {body : List Stmt} {Q : Flow → Shared → Prop} {E : Value → Shared → Prop} {r : Addr} {b₀ : Int} {t₀ u₀ v₀ : Tok} {n : Nat}
    (base : β → List (Addr × Obj)) (J : (Str → Option Value) → Nat → β → (Str → Option Value) → Prop) {x₀ : β} {m₀ : Str → Option Value} (F : Fr h₀ L s.heap m₀) (N : News h₀ L s.heap (base x₀))
    (hh : A.handled = none) (hr : IsRange s.heap r 0 b₀ 1 t₀ u₀ v₀) (hsmall : Builtin.Range.small 0 b₀ 1 = true) (hn : Builtin.Range.rangeSize 0 b₀ 1 = (n : Int)) (hsame : ∀ x y, (base x).map (·.1) = (base y).map (·.1))
    (turn : ∀ i x t m h tk I oI, i < n → J m₀ i x m → (∀ p ∈ base x, p.1 ≠ I) → Fr h₀ L h m → News h₀ L h ((I, oI) :: base x) → 
      wpAny (model prog w) A (assign target env (.int (i : Nat) t)) (fun _ s₂ => wpC (model prog w) A (execs body env) (TurnPost h₀ L I oI base (J m₀ (i + 1)) { s with heap := h, toks := tk } (fun r s' => match r with | .ok f => Q f s' | .error _ => False)) (fun _ _ => False) s₂) (fun _ _ => False) { s with heap := h, toks := tk })
    (done : ∀ x m h tk, J m₀ n x m → Fr h₀ L h m → News h₀ L h (base x) → Q .next { s with heap := h, toks := tk })
    (hj : J m₀ 0 x₀ m₀) (ht : ∀ I v, letOwnedTupleGo target (.ref I) v = pure () := by intro _ _; rfl) :
    wpAny (model prog w) A (pyIter (.ref r)) (fun it s₂ => codeC (model prog w) A (.forLoop target it body [] env) (fun r s' => match r with | .ok f => Q f s' | .error _ => False) s₂) E s :=
  iter_rangeC base (J m₀) hh hr hsmall hn hsame turn done hj F N ht
end
end Mine
end
theorem Mine.topOffDu : True := by
  w_top off
  trivial
/-! part Du -/
section
open PySem PySem.W PyProof.Rows PySem.Calls
set_option Elab.async false
namespace Mine
/-- what _law_due counts: feeds, returns, even -/
def dstep (a : Int × Int × Bool) (d : Int) : Int × Int × Bool :=
  let e := a.2.2 || decide (d ≠ 1)
  (a.1 + (if d ≠ 0 then 1 else 0), a.2.1 + (if d ≠ 0 ∧ e = true then 1 else 0), e)
theorem dstep_bound : ∀ (l : List Int) (f r : Int) (e : Bool), f ≤ (l.foldl dstep (f, r, e)).1 ∧ (l.foldl dstep (f, r, e)).1 ≤ f + l.length ∧ r ≤ (l.foldl dstep (f, r, e)).2.1 ∧ (l.foldl dstep (f, r, e)).2.1 ≤ r + l.length
  | [], f, r, e => by simp
  | d :: l, f, r, e => by
    rw [List.foldl_cons]
    have h := dstep_bound l (dstep (f, r, e) d).1 (dstep (f, r, e) d).2.1 (dstep (f, r, e) d).2.2
    rw [show ((dstep (f, r, e) d).1, (dstep (f, r, e) d).2.1, (dstep (f, r, e) d).2.2) = dstep (f, r, e) d from rfl] at h
    have h1 : f ≤ (dstep (f, r, e) d).1 ∧ (dstep (f, r, e) d).1 ≤ f + 1 := by
      unfold dstep; dsimp only; split <;> omega
    have h2 : r ≤ (dstep (f, r, e) d).2.1 ∧ (dstep (f, r, e) d).2.1 ≤ r + 1 := by
      unfold dstep; dsimp only; split <;> omega
    rw [List.length_cons]
    push_cast
    omega
def DM (m₀ : Str → Option Value) (u : Option Value) (f r : Int) (e : Bool) (tf tr : Tok) : Str → Option Value := fun z => if z = Str.ofString "deed" then u else if z = Str.ofString "even" then some (.bool e) else if z = Str.ofString "returns" then some (.int r tr)
    else if z = Str.ofString "feeds" then some (.int f tf) else m₀ z
def DJ (ds : List Int) (m₀ : Str → Option Value) (i : Nat) (_ : Unit) (m' : Str → Option Value) : Prop :=
  ∃ u f r e tf tr, m' = DM m₀ u f r e tf tr ∧ (f, r, e) = (ds.take i).foldl dstep (0, 0, false)
theorem DM.of {m₀ m' : Str → Option Value} {f r : Int} {e : Bool} {tf tr : Tok} (h1 : m' (Str.ofString "even") = some (.bool e)) (h2 : m' (Str.ofString "returns") = some (.int r tr)) (h3 : m' (Str.ofString "feeds") = some (.int f tf))
    (h : ∀ z, z ≠ Str.ofString "deed" → z ≠ Str.ofString "even" → z ≠ Str.ofString "returns" → z ≠ Str.ofString "feeds" → m' z = m₀ z) : m' = DM m₀ (m' (Str.ofString "deed")) f r e tf tr := by
  funext z
  unfold DM
  by_cases k1 : z = Str.ofString "deed"
  · rw [if_pos k1, k1]
  by_cases k2 : z = Str.ofString "even"
  · rw [if_neg k1, if_pos k2, k2, h1]
  by_cases k3 : z = Str.ofString "returns"
  · rw [if_neg k1, if_neg k2, if_pos k3, k3, h2]
  by_cases k4 : z = Str.ofString "feeds"
  · rw [if_neg k1, if_neg k2, if_neg k3, if_pos k4, k4, h3]
  · rw [if_neg k1, if_neg k2, if_neg k3, if_neg k4, h z k1 k2 k3 k4]
def Has : List (Str × Value) → (Str → Option Value) → Prop
  | [], _ => True
  | (x, v) :: r, m => m x = some v ∧ Has r m
def ov : List (Str × Value) → (Str → Option Value) → Str → Option Value
  | [], u => u
  | (x, v) :: r, u => fun z => if z = x then some v else ov r u z
theorem ov_of : ∀ {l : List (Str × Value)} {m : Str → Option Value}, Has l m → ov l m = m
  | [], _, _ => rfl
  | (x, v) :: r, m, h => by
    funext z
    show (if z = x then some v else ov r m z) = m z
    by_cases k : z = x
    · rw [if_pos k, k, h.1]
    · rw [if_neg k, ov_of h.2]
theorem fr_has {h₀ h : Heap} {L : Addr} {m : Str → Option Value} {l : List (Str × Value)} (F : Fr h₀ L h m) (k : Has l m) : ∃ u, Fr h₀ L h (ov l u) := ⟨m, (ov_of k).symm ▸ F⟩
section
variable {prog : Program} {w : World} {A : Around} {E : Value → Shared → Prop} {s : Shared} {env : Env}
theorem wpC_cutI (P : Shared → Prop) (n : Nat) {body : List Stmt} {Q : Flow → Shared → Prop} (h : wpAny (model prog w) A (execs (body.take n) env) (fun f s₁ => match f with | .next => P s₁ | f => Q f s₁) E s)
    (h2 : ∀ s₁, P s₁ → wpC (model prog w) A (execs (body.drop n) env) Q E s₁) : wpC (model prog w) A (execs body env) Q E s := by
  refine wpC_cut n (wpAny_mono h (fun f s₁ h₁ => ?_) fun _ _ q => q)
  cases f with
  | next => exact h2 _ h₁
  | _ => exact h₁
end
def MapAt (h₀ : Heap) (L : Addr) (news : List (Addr × Obj)) (l : List (Str × Value)) (s s₁ : Shared) : Prop :=
  ∃ h' tk m', s₁ = { s with heap := h', toks := tk } ∧ Fr h₀ L h' m' ∧ News h₀ L h' news ∧ Has l m'
inductive Out where
  | proto
  | value
  | port (n : Int)
def OutIs (host : Str) : Out → Value → List (Addr × Obj) → Prop
  | .proto, v, ex => ex = [] ∧ ∃ t, v = .str (Str.ofString "proto") t
  | .value, v, ex => ex = [] ∧ ∃ t, v = .str (Str.ofString "value") t
  | .port n, v, ex => ∃ a t u c, v = .ref a ∧ ex = [(a, ({ cls := .type "tuple", data := .seq [.str host t, .int n u, .bool true].toArray c } : Obj))]
def duIn (mk bd : Str) : Str := mk ++ bd ++ mk
def duMarks (mk bd : Str) (f r : Int) : Int :=
  if (mk == Str.ofString ".") = true then Txt.count (mk ++ bd ++ mk) mk + (f * Txt.count (mk ++ bd ++ mk) (Str.ofString "\n.") + r * Txt.count (mk ++ bd ++ mk) (Str.ofString "\u000d.")) else Txt.count (mk ++ bd ++ mk) mk
def duBad (mk bd : Str) (f r : Int) (e : Bool) : Prop :=
  duMarks mk bd f r ≠ 4 ∨ (e = true ∧ (Builtin.Str.occurrences (Str.ofString "\u000d\n") mk 0 (Str.ofString "\u000d\n").length 1).isEmpty = false)
def duStrip (mk bd : Str) : Str := Txt.stripChars ((Txt.split bd mk).getLastD Str.empty) (Str.ofString " \u000d\n")
def duTwice (mk bd : Str) (f r : Int) : Prop :=
  (mk == Str.ofString ".") = true ∧ ((f ≠ 0 ∧ (Txt.item bd (-1) == Str.ofString "\n") = true) ∨ (r ≠ 0 ∧ (Txt.item bd (-1) == Str.ofString "\u000d") = true))
def duBare (x : Str) : Str := if (Txt.slice x none (some 1) == Str.ofString "-") = true then Txt.slice x (some 1) none else x
def duNo (x : Str) : Prop := (duBare x == Str.ofString "") = true ∨ (Txt.stripChars (duBare x) (Str.ofString "0123456789") != Str.ofString "") = true
theorem duStrip_le (mk bd : Str) : (duStrip mk bd).length ≤ bd.length := by
  refine Nat.le_trans (len_stripChars _ _) ?_
  have hp := split_pos bd mk
  rw [List.getLastD_eq_getLast?]
  cases hh : (Txt.split bd mk).getLast? with
  | none => exact Nat.zero_le _
  | some a => exact part_short (List.mem_of_getLast? hh)
/-- what _law_due says, of its counts -/
def DueIs (mk bd : Str) (f r : Int) (e : Bool) : Out → Prop
  | .proto => duBad mk bd f r e
  | .value => ¬ duBad mk bd f r e ∧ (duTwice mk bd f r ∨ (¬ duTwice mk bd f r ∧ duNo (duStrip mk bd)))
  | .port n => ¬ duBad mk bd f r e ∧ ¬ duTwice mk bd f r ∧ ¬ duNo (duStrip mk bd) ∧ PySem.intText? (duStrip mk bd) = some n
theorem DueIs.bad {mk bd : Str} {f r : Int} {e : Bool} {o : Out} (h : DueIs mk bd f r e o) (hb : duBad mk bd f r e) : o = .proto := by
  cases o with
  | proto => rfl
  | value => exact absurd hb h.1
  | port n => exact absurd hb h.1
def Post1 (h₀ : Heap) (L : Addr) (news : List (Addr × Obj)) (mk bd host : Str) (tm tb th : Tok) (f r : Int) (e : Bool) (s s₁ : Shared) : Prop :=
  ∃ tf tr, MapAt h₀ L news [(Str.ofString "mark", .str mk tm), (Str.ofString "body", .str bd tb), (Str.ofString "feeds", .int f tf), (Str.ofString "returns", .int r tr), (Str.ofString "host", .str host th)] s s₁ ∧ ¬ duBad mk bd f r e
def Post2 (h₀ : Heap) (L : Addr) (news : List (Addr × Obj)) (mk bd host : Str) (th : Tok) (f r : Int) (s s₁ : Shared) : Prop :=
  ∃ fl tfl, MapAt h₀ L news [(Str.ofString "field", .str fl tfl), (Str.ofString "host", .str host th)] s s₁ ∧ ((duTwice mk bd f r ∧ fl = Str.ofString "") ∨ (¬ duTwice mk bd f r ∧ fl = duStrip mk bd)) ∧ (fl.length : Int) ≤ 100
theorem duMarks_t {mk bd : Str} {f r : Int} (h : (mk == Str.ofString ".") = true) : duMarks mk bd f r = Txt.count (mk ++ bd ++ mk) mk + (f * Txt.count (mk ++ bd ++ mk) (Str.ofString "\n.") + r * Txt.count (mk ++ bd ++ mk) (Str.ofString "\u000d.")) := if_pos h
theorem duMarks_f {mk bd : Str} {f r : Int} (h : (mk == Str.ofString ".") = false) : duMarks mk bd f r = Txt.count (mk ++ bd ++ mk) mk := if_neg (by rw [h]; exact Bool.false_ne_true)
theorem notBad1 {mk bd : Str} {f r : Int} {e : Bool} (h : duMarks mk bd f r = 4) (h2 : e = false) : ¬ duBad mk bd f r e := by
  rintro (hb | ⟨hb, _⟩)
  · exact hb h
  · rw [h2] at hb; cases hb
theorem notBad2 {mk bd : Str} {f r : Int} {e : Bool} (h : duMarks mk bd f r = 4) (h2 : (Builtin.Str.occurrences (Str.ofString "\u000d\n") mk 0 (Str.ofString "\u000d\n").length 1).isEmpty = true) : ¬ duBad mk bd f r e := by
  rintro (hb | ⟨_, hb⟩)
  · exact hb h
  · rw [h2] at hb; cases hb
theorem bare_t {x : Str} (h : (Txt.slice x none (some 1) == Str.ofString "-") = true) : duBare x = Txt.slice x (some 1) none := if_pos h
theorem bare_f {x : Str} (h : (Txt.slice x none (some 1) == Str.ofString "-") = false) : duBare x = x := if_neg (by rw [h]; exact Bool.false_ne_true)
theorem yesNo1 {x z : Str} (e : duBare x = z) (h : (z == Str.ofString "") = true) : duNo x := .inl (by rw [e]; exact h)
theorem yesNo2 {x z : Str} (e : duBare x = z) (h : (Txt.stripChars z (Str.ofString "0123456789") != Str.ofString "") = true) : duNo x := .inr (by rw [e]; exact h)
theorem notNo {x z : Str} (e : duBare x = z) (h1 : (z == Str.ofString "") = false) (h2 : (Txt.stripChars z (Str.ofString "0123456789") != Str.ofString "") = false) : ¬ duNo x := by
  rintro (h | h)
  · rw [e, h1] at h; cases h
  · rw [e, h2] at h; cases h
theorem due_two {mk bd fl : Str} {f r : Int} {e : Bool} {o : Out} (ho : DueIs mk bd f r e o) (hnb : ¬ duBad mk bd f r e) (hfl : (duTwice mk bd f r ∧ fl = Str.ofString "") ∨ (¬ duTwice mk bd f r ∧ fl = duStrip mk bd)) :
    (∃ n, o = .port n ∧ ¬ duNo fl ∧ PySem.intText? fl = some n) ∨ (o = .value ∧ duNo fl) := by
  cases o with
  | proto => exact absurd ho hnb
  | value =>
    refine .inr ⟨rfl, ?_⟩
    rcases hfl with ⟨h1, h2⟩ | ⟨h1, h2⟩
    · rw [h2]; exact .inl (by decide +kernel)
    · rw [h2]; exact ho.2.elim (fun x => absurd x h1) (·.2)
  | port n =>
    rcases hfl with ⟨h1, h2⟩ | ⟨h1, h2⟩
    · exact absurd h1 ho.2.1
    · rw [h2]; exact .inl ⟨n, rfl, ho.2.2.1, ho.2.2.2⟩
theorem Post1.intro {h₀ : Heap} {L : Addr} {news : List (Addr × Obj)} {mk bd host : Str} {tm tb th tf tr : Tok} {f r : Int} {e : Bool} {s : Shared} {h' : Heap} {tk : Nat} {m' : Str → Option Value} (F : Fr h₀ L h' m') (N : News h₀ L h' news)
    (h : Has [(Str.ofString "mark", .str mk tm), (Str.ofString "body", .str bd tb), (Str.ofString "feeds", .int f tf), (Str.ofString "returns", .int r tr), (Str.ofString "host", .str host th)] m') (hb : ¬ duBad mk bd f r e) :
    Post1 h₀ L news mk bd host tm tb th f r e s { s with heap := h', toks := tk } := ⟨tf, tr, ⟨h', tk, m', rfl, F, N, h⟩, hb⟩
theorem Post2.intro {h₀ : Heap} {L : Addr} {news : List (Addr × Obj)} {mk bd host : Str} {th : Tok} {f r : Int} {s : Shared} {fl : Str} {tfl : Tok} {h' : Heap} {tk : Nat} {m' : Str → Option Value} (F : Fr h₀ L h' m') (N : News h₀ L h' news)
    (h : Has [(Str.ofString "field", .str fl tfl), (Str.ofString "host", .str host th)] m') (hb : (duTwice mk bd f r ∧ fl = Str.ofString "") ∨ (¬ duTwice mk bd f r ∧ fl = duStrip mk bd)) (hbd : bd.length ≤ 100) :
    Post2 h₀ L news mk bd host th f r s { s with heap := h', toks := tk } := ⟨fl, tfl, ⟨h', tk, m', rfl, F, N, h⟩, hb, by
      rcases hb with ⟨_, e⟩ | ⟨_, e⟩
      · rw [e]; exact by decide +kernel
      · rw [e]; exact Int.ofNat_le.mpr (Nat.le_trans (duStrip_le mk bd) hbd)⟩
theorem nt1 {mk bd : Str} {f r : Int} (h : (mk == Str.ofString ".") = false) : ¬ duTwice mk bd f r := fun x => Bool.false_ne_true (h.symm.trans x.1)
theorem nt2 {mk bd : Str} {f r : Int} (h1 : f = 0) (h2 : r = 0) : ¬ duTwice mk bd f r := fun x => x.2.elim (fun y => y.1 h1) fun y => y.1 h2
theorem nt3 {mk bd : Str} {f r : Int} (h1 : f = 0) (h2 : (Txt.item bd (-1) == Str.ofString "\u000d") = false) : ¬ duTwice mk bd f r := fun x => x.2.elim (fun y => y.1 h1) fun y => by rw [h2] at y; exact Bool.false_ne_true y.2
theorem nt4 {mk bd : Str} {f r : Int} (h1 : (Txt.item bd (-1) == Str.ofString "\n") = false) (h2 : r = 0) : ¬ duTwice mk bd f r := fun x => x.2.elim (fun y => by rw [h1] at y; exact Bool.false_ne_true y.2) fun y => y.1 h2
theorem nt5 {mk bd : Str} {f r : Int} (h1 : (Txt.item bd (-1) == Str.ofString "\n") = false) (h2 : (Txt.item bd (-1) == Str.ofString "\u000d") = false) : ¬ duTwice mk bd f r := fun x => x.2.elim (fun y => by rw [h1] at y; exact Bool.false_ne_true y.2) fun y => by rw [h2] at y; exact Bool.false_ne_true y.2
section
variable {prog : Program} {w : World} {A : Around} {E : Value → Shared → Prop} {s : Shared} {Q : Value → Shared → Prop} {x y : Str} {t u v : Tok} {h₀ : Heap} {L : Addr} {m : Str → Option Value} {news : List (Addr × Obj)}
theorem split_all (hy : (y.length == 0) = false) (hl : x.length ≤ 100000) (hF : Fr h₀ L s.heap m) (hN : News h₀ L s.heap news)
    (h : ∀ l h' k, l.map (·.1) = Txt.split x y → ((Txt.split x y).getLastD Str.empty).length ≤ x.length → Fr h₀ L h' m →
      News h₀ L h' ((s.heap.objs.size, { cls := .type "list", data := .seq (strValues l).toArray }) :: news) → Q (.ref s.heap.objs.size) { s with heap := h', toks := k }) :
    wpAny (model prog w) A (call (.builtin "str.split") [.str x t, .str y u]) Q E s :=
  splitN1A hF hN hy (fun l h' k e' hs hle hL F N => h l h' k e' (by
    rw [← e']
    rw [List.getLastD_eq_getLast?]
    cases hh : (l.map (·.1)).getLast? with
    | none => exact Nat.zero_le _
    | some a => exact hle a (List.mem_of_getLast? hh)) F N) (by rw [sizeLine_eq]; omega)
theorem item_m1 {value slice : PySem.Expr} (h1 : 1 ≤ x.length) (h3 : x.length ≤ 100000) (h : Q (.str (Txt.item x (-1)) s.toks) { s with toks := s.toks + 1 })
    (hs : subscripted slice false (.str x t) (.int (-1) u) = operate [.str x t, .int (-1) u] (getItem (.str x t) (.int (-1) u)) := by with_unfolding_all rfl)
    (ht : ∀ r, letTemporaryGo value (.str x t) r = pure () := by intro _; with_unfolding_all rfl) : wpAny (model prog w) A (subscriptTail value slice (.str x t) (.int (-1) u)) Q E s :=
  item_str (fitsSsize_of (N := 9223372036854775808) (by omega) (by omega) (Int.le_refl _)) (by omega) (by omega) (fun _ => h) hs ht
theorem last_is {l : List (Str × Tok)} {z : Str} (e : l.map (·.1) = Txt.split x y) (h : (l.map (·.1))[(-1 + (l.length : Int)).toNat]? = some z) : z = (Txt.split x y).getLastD Str.empty ∧ z.length ≤ x.length := by
  have hz : z.length ≤ x.length := part_short (e ▸ List.mem_of_getElem? h)
  refine ⟨?_, hz⟩
  have hp := split_pos x y
  rw [← e, List.getLastD_eq_getLast?, List.getLast?_eq_getElem?]
  rw [← e, List.length_map] at hp
  rw [List.length_map]
  have e2 : (-1 + (l.length : Int)).toNat = l.length - 1 := by omega
  rw [e2] at h
  rw [h]; rfl
end
local macro_rules | `(tactic| walk_at "call builtin:str.split") => `(tactic| (k_here; (with_reducible show wpAny _ _ (call (Value.builtin "str.split") [Value.str _ _, Value.str _ _]) _ _ _); refine split_all (by assumption) (by omega) (by k_asm) (by k_asm) ?_; intro _ _ _ _ _ _ _))
local macro_rules | `(tactic| walk_at "subscriptTail") => `(tactic| (k_here; (with_reducible show wpAny _ _ (subscriptTail _ _ (Value.str _ _) (Value.int _ _)) _ _ _); refine item_m1 (by assumption) (by omega) ?_))
local macro_rules | `(tactic| walk_at "call builtin:str.strip") => `(tactic| (k_here; (try (obtain ⟨hz8, hz9⟩ := last_is (by assumption) (by assumption); subst hz8)); (refine SC.stripChars ?_ ?zs; (case zs => (rw [sizeLine_eq]; omega))); intro _ _))
set_option maxRecDepth 100000 in
set_option maxHeartbeats 8000000 in
theorem due_c {w : World} {mean : ExcName → Option Value} {mg mb : Str → Option Value} {cn : Str} {cs : Scope} {a : Addr} {ccd : Value} {cl : List (Str × Addr)} {h₀ : Heap} {L : Addr} {m : Str → Option Value} {s : Shared} {Q E : Value → Shared → Prop} {news : List (Addr × Obj)}
   {mk bd host : Str} {tm tb th : Tok} {dl : Addr} {vs : List Value} {ds : List Int} {c : Nat}
    (B : Below callerA h₀ [] h₀) (F : Fr h₀ L s.heap m) (X : (hd.heap_39 w.params).In h₀) (N : News h₀ L s.heap news) (T : Top hd.view_39 LL mean mg mb h₀) (hk : cs.kind = .function)
    (hdl : (dl, ({ cls := .type "list", data := .seq vs.toArray c } : Obj)) ∈ news) (hds : IntsAre vs ds) (hdn : ds.length ≤ 4) (hmk : mk.length ≤ 1) (hbd : bd.length ≤ 100)
    (hmk1 : (mk.length == 0) = false) (hbp : 1 ≤ bd.length) (hho : host.length ≤ 100) {o : Out} (ho : DueIs mk bd (ds.foldl dstep (0, 0, false)).1 (ds.foldl dstep (0, 0, false)).2.1 (ds.foldl dstep (0, 0, false)).2.2 o)
    (hret : ∀ v ex h' tk', OutIs host o v ex → Fr h₀ L h' m → News h₀ L h' (ex ++ news) → Q v { s with heap := h', toks := tk' }) :
    wpC (model Challenge.rw_pg0029_01.row.prog w) (callerA.deeper (envX cn cs L a ccd cl)) (call (.ref 139) [.str mk tm, .str bd tb, .ref dl, .str host th]) Q E s := by
  revert X; k_fill; intro X
  refine wpC_call ?_
  k_dflt (refine' codeC_defS0 ?k1 ?k2 ?k3 ?k4 ?k5 ?kA ?kF ?kK ?k6 ?k7 ?k8 ?k9 ?kB ?_ ?c2 ?c3 ?c4 ?c5; (case kA => exact rfl); (case kF => exact rfl); (case kK => exact hk); (case k1 => exact B); (case k2 => exact F); (case k3 => exact X); (case k4 => exact N); (case k5 => exact T); (case k6 => k_is); (case k7 => k_is); (case k8 => k_room); (case k9 => exact BindsTo.of_eq rfl); (case kB => exact locs rfl); (case c2 => exact rfl); (case c3 => exact rfl); (case c4 => exact rfl); (case c5 => decide))
  intro g' L' h' FG' F' N' B' X' T' D'
  refine wpC_cut 1 ?_
  dsimp only [List.take, List.drop]
  k_steps
  dsimp only
  refine wpC_execs (wpC_For ?_)
  k_steps
  refine' iter_listM (β := Unit) (L := L') (x₀ := ()) (fun _ => news) (DJ ds) (by k_asm) (cb_drop (by k_asm) (fun p hp => List.mem_cons_of_mem _ hp)) rfl (fun _ => hdl) (fun _ _ => rfl) ?turn ?done ?hj
  case hj =>
    exact ⟨_, 0, 0, false, _, _, DM.of rfl rfl rfl (fun z _ _ _ _ => rfl), rfl⟩
  case turn =>
    rintro i _ v m' h2 tk2 I oI hv ⟨u, af, ar, ae, tf, tr, rfl, hacc⟩ hoff F2 N2
    obtain ⟨d, hd⟩ : ∃ d, ds[i]? = some d := by
      have : i < vs.length := by
        rcases Nat.lt_or_ge i vs.length with h | h
        · exact h
        · rw [List.getElem?_eq_none h] at hv; cases hv
      rw [hds.length] at this
      exact ⟨_, List.getElem?_eq_getElem this⟩
    obtain ⟨t, ht⟩ := hds.get i d hd
    rw [ht] at hv
    cases hv
    have hst : (ds.take (i + 1)).foldl dstep (0, 0, false) = dstep ((ds.take i).foldl dstep (0, 0, false)) d := by
      rw [List.take_add_one, hd]; simp
    unfold DJ
    rw [hst, ← hacc]
    clear hst hacc
    unfold DM at F2
    k_steps
    refine wpC_of ?_
    k_steps
    all_goals (
      refine TurnPost.intro () (by k_asm) (by k_asm) (fun p hp => hp) ⟨_, _, _, _, _, _, DM.of rfl rfl rfl (fun z z1 z2 z3 z4 => ?_), ?_⟩
      · dsimp only
        rw [if_neg z3, if_neg z4, if_neg z2, if_neg z1]
        simp only [if_neg z1, if_neg z2, if_neg z3, if_neg z4]
      · simp_all [dstep])
  case done =>
    rintro _ m' h2 tk2 ⟨u, f, r, e, tf, tr, rfl, hacc⟩ F2 N2
    rw [hds.length, List.take_length] at hacc
    have hbo := dstep_bound ds 0 0 false
    rw [← hacc] at hbo
    dsimp only at hbo
    have hf0 : 0 ≤ f := by omega
    have hf1 : f ≤ 4 := by omega
    have hr0 : 0 ≤ r := by omega
    have hr1 : r ≤ 4 := by omega
    clear hbo
    rw [← hacc] at ho
    dsimp only at ho
    clear hacc
    dsimp only
    unfold DM at F2
    refine wpC_cutI (Post1 g' L' news mk bd host tm tb th f r e s) 4 ?_ ?_
    · dsimp only [List.take]
      k_steps
      all_goals first
        | exact hret _ [] _ _ (DueIs.bad ho (.inl (by rw [duMarks_t (by assumption)]; assumption)) ▸ ⟨rfl, _, rfl⟩) (by k_asm) (by k_asm)
        | exact hret _ [] _ _ (DueIs.bad ho (.inl (by rw [duMarks_f (by assumption)]; assumption)) ▸ ⟨rfl, _, rfl⟩) (by k_asm) (by k_asm)
        | exact hret _ [] _ _ (DueIs.bad ho (.inr ⟨by assumption, by assumption⟩) ▸ ⟨rfl, _, rfl⟩) (by k_asm) (by k_asm)
        | exact Post1.intro (by k_asm) (by k_asm) ⟨rfl, rfl, rfl, rfl, rfl, trivial⟩ (by first
            | exact notBad1 ((duMarks_t (by assumption)).trans (by assumption)) (by assumption)
            | exact notBad1 ((duMarks_f (by assumption)).trans (by assumption)) (by assumption)
            | exact notBad2 ((duMarks_t (by assumption)).trans (by assumption)) (by assumption)
            | exact notBad2 ((duMarks_f (by assumption)).trans (by assumption)) (by assumption))
        | fail "leaf A"
    · rintro s₁ ⟨tf2, tr2, ⟨h3, tk3, m3, rfl, F3, N3, H3⟩, hnb⟩
      obtain ⟨u3, F3⟩ := fr_has F3 H3
      clear H3
      dsimp only [ov] at F3
      dsimp only [List.drop]
      refine wpC_cutI (Post2 g' L' news mk bd host th f r s) 2 ?_ ?_
      · dsimp only [List.take]
        k_steps
        all_goals (
          refine Post2.intro (by k_asm) (by first | k_asm | exact cb_drop (by assumption) (fun p hp => List.mem_cons_of_mem _ hp)) ⟨rfl, rfl, trivial⟩ ?_ (by assumption)
          first
            | exact .inl ⟨⟨by assumption, .inl ⟨by assumption, by assumption⟩⟩, rfl⟩
            | exact .inl ⟨⟨by assumption, .inr ⟨by assumption, by assumption⟩⟩, rfl⟩
            | exact .inr ⟨by first | exact nt1 (by assumption) | exact nt2 (by assumption) (by assumption) | exact nt3 (by assumption) (by assumption) | exact nt4 (by assumption) (by assumption) | exact nt5 (by assumption) (by assumption), rfl⟩
            | fail "leaf B")
      · rintro s₁ ⟨fl, tfl, ⟨h4, tk4, m4, rfl, F4, N4, H4⟩, hfl, hfll⟩
        obtain ⟨u4, F4⟩ := fr_has F4 H4
        clear H4
        dsimp only [ov] at F4
        dsimp only [List.drop]
        refine wpC_of ?_
        have hfl2 : fl.length ≤ 640 := by omega
        rcases due_two ho hnb hfl with ⟨n, rfl, hno, e8⟩ | ⟨rfl, hno⟩
        · k_steps
          all_goals first
            | exact absurd (yesNo1 (bare_t (by assumption)) (by assumption)) hno
            | exact absurd (yesNo1 (bare_f (by assumption)) (by assumption)) hno
            | exact absurd (yesNo2 (bare_t (by assumption)) (by assumption)) hno
            | exact absurd (yesNo2 (bare_f (by assumption)) (by assumption)) hno
            | exact hret (.ref _) [(_, _)] _ _ ⟨_, _, _, _, rfl, rfl⟩ (by k_asm) (cb_drop (by assumption) (by
                intro p hp
                rcases List.mem_cons.mp hp with rfl | hp
                · exact List.Mem.head _
                · (repeat apply List.mem_cons_of_mem)
                  exact hp))
            | fail "leaf C1"
        · k_steps
          all_goals first
            | exact absurd hno (notNo (bare_t (by assumption)) (by assumption) (by assumption))
            | exact absurd hno (notNo (bare_f (by assumption)) (by assumption) (by assumption))
            | exact hret _ [] _ _ ⟨rfl, _, rfl⟩ (by k_asm) (by k_asm)
            | fail "leaf C2"
end Mine
end
/-! part Tt -/
section
open PySem PySem.W PyProof.Rows PySem.Calls
set_option Elab.async false
namespace Mine
/-- what _law_told says of a text -/
structure ToldIs (x : Str) (o : Out) : Prop where
  len : (x.length : Int) ≤ 100000
  e1 : (Txt.slice x none (some 3) != Str.ofString "229") = false
  e2 : Txt.find x (Str.ofString "(") = 5
  rest : ∃ r : Int, Txt.find3 x (Str.ofString ")") (5 + 1) = r ∧ 7 ≤ r ∧ r < x.length ∧
    match o with
    | .proto => (Txt.item x (5 + 1) != Txt.item x (r - 1)) = true ∨ ((Txt.item x (5 + 1) != Txt.item x (r - 1)) = false ∧ (Txt.split (Txt.slice x (some (5 + 1)) (some r)) (Txt.item x (5 + 1))).length ≠ 5 ∧ (Txt.split (Txt.slice x (some (5 + 1)) (some r)) (Txt.item x (5 + 1))).length ≤ 16777216)
    | .value => (Txt.item x (5 + 1) != Txt.item x (r - 1)) = false ∧ ∃ p0 p1 p2 p3 p4, Txt.split (Txt.slice x (some (5 + 1)) (some r)) (Txt.item x (5 + 1)) = [p0, p1, p2, p3, p4] ∧ p3.length ≤ 640 ∧ (∀ c ∈ p3.cps.toList, c < 16 ^ 8) ∧ PySem.intText? p3 = none
    | .port n => (Txt.item x (5 + 1) != Txt.item x (r - 1)) = false ∧ ∃ p0 p1 p2 p3 p4, Txt.split (Txt.slice x (some (5 + 1)) (some r)) (Txt.item x (5 + 1)) = [p0, p1, p2, p3, p4] ∧ p3.length ≤ 640 ∧ PySem.intText? p3 = some n
theorem told_c {w : World} {mean : ExcName → Option Value} {mg mb : Str → Option Value} {cn : Str} {cs : Scope} {a : Addr} {ccd : Value} {cl : List (Str × Addr)} {h₀ : Heap} {L : Addr} {m : Str → Option Value} {s : Shared} {Q E : Value → Shared → Prop} {news : List (Addr × Obj)}
   {x host : Str} {tx th tp : Tok} {pr : Addr} {pl : Int} {o : Out}
    (B : Below callerA h₀ [] h₀) (F : Fr h₀ L s.heap m) (X : (hd.heap_39 w.params).In h₀) (N : News h₀ L s.heap news) (T : Top hd.view_39 LL mean mg mb h₀) (hk : cs.kind = .function)
    (ho : ToldIs x o) (hpr : (pr, ({ cls := .type "list", data := .seq [.str host th, .int pl tp].toArray } : Obj)) ∈ news)
    (hret : ∀ v ex h' tk', OutIs host o v ex → Fr h₀ L h' m → News h₀ L h' (ex ++ news) → Q v { s with heap := h', toks := tk' }) :
    wpC (model Challenge.rw_pg0029_01.row.prog w) (callerA.deeper (envX cn cs L a ccd cl)) (call (.ref 132) [.str x tx, .ref pr]) Q E s := by
  obtain ⟨hlen, e1, e2, r, e3, hr1, hr2, hc⟩ := ho
  cases o with
  | proto =>
    rcases hc with e6 | ⟨e6, e7, e8⟩
    · exact told_C1 B F X N T hk hlen e1 e2 e3 hr1 hr2 e6 fun t h' tk' F' N' => hret _ [] h' tk' ⟨rfl, t, rfl⟩ F' N'
    · exact told_C2 B F X N T hk hlen e1 e2 e3 hr1 hr2 e6 rfl e7 e8 fun t h' tk' F' N' => hret _ [] h' tk' ⟨rfl, t, rfl⟩ F' N'
  | value =>
    obtain ⟨e6, p0, p1, p2, p3, p4, e7, h1, h2, h3⟩ := hc
    exact told_C3 B F X N T hk hlen e1 e2 e3 hr1 hr2 e6 e7 h1 h2 h3 hpr fun t h' tk' F' N' => hret _ [] h' tk' ⟨rfl, t, rfl⟩ F' N'
  | port n =>
    obtain ⟨e6, p0, p1, p2, p3, p4, e7, h1, h3⟩ := hc
    exact told_C4 B F X N T hk hlen e1 e2 e3 hr1 hr2 e6 e7 h1 h3 hpr fun a' t u c h' tk' F' N' => hret _ [_] h' tk' ⟨a', t, u, c, rfl, rfl⟩ F' N'
section
variable {prog : Program} {w : World} {A : Around} {E : Value → Shared → Prop} {s : Shared} {env : Env}
/-- a comparison, both sides on the path -/
theorem wpC_cmp2 {l op r pos whole} {Q : Bool → Shared → Prop}
    (h : wpC (model prog w) A (eval l env) (fun a s₁ => wpC (model prog w) A (eval r env) (fun b s₂ => wpAny (model prog w) A (compareOp op a b) (fun c s₃ => wpAny (model prog w) A (truthy c) Q E s₃) E s₂) E s₁) E s)
    (hm : behindInMarks op r = false := by with_unfolding_all rfl) : wpC (model prog w) A (isTrue (.Compare l [op] [r] pos) env whole) Q E s := by
  rw [isTrue_Compare1]
  refine wpC_bind (wpC_mono h (fun a s₁ h₁ => ?_) fun _ _ x => x)
  rw [markedBehindIn_of_false hm]
  refine wpC_bind (wpC_holding (wpC_mono h₁ (fun b s₂ h₂ => wpC_of ?_) fun _ _ x => x))
  exact wpAny_bind (wpAny_standAt (wpAny_bind (wpAny_operating (wpAny_mono h₂ (fun c s₃ h₃ => wpAny_holding h₃) fun _ _ x => x))))
end
end Mine
end
theorem Mine.topOffCm : True := by
  w_top off
  trivial
/-! part Cm -/
section
open PySem PySem.W PyProof.Rows PySem.Calls
set_option Elab.async false
namespace Mine
set_option maxRecDepth 100000 in
set_option maxHeartbeats 8000000 in
theorem cmp_out {prog : Program} {w : World} {A : Around} {E : Value → Shared → Prop} {s : Shared} {Q : Value → Shared → Prop} {h₀ : Heap} {L : Addr} {m : Str → Option Value} {news : List (Addr × Obj)} {host : Str} {o : Out} {v1 v2 : Value} {ex1 ex2 : List (Addr × Obj)}
    (F : Fr h₀ L s.heap m) (N : News h₀ L s.heap (ex1 ++ (ex2 ++ news))) (h1 : OutIs host o v1 ex1) (h2 : OutIs host o v2 ex2)
    (hu : A.units + 64 < cLine) (hso : PyData.strOk host = true) (h : ∀ tk, Q (.bool false) { s with toks := tk }) : wpAny (model prog w) A (compareOp .NotEq v1 v2) Q E s := by
  cases o with
  | proto =>
    obtain ⟨rfl, t1, rfl⟩ := h1
    obtain ⟨rfl, t2, rfl⟩ := h2
    k_steps
    exact h _
  | value =>
    obtain ⟨rfl, t1, rfl⟩ := h1
    obtain ⟨rfl, t2, rfl⟩ := h2
    k_steps
    exact h _
  | port n =>
    obtain ⟨a1, t1, u1, c1, rfl, rfl⟩ := h1
    obtain ⟨a2, t2, u2, c2, rfl, rfl⟩ := h2
    simp only [List.cons_append, List.nil_append] at N
    have r1 : Reads s.heap (.ref a1) (.tuple [.str host, .int n, .bool true]) _ := reads_tuple_at (News.get N (.head _)) rfl rfl (ReadsAll.cons (Reads.str _ _) (ReadsAll.cons (Reads.int _ _) (ReadsAll.cons (Reads.bool _) ReadsAll.nil)))
    have r2 : Reads s.heap (.ref a2) (.tuple [.str host, .int n, .bool true]) _ := reads_tuple_at (News.get N (.tail _ (.head _))) rfl rfl (ReadsAll.cons (Reads.str _ _) (ReadsAll.cons (Reads.int _ _) (ReadsAll.cons (Reads.bool _) ReadsAll.nil)))
    refine ne_dataH r1 r2 (by simp [SeqAt.shaped, PyData.canLay0, PyData.canLayAll0, PyData.depth, PyData.depthAll, hso]) (by simp [SeqAt.shaped, PyData.canLay0, PyData.canLayAll0, PyData.depth, PyData.depthAll, hso]) hu ?_
    have e : PyData.eqv (.tuple [.str host, .int n, .bool true]) (.tuple [.str host, .int n, .bool true]) = true := by simp [PyData.eqv, PyData.eqvAll]
    rw [e]
    exact h s.toks
end Mine
end
/-! part Lc -/
section
open PySem PySem.W PyProof.Rows PySem.Calls PySem.Spec
set_option Elab.async false
set_option maxRecDepth 100000
namespace Mine
theorem enterC {M : Model} {A : Around} {s : Shared} {f : Value} {pos : List Value} {kw : List (Str × Value)} {c : ClaimW} {cl : Str → Option Addr} {mean : ExcName → Option Value} {args : List WData} {s₁ : Shared}
    (h : codeC M A (.call f ⟨pos, kw⟩) (GoodWG c cl mean args s₁) s) : wpC M A (PySem.call f pos kw) (fun v s' => GoodWG c cl mean args s₁ (.ok (.ret v)) s') (fun e s' => GoodWG c cl mean args s₁ (.error e) s') s :=
  wpC_call (codeC_mono h fun res s' g => by rcases g.1 with ⟨v, _, _, rfl, _⟩ | ⟨e, _, _, rfl, _⟩ <;> exact g)
theorem cells_C {prog : Program} {w : World} {A : Around} {R : Result → Shared → Prop} {s : Shared} {name : Str} {params : Arguments} {body : List Stmt} {scope : Scope}
    {pm cd doc : Value} {a : Addr} {o : Obj} {args : List Value} {binds : List (Str × Value)}
    (hroom : A.depth < recursionLimit) (ho : s.heap.get? a = some o) (hdata : o.data = .func (Calls.docDef name params body scope pm cd doc)) (hlim : s.heap.NoLimit) (hcd : s.heap.CodeRec cd name)
    (hbind : bindArgs (Calls.docDef name params body scope pm cd doc) ⟨args, []⟩ = pure binds)
    (hkind : ∀ x ∈ binds, scope.names.lookup x.1 = some .local ∨ (scope.names.lookup x.1 = some .cell ∧ ((cellsFrom (s.heap.objs.size + 1) scope.names []).lookup x.1).isSome = true))
    (hnd : ((cellsFrom 0 scope.names []).map (·.1)).Nodup)
    (h : ∀ h₁ tk cells, Fr s.heap s.heap.objs.size h₁ (bindL (envOfC name scope s.heap.objs.size a cd).kindOf binds fun _ => none) → News s.heap s.heap.objs.size h₁ cells →
      CellsAre (bindC (envOfC name scope s.heap.objs.size a cd).kindOf binds fun _ => none) (cellsFrom (s.heap.objs.size + 1) scope.names []) cells →
      wpC (model prog w) (A.deeper (envOfC name scope s.heap.objs.size a cd)) (execs body (envOfC name scope s.heap.objs.size a cd))
        (fun f s' => R (.ok (.ret (match f with | .ret v => v | _ => .none))) s')
        (fun e s' => wpAny (model prog w) (A.deeper (envOfC name scope s.heap.objs.size a cd)) (leaving (envOfC name scope s.heap.objs.size a cd) e)
          (fun _ s'' => R (.error e) s'') (fun e' s'' => R (.error e') s'') s')
        { s with heap := h₁, toks := tk })
    (hco : scope.isCoroutine = false := by rfl) (hgen : scope.isGenerator = false := by rfl) (hk : scope.kind = .function := by rfl) :
    codeC (model prog w) A (.call (.ref a) ⟨args, []⟩) R s := by
  refine codeC_function hroom ho hdata hco hgen rfl hcd ?_
  rw [hbind]
  refine wpAny_pure (wpAny_newFunctionEnv_cells hk hkind fun env he s' x => ?_)
  subst he
  refine ⟨hlim.keeps x.toInCall.keep, codeC_func ?_⟩
  obtain ⟨h₁, tk, rfl, _⟩ := x.done
  have once : ((cellsFrom (s.heap.objs.size + 1) scope.names []).map (·.1)).Nodup := by
    rw [← cellsFrom_names scope.names 0 (s.heap.objs.size + 1) [] [] rfl]
    exact hnd
  have found := fun n c hm => x.cell n c (lookup_of_mem_nodup once hm)
  obtain ⟨made, fresh, say⟩ := Cl.news (h₀ := s.heap) (Nat.le_refl _) fun n c hm => ⟨found n c hm, x.above n c hm⟩
  exact h h₁ tk made ⟨x.toInCall.ns, x.toInCall.keep, x.toInCall.fresh⟩ fresh say
end Mine
end
/-! part Df -/
section
open PySem PySem.W PyProof.Rows
set_option Elab.async false
namespace Mine
def text0 (c : Int) : Str := Str.ofString "229 .(" ++ tmark c ++ tbody c ++ tmark c ++ Str.ofString ")\n."
def wfold (ds : List Int) (l : List Nat) : List Nat := ds.foldl (fun l d => wT d l) l
def TX (c : Int) (ds : List Int) : Str := ⟨(wfold ds (text0 c).cps.toList).toArray⟩
def hostOf (i : Nat) : Str := Str.ofString "p." ++ Str.ofString (toString (i : Int))
theorem TX_nil (c : Int) : TX c [] = text0 c := by
  unfold TX wfold
  rw [List.foldl_nil]
theorem TX_snoc (c : Int) (ds : List Int) (d : Int) : (⟨(wT d (TX c ds).cps.toList).toArray⟩ : Str) = TX c (ds ++ [d]) := by
  unfold TX wfold
  rw [List.foldl_append]
  rfl
end Mine
end
/-! part Pu1 -/
section
open PySem PySem.W PyProof.Rows
set_option Elab.async false
namespace Mine
/-- lists laid end to end, a sign between -/
def joinL (c : Nat) : List (List Nat) → List Nat
  | [] => []
  | [p] => p
  | p :: q :: r => p ++ c :: joinL c (q :: r)
theorem joinL_cons (c : Nat) (p q : List Nat) (r : List (List Nat)) : joinL c (p :: q :: r) = p ++ c :: joinL c (q :: r) := rfl
theorem join_str (c : Nat) : ∀ ps : List Str, (Str.join ⟨#[c]⟩ ps).cps.toList = joinL c (ps.map (·.cps.toList))
  | [] => rfl
  | [p] => rfl
  | p :: q :: r => by
    show ((p ++ ⟨#[c]⟩ ++ Str.join ⟨#[c]⟩ (q :: r)) : Str).cps.toList = _
    rw [Str.cps_append, Str.cps_append, Array.toList_append, Array.toList_append, join_str c (q :: r)]
    show _ = p.cps.toList ++ c :: joinL c ((q :: r).map (·.cps.toList))
    simp
theorem free_app {c : Nat} : ∀ {p p' : List Nat} {u u' : List Nat}, c ∉ p → c ∉ p' → p ++ c :: u = p' ++ c :: u' → p = p' ∧ u = u'
  | [], [], u, u', _, _, h => ⟨rfl, (List.cons.inj h).2⟩
  | [], x :: p', u, u', _, h2, h => by
    have := (List.cons.inj h).1
    exact absurd (by rw [← this]; exact List.mem_cons_self ..) h2
  | x :: p, [], u, u', h1, _, h => by
    have := (List.cons.inj h).1
    exact absurd (by rw [this]; exact List.mem_cons_self ..) h1
  | x :: p, y :: p', u, u', h1, h2, h => by
    obtain ⟨e1, e2⟩ := List.cons.inj h
    obtain ⟨e3, e4⟩ := free_app (fun q => h1 (List.mem_cons_of_mem _ q)) (fun q => h2 (List.mem_cons_of_mem _ q)) e2
    exact ⟨by rw [e1, e3], e4⟩
theorem free_none {c : Nat} {p p' u : List Nat} (h1 : c ∉ p) (h : p = p' ++ c :: u) : False := h1 (by rw [h]; simp)
theorem joinL_inj {c : Nat} : ∀ {ps qs : List (List Nat)}, ps ≠ [] → qs ≠ [] → (∀ p ∈ ps, c ∉ p) → (∀ p ∈ qs, c ∉ p) → joinL c ps = joinL c qs → ps = qs
  | [], _, h, _, _, _, _ => absurd rfl h
  | _, [], _, h, _, _, _ => absurd rfl h
  | [p], [q], _, _, _, _, h => by have : p = q := h; rw [this]
  | [p], q :: q2 :: qs, _, _, h1, _, h => (free_none (h1 p (.head _)) h).elim
  | p :: p2 :: ps, [q], _, _, _, h2, h => (free_none (h2 q (.head _)) h.symm).elim
  | p :: p2 :: ps, q :: q2 :: qs, _, _, h1, h2, h => by
    obtain ⟨e1, e2⟩ := free_app (h1 p (.head _)) (h2 q (.head _)) h
    have := joinL_inj (ps := p2 :: ps) (qs := q2 :: qs) (by simp) (by simp) (fun x hx => h1 x (.tail _ hx)) (fun x hx => h2 x (.tail _ hx)) e2
    rw [e1, this]
theorem split_is {x : Str} {c : Nat} {ps : List (List Nat)} (hne : ps ≠ []) (hf : ∀ p ∈ ps, c ∉ p) (h : joinL c ps = x.cps.toList) : (Txt.split x ⟨#[c]⟩).map (·.cps.toList) = ps := by
  have h1 := StrLaws.join_split x ⟨#[c]⟩
  have h2 := join_str c (Txt.split x ⟨#[c]⟩)
  rw [h1] at h2
  refine joinL_inj (fun e => ?_) hne (fun p hp => ?_) hf (h2.symm.trans h.symm)
  · have := split_pos x ⟨#[c]⟩
    rw [List.map_eq_nil_iff.mp e] at this
    exact absurd this (by decide)
  · obtain ⟨q, hq, rfl⟩ := List.mem_map.mp hp
    exact StrLaws.split_free x c q hq
theorem str_of {x : Str} {l : List Nat} (h : x.cps.toList = l) : x = ⟨l.toArray⟩ := by rw [← h]
theorem mid1 (pre W r : List Nat) (c : Nat) : (pre ++ W ++ c :: r).getD (pre.length + W.length) 0 = c := by
  rw [List.getD_eq_getElem?_getD, List.getElem?_append_right (by rw [List.length_append]; exact Nat.le_refl _), List.length_append, Nat.sub_self]; rfl
theorem mid2 (pre W q : List Nat) {v : Nat} (h1 : pre.length ≤ v) (h2 : v < pre.length + W.length) : (pre ++ W ++ q).getD v 0 = W.getD (v - pre.length) 0 := by
  rw [List.getD_eq_getElem?_getD, List.getElem?_append_left (by rw [List.length_append]; exact h2), List.getElem?_append_right h1, ← List.getD_eq_getElem?_getD]
/-- the text of a reply: what the five readings give -/
structure Shape (x : Str) (W : List Nat) : Prop where
  ne : W ≠ []
  len : (x.length : Int) ≤ 100000
  ex : ∃ r, x.cps.toList = [50, 50, 57, 32, 46, 40] ++ W ++ 41 :: r
  free : 41 ∉ W
theorem Shape.e1 {x : Str} {W : List Nat} (h : Shape x W) : (Txt.slice x none (some 3) != Str.ofString "229") = false := by
  obtain ⟨r, hr⟩ := h.ex
  have hl : x.cps.toList.length = 6 + W.length + (1 + r.length) := by rw [hr]; simp; omega
  have := eq_of_beq (slice_closes_to (x := x) (j := 3) ⟨by decide, by omega⟩)
  rw [this, hr]
  rfl
theorem Shape.e2 {x : Str} {W : List Nat} (h : Shape x W) : Txt.find x (Str.ofString "(") = 5 := by
  obtain ⟨r, hr⟩ := h.ex
  have e : Str.ofString "(" = ⟨#[40]⟩ := by decide +kernel
  rw [e]
  have h5 : x.cps.toList[5]? = some 40 := by rw [hr]; rfl
  have hk : ∀ k, k < 5 → x.cps.toList[k]? ≠ some 40 := by
    intro k hk
    have : k = 0 ∨ k = 1 ∨ k = 2 ∨ k = 3 ∨ k = 4 := by omega
    rw [hr]
    rcases this with rfl | rfl | rfl | rfl | rfl <;> simp
  rcases find_whole x ⟨#[40]⟩ with ⟨_, h2⟩ | ⟨i, h1, h2, h3⟩
  · exact absurd ((StrLaws.subAt_one x 40 5).mpr h5) (h2 5)
  · rw [h1]
    have hi := (StrLaws.subAt_one x 40 i).mp h2
    rcases Nat.lt_trichotomy i 5 with hlt | heq | hgt
    · exact absurd hi (hk i hlt)
    · rw [heq]; rfl
    · exact absurd ((StrLaws.subAt_one x 40 5).mpr h5) (h3 5 hgt)
theorem Shape.e3 {x : Str} {W : List Nat} (h : Shape x W) : Txt.find3 x (Str.ofString ")") (5 + 1) = 6 + W.length := by
  obtain ⟨r, hr⟩ := h.ex
  have e : Str.ofString ")" = ⟨#[41]⟩ := by decide +kernel
  rw [e]
  have hlen : x.length = x.cps.toList.length := Array.length_toList.symm
  have hl : x.cps.toList.length = 6 + W.length + (1 + r.length) := by rw [hr]; simp; omega
  have hf : fromIndex x.length (5 + 1) = 6 := by
    unfold fromIndex
    rw [if_neg (by decide)]
    omega
  have hat : x.cps.getD (6 + W.length) 0 = 41 := by
    rw [arr_getD, hr]
    exact mid1 [50, 50, 57, 32, 46, 40] W r 41
  have hbe : ∀ v, 6 ≤ v → v < 6 + W.length → x.cps.getD v 0 ≠ 41 := by
    intro v h1 h2 h3
    rw [arr_getD, hr, mid2 [50, 50, 57, 32, 46, 40] W (41 :: r) h1 h2] at h3
    have hv : v - 6 < W.length := by omega
    have h4 : W.getD (v - 6) 0 = 41 := h3
    rw [List.getD_eq_getElem?_getD, List.getElem?_eq_getElem hv] at h4
    replace h3 : W[v - 6] = 41 := h4
    exact h.free (by rw [← h3]; exact List.getElem_mem hv)
  rcases StrLaws.find3_spec x 41 (5 + 1) with ⟨_, h2⟩ | ⟨k, h1, h2, h3, h4, h5⟩
  · exact absurd hat (h2 (6 + W.length) (by rw [hf]; omega) (by omega))
  · rw [hf] at h2 h5
    rw [h1]
    rcases Nat.lt_trichotomy k (6 + W.length) with hlt | heq | hgt
    · exact absurd h4 (hbe k h2 hlt)
    · rw [heq]; push_cast; omega
    · exact absurd hat (h5 (6 + W.length) (by omega) hgt)
theorem item_nat {x : Str} {i : Nat} (h : i < x.cps.toList.length) : Txt.item x (i : Int) = ⟨#[x.cps.toList.getD i 0]⟩ := by
  have hl : x.length = x.cps.toList.length := Array.length_toList.symm
  have e : seqIndex? (i : Int) x.length = some i := by
    unfold seqIndex?
    have h0 : ¬ ((i : Int) < 0) := by omega
    simp only [h0, if_false]
    have : (decide (0 ≤ (i : Int)) && decide ((i : Int) < (x.length : Int))) = true := by
      rw [Bool.and_eq_true, decide_eq_true_eq, decide_eq_true_eq]; omega
    rw [if_pos this, Int.toNat_natCast]
  unfold Txt.item Txt.charAt
  rw [e]
  show (⟨#[(x.cps[i]?).getD 0]⟩ : Str) = _
  rw [List.getD_eq_getElem?_getD, Array.getElem?_toList]
theorem Shape.item6 {x : Str} {a : Nat} {W : List Nat} (h : Shape x (a :: W)) : Txt.item x (5 + 1) = ⟨#[a]⟩ := by
  obtain ⟨r, hr⟩ := h.ex
  have hl : 6 < x.cps.toList.length := by rw [hr]; simp
  have := item_nat hl
  rw [hr] at this
  exact this
theorem Shape.itemr {x : Str} {a : Nat} {W : List Nat} (h : Shape x (W ++ [a])) {r : Int} (hr0 : r = 6 + (W ++ [a]).length) : Txt.item x (r - 1) = ⟨#[a]⟩ := by
  obtain ⟨q, hr⟩ := h.ex
  have e : r - 1 = ((6 + W.length : Nat) : Int) := by rw [hr0]; simp; omega
  have hl : 6 + W.length < x.cps.toList.length := by rw [hr]; simp; omega
  rw [e, item_nat hl, hr]
  rw [mid2 [50, 50, 57, 32, 46, 40] (W ++ [a]) (41 :: q) (v := 6 + W.length) (Nat.le_add_right _ _) (by rw [List.length_append]; show 6 + W.length < 6 + (W.length + 1); omega)]
  show (⟨#[(W ++ [a]).getD (6 + W.length - 6) 0]⟩ : Str) = _
  rw [Nat.add_sub_cancel_left]
  simp
theorem Shape.slice {x : Str} {W : List Nat} (h : Shape x W) {r : Int} (hr0 : r = 6 + W.length) : Txt.slice x (some (5 + 1)) (some r) = ⟨W.toArray⟩ := by
  obtain ⟨q, hr⟩ := h.ex
  have hl : x.cps.toList.length = 6 + W.length + (1 + q.length) := by rw [hr]; simp; omega
  have := eq_of_beq (slice_closes (x := x) (i := 5 + 1) (j := r) ⟨by decide, by omega, by omega⟩)
  rw [this, hr]
  congr 1
  have e1 : ((5 : Int) + 1).toNat = 6 := by decide
  have e2 : (r - (5 + 1)).toNat = W.length := by omega
  rw [e1, e2]
  congr 1
  rw [List.append_assoc, List.drop_append_of_le_length (by simp)]
  simp
end Mine
end
/-! part Pu2 -/
section
open PySem PySem.W PyProof.Rows
set_option Elab.async false
namespace Mine
theorem cnt_count (c : Nat) : ∀ l : List Nat, cnt c l = (l.count c : Int)
  | [] => rfl
  | x :: l => by
    rw [cnt_cons, cnt_count c l, List.count_cons]
    by_cases h : x = c
    · rw [if_pos h, if_pos (by simpa using h)]; push_cast; omega
    · rw [if_neg h, if_neg (by simpa using h)]; push_cast; omega
theorem split_count (W : List Nat) (c : Nat) : (Txt.split ⟨W.toArray⟩ ⟨#[c]⟩).length = 1 + W.count c := by
  have := PyProof.Rows.split_len ⟨W.toArray⟩ c
  rw [cnt_count] at this
  have e : (⟨W.toArray⟩ : Str).cps.toList = W := rfl
  rw [e] at this
  omega
theorem item_ne {a b : Nat} (h : a ≠ b) : ((⟨#[a]⟩ : Str) != ⟨#[b]⟩) = true := by
  rw [bne_iff_ne]
  intro e
  exact h (by injection e with e; injection e with e; injection e)
theorem item_eq (a : Nat) : ((⟨#[a]⟩ : Str) != ⟨#[a]⟩) = false := by simp
section
variable {x : Str}
theorem Shape.rlt {W : List Nat} (h : Shape x W) : (6 + W.length : Int) < x.length := by
  obtain ⟨r, hr⟩ := h.ex
  have hlen : x.length = x.cps.toList.length := Array.length_toList.symm
  rw [hlen, hr]
  simp
  omega
theorem Shape.pos {W : List Nat} (h : Shape x W) : (7 : Int) ≤ 6 + W.length := by
  have := List.length_pos_iff.mpr h.ne
  omega
theorem told_proto1 {a b : Nat} {W : List Nat} (h : Shape x (a :: (W ++ [b]))) (hab : a ≠ b) : ToldIs x .proto :=
  ⟨h.len, h.e1, h.e2, 6 + (a :: (W ++ [b])).length, h.e3, h.pos, h.rlt, .inl (by
    have h2 := Shape.itemr (W := a :: W) h rfl
    rw [h.item6]
    exact (congrArg (fun z : Str => (⟨#[a]⟩ : Str) != z) h2).trans (item_ne hab))⟩
theorem same_ends {m : Nat} {B : List Nat} (h : Shape x (m :: (B ++ [m]))) : (Txt.item x (5 + 1) != Txt.item x ((6 + (m :: (B ++ [m])).length : Int) - 1)) = false := by
  have h2 := Shape.itemr (W := m :: B) h rfl
  rw [h.item6]
  exact (congrArg (fun z : Str => (⟨#[m]⟩ : Str) != z) h2).trans (item_eq m)
theorem told_proto2 {m : Nat} {B : List Nat} (h : Shape x (m :: (B ++ [m]))) (hc : B.count m ≠ 2) : ToldIs x .proto := by
  have hs : (Txt.split (Txt.slice x (some (5 + 1)) (some (6 + (m :: (B ++ [m])).length : Int))) (Txt.item x (5 + 1))).length = 1 + (m :: (B ++ [m])).count m := by
    rw [h.slice rfl, h.item6]; exact split_count _ _
  have hcc : (m :: (B ++ [m])).count m = B.count m + 2 := by simp [List.count_append, List.count_cons]
  have hle : (m :: (B ++ [m])).count m ≤ (m :: (B ++ [m])).length := List.count_le_length
  have hb := h.rlt
  have hb2 := h.len
  refine ⟨h.len, h.e1, h.e2, 6 + (m :: (B ++ [m])).length, h.e3, h.pos, h.rlt, .inr ⟨same_ends h, ?_, ?_⟩⟩
  · rw [hs]; omega
  · rw [hs]; omega
theorem parts5 {m : Nat} {a1 a2 a3 : List Nat} (h : Shape x (m :: ((a1 ++ m :: (a2 ++ m :: a3)) ++ [m]))) (h1 : m ∉ a1) (h2 : m ∉ a2) (h3 : m ∉ a3) :
    Txt.split (Txt.slice x (some (5 + 1)) (some (6 + (m :: ((a1 ++ m :: (a2 ++ m :: a3)) ++ [m])).length : Int))) (Txt.item x (5 + 1)) = [⟨#[]⟩, ⟨a1.toArray⟩, ⟨a2.toArray⟩, ⟨a3.toArray⟩, ⟨#[]⟩] := by
  rw [h.slice rfl, h.item6]
  have := split_is (x := ⟨(m :: ((a1 ++ m :: (a2 ++ m :: a3)) ++ [m])).toArray⟩) (c := m) (ps := [[], a1, a2, a3, []]) (by simp) (by
    intro p hp
    simp only [List.mem_cons, List.not_mem_nil, or_false] at hp
    rcases hp with rfl | rfl | rfl | rfl | rfl
    · simp
    · exact h1
    · exact h2
    · exact h3
    · simp) (by simp [joinL])
  generalize Txt.split ⟨(m :: ((a1 ++ m :: (a2 ++ m :: a3)) ++ [m])).toArray⟩ ⟨#[m]⟩ = l at this
  have hlen : l.length = 5 := by have := congrArg List.length this; simpa using this
  obtain ⟨s0, s1, s2, s3, s4, rfl⟩ : ∃ s0 s1 s2 s3 s4, l = [s0, s1, s2, s3, s4] := match l, hlen with
    | [a, b, c, d, e], _ => ⟨a, b, c, d, e, rfl⟩
  simp only [List.map_cons, List.map_nil, List.cons.injEq, and_true] at this
  obtain ⟨e0, e1, e2, e3, e4⟩ := this
  rw [str_of e0, str_of e1, str_of e2, str_of e3, str_of e4]
theorem told_value {m : Nat} {a1 a2 a3 : List Nat} (h : Shape x (m :: ((a1 ++ m :: (a2 ++ m :: a3)) ++ [m]))) (h1 : m ∉ a1) (h2 : m ∉ a2) (h3 : m ∉ a3) (hl : a3.length ≤ 640) (hc : ∀ c ∈ a3, c < 128)
    (hn : PySem.intText? ⟨a3.toArray⟩ = none) : ToldIs x .value :=
  ⟨h.len, h.e1, h.e2, _, h.e3, h.pos, h.rlt, same_ends h, _, _, _, _, _, parts5 h h1 h2 h3, by
    show a3.toArray.size ≤ 640
    rw [List.size_toArray]; exact hl, fun c hcc => Nat.lt_trans (hc c (by simpa using hcc)) (by decide), hn⟩
theorem told_port {m : Nat} {a1 a2 a3 : List Nat} {n : Int} (h : Shape x (m :: ((a1 ++ m :: (a2 ++ m :: a3)) ++ [m]))) (h1 : m ∉ a1) (h2 : m ∉ a2) (h3 : m ∉ a3) (hl : a3.length ≤ 640)
    (hn : PySem.intText? ⟨a3.toArray⟩ = some n) : ToldIs x (.port n) :=
  ⟨h.len, h.e1, h.e2, _, h.e3, h.pos, h.rlt, same_ends h, _, _, _, _, _, parts5 h h1 h2 h3, by
    show a3.toArray.size ≤ 640
    rw [List.size_toArray]; exact hl, hn⟩
end
end Mine
end
/-! part Pu3 -/
section
open PySem PySem.W PyProof.Rows PySem.NumText
set_option Elab.async false
namespace Mine
/-- blanks off both ends -/
def rs (l : List Nat) : List Nat := (l.reverse.dropWhile blank).reverse
def st (l : List Nat) : List Nat := rs (l.dropWhile blank)
def gI (s : List Nat) : Option Int :=
  match digits? 10 (sign s).2 with
  | some ds => if ds.size ≤ 4300 then some (worth (sign s).1 ds) else none
  | none => none
theorem dropWhile_head {p : Nat → Bool} : ∀ l : List Nat, l.dropWhile p = [] ∨ ∃ c r, l.dropWhile p = c :: r ∧ p c = false
  | [] => .inl rfl
  | x :: l => by
    by_cases h : p x = true
    · rw [List.dropWhile_cons, if_pos h]; exact dropWhile_head l
    · rw [List.dropWhile_cons, if_neg h]
      exact .inr ⟨x, l, rfl, by simpa using h⟩
theorem rs_cons {c : Nat} (l : List Nat) (h : blank c = false) : rs (c :: l) = c :: rs l := by
  unfold rs
  rw [List.reverse_cons]
  have : (l.reverse ++ [c]).dropWhile blank = l.reverse.dropWhile blank ++ [c] := by
    generalize l.reverse = q
    induction q with
    | nil => show [c].dropWhile blank = [c]; rw [List.dropWhile_cons, h]; rfl
    | cons x q ih =>
      rw [List.cons_append, List.dropWhile_cons, List.dropWhile_cons]
      split
      · exact ih
      · rfl
  rw [this, List.reverse_append]
  rfl
theorem rs_nil : rs [] = [] := rfl
theorem dropWhile_idem {p : Nat → Bool} (l : List Nat) : (l.dropWhile p).dropWhile p = l.dropWhile p := by
  rcases dropWhile_head (p := p) l with h | ⟨c, r, h, hc⟩
  · rw [h]; rfl
  · rw [h, List.dropWhile_cons, hc]; rfl
theorem rs_rs (l : List Nat) : rs (rs l) = rs l := by
  unfold rs
  rw [List.reverse_reverse, dropWhile_idem]
theorem st_cases (l : List Nat) : (l.dropWhile blank = [] ∧ st l = []) ∨ ∃ c r, l.dropWhile blank = c :: r ∧ blank c = false ∧ st l = c :: rs r := by
  rcases dropWhile_head (p := blank) l with h | ⟨c, r, h, hc⟩
  · exact .inl ⟨h, by unfold st; rw [h]; rfl⟩
  · exact .inr ⟨c, r, h, hc, by unfold st; rw [h, rs_cons r hc]⟩
theorem st_st (l : List Nat) : st (st l) = st l := by
  rcases st_cases l with ⟨_, h⟩ | ⟨c, r, _, hc, h⟩
  · rw [h]; rfl
  · rw [h]
    unfold st
    rw [List.dropWhile_cons, hc]
    show rs (c :: rs r) = _
    rw [rs_cons _ hc, rs_rs]
theorem core_sign (l : List Nat) : core l = (sign (st l)).2 ∧ (sign (l.dropWhile blank)).1 = (sign (st l)).1 := by
  unfold core
  rcases st_cases l with ⟨h1, h⟩ | ⟨c, r, h1, hc, h⟩
  · rw [h, h1]; exact ⟨rfl, rfl⟩
  · rw [h, h1]
    by_cases e1 : c = 45
    · subst e1; exact ⟨rfl, rfl⟩
    by_cases e2 : c = 43
    · subst e2; exact ⟨rfl, rfl⟩
    rw [sign_of e1 e2, sign_of e1 e2]
    exact ⟨rs_cons r hc, rfl⟩
/-- small signs that are no nought -/
def Okc (l : List Nat) : Prop := ∀ c ∈ l, c < 128 ∧ c ≠ 0
theorem int_is {l : List Nat} (h : Okc l) : PySem.intText? ⟨l.toArray⟩ = gI (st l) := by
  have e1 : numTextOf ⟨l.toArray⟩ = l := by
    refine (if_pos ?_).trans rfl
    rw [← Array.all_toList, List.all_eq_true]
    intro c hc
    exact decide_eq_true (h c hc).1
  have e2 : numSeenOf ⟨l.toArray⟩ = l := by
    show (numTextOf ⟨l.toArray⟩).takeWhile _ = _
    rw [e1]
    exact takeWhile_all fun c hc => bne_iff_ne.mpr (h c hc).2
  unfold PySem.intText?
  rw [e1, e2]
  obtain ⟨h1, h2⟩ := core_sign l
  rw [h1, h2]
  simp only [beq_self_eq_true, if_true]
  rfl
/-- a sign that is no digit spoils the number -/
theorem foldl_bad : ∀ (cs : List Nat) (p : Array Nat × Bool) (c : Nat), c ∈ cs → c ≠ 95 → (∀ d, digit? c = some d → 10 ≤ d) → cs.foldlM (NumText.step 10) p = none
  | [], _, _, h, _, _ => by simp at h
  | x :: cs, p, c, hm, h1, h2 => by
    rw [List.foldlM_cons]
    by_cases e : x = c
    · subst e
      have : NumText.step 10 p x = none := by
        unfold NumText.step
        rw [if_neg (by simpa using h1)]
        cases hd : digit? x with
        | none => rfl
        | some d => exact if_neg (by have := h2 d hd; omega)
      rw [this]; rfl
    · have hm' : c ∈ cs := by
        rcases List.mem_cons.mp hm with q | q
        · exact absurd q.symm e
        · exact q
      cases hs : NumText.step 10 p x with
      | none => rfl
      | some p' => exact foldl_bad cs p' c hm' h1 h2
theorem digits_bad {cs : List Nat} {c : Nat} (hm : c ∈ cs) (h1 : c ≠ 95) (h2 : ∀ d, digit? c = some d → 10 ≤ d) : digits? 10 cs = none := by
  unfold digits?
  rw [foldl_bad cs _ c hm h1 h2]; rfl
theorem gI_bad {s : List Nat} {c : Nat} (hm : c ∈ (sign s).2) (h1 : c ≠ 95) (h2 : ∀ d, digit? c = some d → 10 ≤ d) : gI s = none := by
  unfold gI
  rw [digits_bad hm h1 h2]
theorem in_sign {s : List Nat} {c : Nat} (hm : c ∈ s) (h1 : c ≠ 45) (h2 : c ≠ 43) : c ∈ (sign s).2 := by
  cases s with
  | nil => simp at hm
  | cons x s =>
    by_cases e1 : x = 45
    · subst e1
      show c ∈ s
      rcases List.mem_cons.mp hm with q | q
      · exact absurd q h1
      · exact q
    by_cases e2 : x = 43
    · subst e2
      show c ∈ s
      rcases List.mem_cons.mp hm with q | q
      · exact absurd q h2
      · exact q
    rw [sign_of e1 e2]; exact hm
theorem mem_dropWhile {p : Nat → Bool} {c : Nat} (hc : p c = false) : ∀ {l : List Nat}, c ∈ l → c ∈ l.dropWhile p
  | [], h => h
  | x :: l, h => by
    rw [List.dropWhile_cons]
    split
    · rename_i hx
      rcases List.mem_cons.mp h with q | q
      · rw [q, hx] at hc; cases hc
      · exact mem_dropWhile hc q
    · exact h
theorem in_st {l : List Nat} {c : Nat} (hc : blank c = false) (h : c ∈ l) : c ∈ st l := by
  unfold st rs
  exact List.mem_reverse.mpr (mem_dropWhile hc (List.mem_reverse.mpr (mem_dropWhile hc h)))
theorem dot_none {l : List Nat} (h : 46 ∈ l) : gI (st l) = none :=
  gI_bad (in_sign (in_st (by decide) h) (by decide) (by decide)) (by decide) (fun d hd => by rw [show digit? 46 = none from rfl] at hd; cases hd)
/-- all blank -/
def Bl (l : List Nat) : Prop := ∀ c ∈ l, blank c = true
theorem dw_bl : ∀ {a b : List Nat}, Bl a → (a ++ b).dropWhile blank = b.dropWhile blank
  | [], _, _ => rfl
  | x :: a, b, h => by
    rw [List.cons_append, List.dropWhile_cons, if_pos (h x (.head _))]
    exact dw_bl fun c hc => h c (.tail _ hc)
theorem rs_bl {a b : List Nat} (h : Bl b) : rs (a ++ b) = rs a := by
  unfold rs
  rw [List.reverse_append, dw_bl fun c hc => h c (List.mem_reverse.mp hc)]
theorem st_bl {a s b : List Nat} (h1 : Bl a) (h2 : Bl b) : st (a ++ (s ++ b)) = st s := by
  unfold st
  rw [dw_bl h1]
  rcases dropWhile_head (p := blank) s with h | ⟨c, r, h, hc⟩
  · have hs : Bl s := by
      intro c hc
      cases hb : blank c with
      | true => rfl
      | false =>
        have := mem_dropWhile hb hc
        rw [h] at this; simp at this
    rw [dw_bl hs, h]
    have : rs (b.dropWhile blank) = rs ([] ++ b.dropWhile blank) := rfl
    rw [this, rs_bl fun c hc => h2 c ((List.dropWhile_sublist _).subset hc)]
  · have e : (s ++ b).dropWhile blank = s.dropWhile blank ++ b := by
      clear h2
      induction s with
      | nil => cases h
      | cons x s ih =>
        rw [List.cons_append, List.dropWhile_cons, List.dropWhile_cons]
        split
        · rename_i hx
          rw [List.dropWhile_cons, if_pos hx] at h
          exact ih h
        · rfl
    rw [e, rs_bl h2]
theorem dw_split : ∀ l : List Nat, ∃ a, Bl a ∧ l = a ++ l.dropWhile blank
  | [] => ⟨[], (fun _ h => nomatch h), rfl⟩
  | x :: l => by
    by_cases hx : blank x = true
    · obtain ⟨a, h1, h2⟩ := dw_split l
      refine ⟨x :: a, fun c hc => ?_, ?_⟩
      · rcases List.mem_cons.mp hc with rfl | hc
        · exact hx
        · exact h1 c hc
      · rw [List.dropWhile_cons, if_pos hx, List.cons_append, ← h2]
    · exact ⟨[], fun _ h => (nomatch h), by rw [List.dropWhile_cons, if_neg hx]; rfl⟩
theorem rs_split (l : List Nat) : ∃ b, Bl b ∧ l = rs l ++ b := by
  obtain ⟨a, h1, h2⟩ := dw_split l.reverse
  refine ⟨a.reverse, fun c hc => h1 c (List.mem_reverse.mp hc), ?_⟩
  unfold rs
  rw [← List.reverse_append, ← h2, List.reverse_reverse]
theorem st_split (l : List Nat) : ∃ a b, Bl a ∧ Bl b ∧ l = a ++ (st l ++ b) := by
  obtain ⟨a, h1, h2⟩ := dw_split l
  obtain ⟨b, h3, h4⟩ := rs_split (l.dropWhile blank)
  refine ⟨a, b, h1, h3, ?_⟩
  unfold st
  rw [← h4]; exact h2
theorem fT_app {a b : List Nat} (h : a.getLast? ≠ some 13 ∨ ∀ r, b ≠ 10 :: r) : fT (a ++ b) = fT a ++ fT b := by
  revert h
  refine fT_rec (P := fun a => (a.getLast? ≠ some 13 ∨ ∀ r, b ≠ 10 :: r) → fT (a ++ b) = fT a ++ fT b) a (fun _ => by simp [fT]) ?_ ?_ ?_ ?_
  · intro l ih h
    rw [List.cons_append, List.cons_append, fT_two, fT_two, List.cons_append, List.cons_append]
    cases l with
    | nil => simp [fT]
    | cons x l => rw [ih (by rw [List.getLast?_cons_cons, List.getLast?_cons_cons] at h; exact h)]
  · intro l hl ih h
    rw [List.cons_append, fT_13 l hl]
    cases l with
    | nil =>
      rw [List.nil_append, fT_13 b (fun ys e => by
        rcases h with h | h
        · exact h rfl
        · exact h ys e)]
      simp [fT]
    | cons x l =>
      rw [fT_13 _ (fun ys e => by rw [List.cons_append] at e; exact hl l (by rw [(List.cons.inj e).1]))]
      rw [ih (by rw [List.getLast?_cons_cons] at h; exact h)]
      rfl
  · intro l ih h
    rw [List.cons_append, fT_10, fT_10]
    cases l with
    | nil => simp [fT]
    | cons x l => rw [ih (by rw [List.getLast?_cons_cons] at h; exact h)]; rfl
  · intro x l h1 h2 ih h
    rw [List.cons_append, fT_else _ _ h1 h2, fT_else _ _ h1 h2]
    cases l with
    | nil => simp [fT]
    | cons y l => rw [ih (by rw [List.getLast?_cons_cons] at h; exact h)]; rfl
theorem fT_same {l : List Nat} (h1 : 10 ∉ l) (h2 : 13 ∉ l) : fT l = l := by
  induction l with
  | nil => simp [fT]
  | cons x l ih =>
    rw [fT_else _ _ (fun e => h1 (by rw [e]; exact .head _)) (fun e => h2 (by rw [e]; exact .head _)), ih (fun h => h1 (.tail _ h)) (fun h => h2 (.tail _ h))]
theorem fT_bl {l : List Nat} (h : Bl l) : Bl (fT l) := by
  intro c hc
  rcases fT_in l c hc with h1 | rfl | rfl
  · exact h c h1
  · rfl
  · rfl
theorem fT_has (l : List Nat) : (10 ∈ l ∨ 13 ∈ l) → 10 ∈ fT l := by
  refine fT_rec (P := fun l => (10 ∈ l ∨ 13 ∈ l) → 10 ∈ fT l) l (by simp) ?_ ?_ ?_ ?_
  · intro l _ _; rw [fT_two]; simp
  · intro l hl _ _; rw [fT_13 l hl]; simp
  · intro l _ _; rw [fT_10]; simp
  · intro x l h1 h2 ih h
    rw [fT_else _ _ h1 h2]
    refine .tail _ (ih ?_)
    rcases h with h | h
    · rcases List.mem_cons.mp h with q | q
      · exact absurd q.symm h1
      · exact .inl q
    · rcases List.mem_cons.mp h with q | q
      · exact absurd q.symm h2
      · exact .inr q
theorem rs_last {q : List Nat} {z : Nat} (hz : blank z = false) : rs (q ++ [z]) = q ++ [z] := by
  unfold rs
  rw [List.reverse_append]
  show (([z] ++ q.reverse).dropWhile blank).reverse = _
  rw [List.singleton_append, List.dropWhile_cons, hz]
  show (z :: q.reverse).reverse = _
  simp
theorem st_ends {s : List Nat} (h : st s = s) (hne : s ≠ []) : (∃ c r, s = c :: r ∧ blank c = false) ∧ ∃ q z, s = q ++ [z] ∧ blank z = false := by
  constructor
  · rcases st_cases s with ⟨_, h1⟩ | ⟨c, r, _, hc, h1⟩
    · exact absurd (h.symm.trans h1) hne
    · exact ⟨c, rs r, h.symm.trans h1, hc⟩
  · unfold st at h
    rcases dropWhile_head (p := blank) (s.dropWhile blank).reverse with h1 | ⟨z, q, h1, hz⟩
    · unfold rs at h
      rw [h1] at h
      exact absurd h.symm hne
    · unfold rs at h
      rw [h1, List.reverse_cons] at h
      exact ⟨q.reverse, z, h.symm, hz⟩
theorem ne_of_nb {c : Nat} (h : blank c = false) : c ≠ 10 ∧ c ≠ 13 := ⟨(fun e => by rw [e] at h; cases h), (fun e => by rw [e] at h; cases h)⟩
theorem st_fT {s : List Nat} (h : st s = s) (hne : s ≠ []) : st (fT s) = fT s := by
  obtain ⟨⟨c, r, h1, hc⟩, q, z, h2, hz⟩ := st_ends h hne
  have e1 : fT s = c :: fT r := by rw [h1, fT_else _ _ (ne_of_nb hc).1 (ne_of_nb hc).2]
  have e2 : fT s = fT q ++ [z] := by
    rw [h2, fT_app (.inr fun r e => (ne_of_nb hz).1 (List.cons.inj e).1), fT_else _ _ (ne_of_nb hz).1 (ne_of_nb hz).2]
    simp [fT]
  unfold st
  have e3 : (fT s).dropWhile blank = fT s := by rw [e1, List.dropWhile_cons, hc]; rfl
  rw [e3, e2, rs_last hz]
/-- ends of rows made even do not turn a number -/
theorem gI_fT (l : List Nat) : gI (st (fT l)) = gI (st l) := by
  obtain ⟨a, b, h1, h2, h3⟩ := st_split l
  have hss := st_st l
  generalize hs : st l = s at *
  by_cases hne : s = []
  · subst hne
    have hl : Bl l := by
      rw [h3]
      intro c hc
      rcases List.mem_append.mp hc with hc | hc
      · exact h1 c hc
      · exact h2 c (by simpa using hc)
    have e : st (fT l) = [] := by
      have := st_bl (a := fT l) (s := []) (b := []) (fT_bl hl) (fun _ h => nomatch h)
      have e2 : st (fT l) = st [] := by simpa using this
      exact e2.trans rfl
    rw [e]
  · obtain ⟨⟨c, r, e1, hc⟩, q, z, e2, hz⟩ := st_ends hss hne
    have f1 : fT l = fT a ++ (fT s ++ fT b) := by
      rw [h3, fT_app (.inr fun y e => by rw [e1] at e; exact (ne_of_nb hc).1 (List.cons.inj e).1)]
      congr 1
      refine fT_app (.inl ?_)
      rw [e2, List.getLast?_append]
      intro e
      exact (ne_of_nb hz).2 (by simpa using e)
    rw [f1, st_bl (fT_bl h1) (fT_bl h2), st_fT hss hne]
    by_cases h10 : 10 ∈ s ∨ 13 ∈ s
    · have hb : ∀ {x : Nat} {y : List Nat}, x = 10 ∨ x = 13 → x ∈ y → gI y = none := fun {x y} hx hy =>
        gI_bad (in_sign hy (by omega) (by omega)) (by omega) (fun d hd => by
          rcases hx with rfl | rfl
          · rw [show digit? 10 = none from rfl] at hd; cases hd
          · rw [show digit? 13 = none from rfl] at hd; cases hd)
      rw [hb (.inl rfl) (fT_has s h10)]
      rcases h10 with h | h
      · rw [hb (.inl rfl) h]
      · rw [hb (.inr rfl) h]
    · rw [fT_same (fun h => h10 (.inl h)) (fun h => h10 (.inr h))]
theorem qT_none {l : List Nat} (h : 46 ∉ l) : ∀ b, qT b l = l := by
  induction l with
  | nil => intro b; cases b <;> rfl
  | cons x l ih =>
    intro b
    rw [qT, if_neg (fun q => h (by rw [q.2]; exact .head _)), ih (fun q => h (.tail _ q))]
theorem qT_mem {l : List Nat} : ∀ b, 46 ∈ l → 46 ∈ qT b l := by
  induction l with
  | nil => intro b h; simp at h
  | cons x l ih =>
    intro b h
    rw [qT]
    split
    · exact .head _
    · rcases List.mem_cons.mp h with q | q
      · rw [← q]; exact .head _
      · exact .tail _ (ih _ q)
theorem gI_qT (l : List Nat) (b : Bool) : gI (st (qT b l)) = gI (st l) := by
  by_cases h : 46 ∈ l
  · rw [dot_none h, dot_none (qT_mem b h)]
  · rw [qT_none h]
end Mine
end
/-! part Pu4 -/
section
open PySem PySem.W PyProof.Rows PySem.NumText PySem.Builtin PySem.Builtin.Str
set_option Elab.async false
namespace Mine
def stP (p : Nat → Bool) (l : List Nat) : List Nat := ((l.dropWhile p).reverse.dropWhile p).reverse
theorem drop_tw (p : Nat → Bool) : ∀ l : List Nat, l.drop (l.takeWhile p).length = l.dropWhile p
  | [] => rfl
  | x :: l => by
    rw [List.takeWhile_cons, List.dropWhile_cons]
    split
    · rw [List.length_cons, List.drop_succ_cons]; exact drop_tw p l
    · rfl
theorem len_tw (p : Nat → Bool) (l : List Nat) : (l.takeWhile p).length + (l.dropWhile p).length = l.length := by
  rw [← List.length_append, List.takeWhile_append_dropWhile]
theorem stripped_list (p : Nat → Bool) (x : PySem.Str) : (PySem.stripped p true true x).cps.toList = stP p x.cps.toList := by
  unfold PySem.stripped stripHi stripLo
  rw [if_pos rfl, if_pos rfl, StrLaws.strSub_toList]
  have hlen : x.length = x.cps.toList.length := Array.length_toList.symm
  rw [hlen]
  generalize x.cps.toList = l
  rw [drop_tw]
  have h1 := len_tw p l
  have h2 := len_tw p (l.dropWhile p).reverse
  rw [List.length_reverse] at h2
  unfold stP
  rw [← drop_tw p (l.dropWhile p).reverse]
  generalize ((l.dropWhile p).reverse.takeWhile p).length = k at *
  generalize (l.takeWhile p).length = a at *
  rw [List.drop_reverse, List.reverse_reverse]
  congr 1
  omega
theorem strip_list (y x : PySem.Str) : (Txt.stripChars x y).cps.toList = stP y.cps.contains x.cps.toList := by
  unfold Txt.stripChars Txt.stripBy
  split
  · rename_i h
    rw [← stripped_list]
    unfold stripSame at h
    rw [Bool.and_eq_true, beq_iff_eq, beq_iff_eq] at h
    unfold PySem.stripped
    obtain ⟨h1, h2⟩ := h
    rw [h1] at h2
    rw [h1, h2, StrLaws.strSub_toList]
    have hlen : x.length = x.cps.toList.length := Array.length_toList.symm
    rw [Nat.sub_zero, List.drop_zero, List.take_of_length_le (by omega)]
  · exact stripped_list _ _
/-- the law's signs -/
def Al (c : Nat) : Prop := c = 46 ∨ c = 10 ∨ c = 13 ∨ c = 97 ∨ c = 124 ∨ c = 32 ∨ c = 45 ∨ (48 ≤ c ∧ c ≤ 57)
def Alp (l : List Nat) : Prop := ∀ c ∈ l, Al c
theorem Alp.ok {l : List Nat} (h : Alp l) : Okc l := fun c hc => by
  have := h c hc
  unfold Al at this
  omega
theorem dw_congr {p q : Nat → Bool} : ∀ {l : List Nat}, (∀ c ∈ l, p c = q c) → l.dropWhile p = l.dropWhile q
  | [], _ => rfl
  | x :: l, h => by
    rw [List.dropWhile_cons, List.dropWhile_cons, h x (.head _), dw_congr fun c hc => h c (.tail _ hc)]
theorem stP_congr {p q : Nat → Bool} {l : List Nat} (h : ∀ c ∈ l, p c = q c) : stP p l = stP q l := by
  unfold stP
  rw [dw_congr h, dw_congr fun c hc => h c ((List.dropWhile_sublist _).subset (List.mem_reverse.mp hc))]
theorem blanks_are {c : Nat} (h : Al c) : (PySem.Str.ofString " \u000d\n").cps.contains c = blank c := by
  have e : (PySem.Str.ofString " \u000d\n").cps = #[32, 13, 10] := by decide +kernel
  rw [e]
  unfold blank
  unfold Al at h
  rw [Bool.eq_iff_iff, Array.contains_iff_mem, Bool.or_eq_true, Bool.and_eq_true, beq_iff_eq, decide_eq_true_eq, decide_eq_true_eq]
  simp
  omega
theorem strip_st {x : PySem.Str} (h : Alp x.cps.toList) : (Txt.stripChars x (PySem.Str.ofString " \u000d\n")).cps.toList = st x.cps.toList := by
  rw [strip_list, stP_congr (q := blank) fun c hc => blanks_are (h c hc)]
  rfl
def isDig (c : Nat) : Bool := decide (48 ≤ c) && decide (c ≤ 57)
theorem digs_are (c : Nat) : (PySem.Str.ofString "0123456789").cps.contains c = isDig c := by
  have e : (PySem.Str.ofString "0123456789").cps = #[48, 49, 50, 51, 52, 53, 54, 55, 56, 57] := by decide +kernel
  rw [e]
  unfold isDig
  rw [Bool.eq_iff_iff, Bool.and_eq_true, decide_eq_true_eq, decide_eq_true_eq, Array.contains_iff_mem]
  simp
  omega
theorem stP_nil {p : Nat → Bool} {l : List Nat} : stP p l = [] ↔ ∀ c ∈ l, p c = true := by
  constructor
  · intro h c hc
    cases hp : p c with
    | true => rfl
    | false =>
      have : c ∈ stP p l := List.mem_reverse.mpr (mem_dropWhile hp (List.mem_reverse.mpr (mem_dropWhile hp hc)))
      rw [h] at this; simp at this
  · intro h
    unfold stP
    have : l.dropWhile p = [] := by
      rcases dropWhile_head (p := p) l with h1 | ⟨c, r, h1, hc⟩
      · exact h1
      · have hm : c ∈ l := (List.dropWhile_sublist p).subset (by rw [h1]; exact .head _)
        rw [h c hm] at hc; cases hc
    rw [this]; rfl
theorem beq_str {x : PySem.Str} {l : List Nat} : (x == ⟨l.toArray⟩) = true ↔ x.cps.toList = l := by
  rw [beq_iff_eq]
  exact ⟨fun e => by rw [e], str_of⟩
theorem slice1 (s : List Nat) : (Txt.slice ⟨s.toArray⟩ none (some 1)).cps.toList = s.take 1 := by
  cases s with
  | nil => decide +kernel
  | cons c s =>
    have := eq_of_beq (slice_closes_to (x := ⟨(c :: s).toArray⟩) (j := 1) ⟨by decide, by simp; omega⟩)
    rw [this]
    simp
theorem sliceT (c : Nat) (s : List Nat) : (Txt.slice ⟨(c :: s).toArray⟩ (some 1) none).cps.toList = s := by
  have := eq_of_beq (slice_closes_from (x := ⟨(c :: s).toArray⟩) (i := 1) ⟨by decide, by simp; omega⟩)
  rw [this]
  simp
theorem bare_is {s : List Nat} (h : 43 ∉ s) : (duBare ⟨s.toArray⟩).cps.toList = (sign s).2 := by
  unfold duBare
  have e : PySem.Str.ofString "-" = ⟨[45].toArray⟩ := by decide +kernel
  rw [e]
  cases s with
  | nil =>
    rw [if_neg (by rw [beq_str, slice1]; simp)]
    rfl
  | cons c s =>
    by_cases hc : c = 45
    · subst hc
      rw [if_pos (by rw [beq_str, slice1]; rfl), sliceT]
      rfl
    · rw [if_neg (by rw [beq_str, slice1]; simpa using hc), sign_of hc (fun e => h (by rw [e]; exact .head _))]
theorem duNo_iff {s : List Nat} (h : 43 ∉ s) : duNo ⟨s.toArray⟩ ↔ ((sign s).2 = [] ∨ ∃ c ∈ (sign s).2, isDig c = false) := by
  unfold duNo
  have e : PySem.Str.ofString "" = ⟨([] : List Nat).toArray⟩ := by decide +kernel
  have e3 : (Txt.stripChars (duBare ⟨s.toArray⟩) (PySem.Str.ofString "0123456789") != ⟨([] : List Nat).toArray⟩) = true ↔ ¬ ∀ c ∈ (sign s).2, (PySem.Str.ofString "0123456789").cps.contains c = true := by
    rw [bne_iff_ne, ← stP_nil, ← bare_is h, ← strip_list]
    exact not_congr ⟨fun q => by rw [q], fun q => str_of q⟩
  rw [e, beq_str, bare_is h, e3]
  refine or_congr Iff.rfl ?_
  constructor
  · intro hn
    rw [Classical.not_forall] at hn
    obtain ⟨c, hc⟩ := hn
    rw [Classical.not_imp, digs_are] at hc
    exact ⟨c, hc.1, by simpa using hc.2⟩
  · rintro ⟨c, hc, hd⟩ hall
    have := hall c hc
    rw [digs_are, hd] at this; cases this
theorem gI_no {s : List Nat} (ha : Alp s) (h : duNo ⟨s.toArray⟩) : gI s = none := by
  have h43 : 43 ∉ s := fun q => by have := ha 43 q; unfold Al at this; omega
  rcases (duNo_iff h43).mp h with h | ⟨c, hc, hd⟩
  · unfold gI; rw [h]; rfl
  · have hcs : c ∈ s := by
      unfold sign at hc
      split at hc
      · exact .tail _ hc
      · exact .tail _ hc
      · exact hc
    have hal := ha c hcs
    refine gI_bad hc (fun e => by rw [e] at hal; unfold Al at hal; omega) (fun d hd2 => ?_)
    unfold isDig at hd
    rw [Bool.and_eq_false_iff, decide_eq_false_iff_not, decide_eq_false_iff_not] at hd
    rcases hal with rfl | rfl | rfl | rfl | rfl | rfl | rfl | hh
    · rw [show digit? 46 = none from rfl] at hd2; cases hd2
    · rw [show digit? 10 = none from rfl] at hd2; cases hd2
    · rw [show digit? 13 = none from rfl] at hd2; cases hd2
    · rw [show digit? 97 = some 10 from rfl] at hd2; cases hd2; decide
    · rw [show digit? 124 = none from rfl] at hd2; cases hd2
    · rw [show digit? 32 = none from rfl] at hd2; cases hd2
    · rw [show digit? 45 = none from rfl] at hd2; cases hd2
    · omega
theorem gI_yes {s : List Nat} (ha : Alp s) (hl : s.length ≤ 4000) (h : ¬ duNo ⟨s.toArray⟩) : ∃ n, gI s = some n := by
  have h43 : 43 ∉ s := fun q => by have := ha 43 q; unfold Al at this; omega
  rw [duNo_iff h43] at h
  have h1 : (sign s).2 ≠ [] := fun q => h (.inl q)
  have h2 : AllDigits (sign s).2 := fun c hc => by
    cases hd : isDig c with
    | false => exact absurd (.inr ⟨c, hc, hd⟩) h
    | true =>
      unfold isDig at hd
      rw [Bool.and_eq_true, decide_eq_true_eq, decide_eq_true_eq] at hd
      exact hd
  unfold gI
  rw [digits_of h2 h1]
  have hsz : (sign s).2.length ≤ s.length := by
    unfold sign
    split
    · exact Nat.le_succ _
    · exact Nat.le_succ _
    · exact Nat.le_refl _
  dsimp only
  rw [if_pos (by rw [push_size]; simp; omega)]
  exact ⟨_, rfl⟩
end Mine
end
/-! part Pu5 -/
section
open PySem PySem.W PyProof.Rows PySem.Builtin PySem.Builtin.Str
set_option Elab.async false
namespace Mine
/-- neighbours a, b -/
def pc (a b : Nat) : List Nat → Nat
  | x :: y :: r => (if x = a ∧ y = b then 1 else 0) + pc a b (y :: r)
  | _ => 0
theorem pc_drop (a b : Nat) : ∀ (l : List Nat) (k : Nat), pc a b (l.drop k) = (if l[k]? = some a ∧ l[k + 1]? = some b then 1 else 0) + pc a b (l.drop (k + 1))
  | [], k => by simp [pc]
  | [x], 0 => by simp [pc]
  | [x], k + 1 => by simp [pc]
  | x :: y :: r, 0 => by
    show (if x = a ∧ y = b then 1 else 0) + pc a b (y :: r) = _
    simp
  | x :: y :: r, k + 1 => by
    have := pc_drop a b (y :: r) k
    simpa using this
theorem at_two (x : PySem.Str) (a b i : Nat) : StrLaws.At x ⟨#[a, b]⟩ x.length i ↔ x.cps.toList[i]? = some a ∧ x.cps.toList[i + 1]? = some b := by
  unfold StrLaws.At
  rw [StrLaws.subAt_eq]
  have hlen : x.length = x.cps.toList.length := Array.length_toList.symm
  rw [hlen]
  generalize x.cps.toList = l
  show (i + 2 ≤ l.length ∧ ((l.drop i).take 2 == [a, b]) = true) ↔ _
  constructor
  · rintro ⟨h1, h2⟩
    rw [List.drop_eq_getElem_cons (by omega : i < l.length), List.drop_eq_getElem_cons (by omega : i + 1 < l.length)] at h2
    have h3 := eq_of_beq h2
    simp only [List.take_succ_cons, List.take_zero, List.cons.injEq, and_true] at h3
    exact ⟨by rw [List.getElem?_eq_getElem (by omega), h3.1], by rw [List.getElem?_eq_getElem (by omega), h3.2]⟩
  · rintro ⟨h1, h2⟩
    obtain ⟨k1, e1⟩ := List.getElem?_eq_some_iff.mp h1
    obtain ⟨k2, e2⟩ := List.getElem?_eq_some_iff.mp h2
    refine ⟨by omega, ?_⟩
    rw [List.drop_eq_getElem_cons k1, List.drop_eq_getElem_cons k2, e1, e2]
    simp
theorem pc_none {a b : Nat} {l : List Nat} : ∀ n k, l.length - k = n → (∀ j, k ≤ j → ¬ (l[j]? = some a ∧ l[j + 1]? = some b)) → pc a b (l.drop k) = 0
  | 0, k, e, _ => by rw [List.drop_eq_nil_of_le (by omega)]; rfl
  | n + 1, k, e, h => by
    rw [pc_drop, if_neg (h k (Nat.le_refl _)), pc_none n (k + 1) (by omega) fun j hj => h j (by omega)]
theorem pc_skip {a b : Nat} {l : List Nat} : ∀ n k c, c - k = n → k ≤ c → (∀ j, k ≤ j → j < c → ¬ (l[j]? = some a ∧ l[j + 1]? = some b)) → pc a b (l.drop k) = pc a b (l.drop c)
  | 0, k, c, e, hk, _ => by have : k = c := by omega
                            rw [this]
  | n + 1, k, c, e, hk, h => by
    rw [pc_drop, if_neg (h k (Nat.le_refl _) (by omega)), pc_skip n (k + 1) c (by omega) (by omega) fun j h1 h2 => h j (by omega) h2]
    omega
theorem chain_pairs (x : PySem.Str) {a b : Nat} (hab : a ≠ b) : ∀ (cuts : List Nat) (k f : Nat), StrLaws.ChainG x ⟨#[a, b]⟩ x.length k cuts f → (∀ j, f ≤ j → ¬ StrLaws.At x ⟨#[a, b]⟩ x.length j) → pc a b (x.cps.toList.drop k) = cuts.length
  | [], k, f, h, hn => by
    have e : f = k := h
    subst e
    exact pc_none _ f rfl fun j hj hq => hn j hj ((at_two x a b j).mpr hq)
  | c :: r, k, f, h, hn => by
    obtain ⟨h1, h2, h3, h4⟩ := h
    have ih := chain_pairs x hab r _ f h4 hn
    have hc := (at_two x a b c).mp h2
    rw [pc_skip _ k c rfl h1 fun j q1 q2 q3 => h3 j q1 q2 ((at_two x a b j).mpr q3), pc_drop, if_pos hc, pc_drop, if_neg (fun q => hab (by have := q.1.symm.trans hc.2; injection this)), List.length_cons]
    have e : c + 1 + 1 = c + (⟨#[a, b]⟩ : PySem.Str).length := rfl
    rw [e, ih]
    omega
theorem count_pair (x : PySem.Str) {a b : Nat} (hab : a ≠ b) : Txt.count x ⟨#[a, b]⟩ = (pc a b x.cps.toList : Int) := by
  obtain ⟨f, hG, hn⟩ := StrLaws.occ_tight x ⟨#[a, b]⟩ (by show (1 : Nat) ≤ 2; decide)
  have := chain_pairs x hab _ 0 f hG hn
  rw [List.drop_zero] at this
  unfold Txt.count
  rw [this]
theorem list3 (m : Nat) (bd : PySem.Str) : ((⟨#[m]⟩ : PySem.Str) ++ bd ++ ⟨#[m]⟩).cps.toList = m :: (bd.cps.toList ++ [m]) := by
  rw [PySem.Str.cps_append, PySem.Str.cps_append, Array.toList_append, Array.toList_append]
  rfl
theorem marks_dot {bd : PySem.Str} {f r : Int} : duMarks ⟨#[46]⟩ bd f r = ((46 :: (bd.cps.toList ++ [46])).count 46 : Int) + (f * (pc 10 46 (46 :: (bd.cps.toList ++ [46])) : Int) + r * (pc 13 46 (46 :: (bd.cps.toList ++ [46])) : Int)) := by
  have e0 : ((⟨#[46]⟩ : PySem.Str) == PySem.Str.ofString ".") = true := by decide +kernel
  have e1 : PySem.Str.ofString "\n." = ⟨#[10, 46]⟩ := by decide +kernel
  have e2 : PySem.Str.ofString "\u000d." = ⟨#[13, 46]⟩ := by decide +kernel
  rw [duMarks_t e0, e1, e2, count_pair _ (by decide), count_pair _ (by decide), count_cnt, cnt_count, list3]
theorem mk_dot {m : Nat} (h : m ≠ 46) : ((⟨#[m]⟩ : PySem.Str) == PySem.Str.ofString ".") = false := by
  have e : PySem.Str.ofString "." = ⟨#[46]⟩ := by decide +kernel
  rw [e, beq_eq_false_iff_ne]
  intro q
  exact h (by injection q with q; injection q with q; injection q)
theorem marks_else {m : Nat} {bd : PySem.Str} {f r : Int} (h : m ≠ 46) : duMarks ⟨#[m]⟩ bd f r = ((m :: (bd.cps.toList ++ [m])).count m : Int) := by
  rw [duMarks_f (mk_dot h), count_cnt, cnt_count, list3]
theorem eol_is {m : Nat} : (Builtin.Str.occurrences (PySem.Str.ofString "\u000d\n") ⟨#[m]⟩ 0 (PySem.Str.ofString "\u000d\n").length 1).isEmpty = false ↔ (m = 13 ∨ m = 10) := by
  have h := StrLaws.found_one (PySem.Str.ofString "\u000d\n") m
  have e : (PySem.Str.ofString "\u000d\n").cps.toList = [13, 10] := by decide +kernel
  rw [e] at h
  constructor
  · intro q
    rw [q] at h
    have := of_decide_eq_true h.symm
    simpa using this
  · intro q
    have : decide (m ∈ [13, 10]) = true := decide_eq_true (by simpa using q)
    rw [this] at h
    simpa using h
theorem free_last {c : Nat} {X Y S T : List Nat} (h1 : c ∉ S) (h2 : c ∉ T) (h : X ++ c :: S = Y ++ c :: T) : S = T := by
  have h3 := congrArg List.reverse h
  simp only [List.reverse_append, List.reverse_cons, List.append_assoc, List.singleton_append] at h3
  have := (free_app (c := c) (fun q => h1 (List.mem_reverse.mp q)) (fun q => h2 (List.mem_reverse.mp q)) h3).1
  exact List.reverse_inj.mp this
theorem joinL_snoc (c : Nat) : ∀ (qs : List (List Nat)) (z : List Nat), qs ≠ [] → ∃ Y, joinL c (qs ++ [z]) = Y ++ c :: z
  | [], _, h => absurd rfl h
  | [p], z, _ => ⟨p, rfl⟩
  | p :: q :: r, z, _ => by
    obtain ⟨Y, hY⟩ := joinL_snoc c (q :: r) z (by simp)
    refine ⟨p ++ c :: Y, ?_⟩
    show p ++ c :: joinL c (q :: r ++ [z]) = _
    rw [hY]; simp
theorem last_part {bd : PySem.Str} {m : Nat} {X S : List Nat} (hb : bd.cps.toList = X ++ m :: S) (hS : m ∉ S) : ((Txt.split bd ⟨#[m]⟩).getLastD PySem.Str.empty) = ⟨S.toArray⟩ := by
  have h1 := StrLaws.join_split bd ⟨#[m]⟩
  have h2 := join_str m (Txt.split bd ⟨#[m]⟩)
  rw [h1, hb] at h2
  have hp := split_pos bd ⟨#[m]⟩
  have hf := StrLaws.split_free bd m
  generalize Txt.split bd ⟨#[m]⟩ = l at *
  obtain ⟨qs, z, rfl⟩ : ∃ qs z, l = qs ++ [z] := ⟨l.dropLast, l.getLast (by intro q; rw [q] at hp; simp at hp), (List.dropLast_concat_getLast _).symm⟩
  rw [List.getLastD_concat]
  have hz := hf z (by simp)
  rw [List.map_append] at h2
  cases qs with
  | nil =>
    have h3 : X ++ m :: S = z.cps.toList := h2
    exact absurd (by rw [← h3]; simp) hz
  | cons q qs =>
    obtain ⟨Y, hY⟩ := joinL_snoc m ((q :: qs).map (·.cps.toList)) z.cps.toList (by simp)
    have h3 := h2.trans hY
    exact str_of (free_last hS hz h3).symm
theorem last_sign {bd : PySem.Str} {Y : List Nat} {z : Nat} (hb : bd.cps.toList = Y ++ [z]) : Txt.item bd (-1) = ⟨#[z]⟩ := by
  rw [str_of hb]
  have := item_last_right ⟨#[]⟩ Y z
  have e : (⟨#[]⟩ : PySem.Str) ++ ⟨(Y ++ [z]).toArray⟩ = ⟨(Y ++ [z]).toArray⟩ := str_empty _
  rw [e] at this
  exact this
end Mine
end
/-! part Pu6 -/
section
open PySem PySem.W PyProof.Rows
set_option Elab.async false
namespace Mine
/-- one hand over what stands between the brackets -/
def wI (d : Int) (l : List Nat) : List Nat := if d = 1 then qT false l else if d = 2 then qT false (fT l) else fT l
def ifold (ds : List Int) (l : List Nat) : List Nat := ds.foldl (fun l d => wI d l) l
theorem qT_ne {c : Nat} (hc : c ≠ 46) : ∀ (l r : List Nat) (b : Bool), qT b (l ++ c :: r) = qT b l ++ c :: qT (c == 10) r
  | [], r, b => by
    have e : qT b [] = [] := by cases b <;> rfl
    rw [e]
    show qT b (c :: r) = c :: qT (c == 10) r
    conv => lhs; rw [qT]
    exact if_neg (fun q => hc q.2)
  | x :: l, r, b => by
    rw [List.cons_append, qT, qT]
    split
    · rw [qT_ne hc l r]; rfl
    · rw [qT_ne hc l r]; rfl
theorem qT_pre (l : List Nat) : qT true ([50, 50, 57, 32, 46, 40] ++ l) = [50, 50, 57, 32, 46, 40] ++ qT false l := by
  simp [qT]
theorem fT_pre (l : List Nat) : fT ([50, 50, 57, 32, 46, 40] ++ l) = [50, 50, 57, 32, 46, 40] ++ fT l := by
  rw [fT_app (.inl (by decide))]
  congr 1
theorem fT_41 (I r : List Nat) : fT (I ++ 41 :: r) = fT I ++ 41 :: fT r := by
  rw [fT_app (.inr fun y e => by have := (List.cons.inj e).1; exact absurd this (by decide)), fT_else _ _ (by decide) (by decide)]
theorem qT_41 (I r : List Nat) : qT false (I ++ 41 :: r) = qT false I ++ 41 :: qT false r := qT_ne (by decide) I r false
theorem wT_frame (d : Int) (I r : List Nat) : ∃ r', wT d ([50, 50, 57, 32, 46, 40] ++ (I ++ 41 :: r)) = [50, 50, 57, 32, 46, 40] ++ (wI d I ++ 41 :: r') := by
  unfold wT wI
  split
  · rw [qT_pre, qT_41]; exact ⟨_, rfl⟩
  · split
    · rw [fT_pre, fT_41, qT_pre, qT_41]; exact ⟨_, rfl⟩
    · rw [fT_pre, fT_41]; exact ⟨_, rfl⟩
theorem wfold_frame : ∀ (ds : List Int) (I r : List Nat), ∃ r', wfold ds ([50, 50, 57, 32, 46, 40] ++ (I ++ 41 :: r)) = [50, 50, 57, 32, 46, 40] ++ (ifold ds I ++ 41 :: r')
  | [], I, r => ⟨r, rfl⟩
  | d :: ds, I, r => by
    obtain ⟨r1, h1⟩ := wT_frame d I r
    obtain ⟨r2, h2⟩ := wfold_frame ds (wI d I) r1
    refine ⟨r2, ?_⟩
    show wfold ds (wT d _) = [50, 50, 57, 32, 46, 40] ++ (ifold ds (wI d I) ++ 41 :: r2)
    rw [h1, h2]
theorem wI_in (d : Int) (l : List Nat) : ∀ c, c ∈ wI d l → c ∈ l ∨ c = 13 ∨ c = 10 := by
  intro c hc
  unfold wI at hc
  split at hc
  · exact .inl (qT_in _ _ _ hc)
  · split at hc
    · exact fT_in _ _ (qT_in _ _ _ hc)
    · exact fT_in _ _ hc
theorem ifold_in : ∀ (ds : List Int) (l : List Nat), ∀ c, c ∈ ifold ds l → c ∈ l ∨ c = 13 ∨ c = 10
  | [], l, c, h => .inl h
  | d :: ds, l, c, h => by
    rcases ifold_in ds (wI d l) c h with h | h
    · exact wI_in d l c h
    · exact .inr h
/-! how long it grows -/
def un (l : List Nat) : Nat := (fT l).count 10
def dn (l : List Nat) : Nat := l.countP fun c => c != 10 && c != 13
theorem fT_fT (l : List Nat) : fT (fT l) = fT l := by
  refine fT_rec (P := fun l => fT (fT l) = fT l) l (by simp [fT]) ?_ ?_ ?_ ?_
  · intro l h; rw [fT_two, fT_two, h]
  · intro l hl h; rw [fT_13 l hl, fT_two, h]
  · intro l h; rw [fT_10, fT_two, h]
  · intro x l a b h; rw [fT_else _ _ a b, fT_else _ _ a b, h]
theorem un_fT (l : List Nat) : un (fT l) = un l := by unfold un; rw [fT_fT]
theorem fT_size (l : List Nat) : (fT l).length = dn l + 2 * un l ∧ dn (fT l) = dn l := by
  unfold un dn
  refine fT_rec (P := fun l => (fT l).length = (l.countP fun c => c != 10 && c != 13) + 2 * (fT l).count 10 ∧ ((fT l).countP fun c => c != 10 && c != 13) = l.countP fun c => c != 10 && c != 13) l (by simp [fT]) ?_ ?_ ?_ ?_
  · intro l h; rw [fT_two]; simp only [List.length_cons, List.countP_cons, List.count_cons] at *; simp at *; omega
  · intro l hl h; rw [fT_13 l hl]; simp only [List.length_cons, List.countP_cons, List.count_cons] at *; simp at *; omega
  · intro l h; rw [fT_10]; simp only [List.length_cons, List.countP_cons, List.count_cons] at *; simp at *; omega
  · intro x l a b h
    rw [fT_else _ _ a b]
    have e1 : (x != 10 && x != 13) = true := by simp [a, b]
    have e2 : (x == 10) = false := by simpa using a
    simp only [List.length_cons, List.countP_cons, List.count_cons, e1, e2, if_true] at *
    simp at *; omega
theorem un_le (l : List Nat) : l.count 10 ≤ un l ∧ un l ≤ l.length := by
  unfold un
  refine fT_rec (P := fun l => l.count 10 ≤ (fT l).count 10 ∧ (fT l).count 10 ≤ l.length) l (by simp [fT]) ?_ ?_ ?_ ?_
  · intro l h; rw [fT_two]; simp only [List.length_cons, List.count_cons] at *; simp at *; omega
  · intro l hl h; rw [fT_13 l hl]; simp only [List.length_cons, List.count_cons] at *; simp at *; omega
  · intro l h; rw [fT_10]; simp only [List.length_cons, List.count_cons] at *; simp at *; omega
  · intro x l a b h
    rw [fT_else _ _ a b]
    have e2 : (x == 10) = false := by simpa using a
    simp only [List.length_cons, List.count_cons, e2] at *
    simp at *; omega
theorem qT_head {l : List Nat} (h : ∀ ys, l ≠ 10 :: ys) : ∀ b ys, qT b l ≠ 10 :: ys := by
  intro b ys e
  cases l with
  | nil => cases b <;> cases e
  | cons x l =>
    rw [qT] at e
    split at e
    · have := (List.cons.inj e).1; exact absurd this (by decide)
    · exact h l (by rw [(List.cons.inj e).1])
theorem un_qT (l : List Nat) : ∀ b, un (qT b l) = un l := by
  unfold un
  refine fT_rec (P := fun l => ∀ b, (fT (qT b l)).count 10 = (fT l).count 10) l (by intro b; cases b <;> rfl) ?_ ?_ ?_ ?_
  · intro l h b
    rw [qT, if_neg (by simp), qT, if_neg (by simp), fT_two, fT_two]
    simp only [List.count_cons]; rw [h]
  · intro l hl h b
    rw [qT, if_neg (by simp), fT_13 _ (qT_head hl _), fT_13 l hl]
    simp only [List.count_cons]; rw [h]
  · intro l h b
    rw [qT, if_neg (by simp), fT_10, fT_10]
    simp only [List.count_cons]; rw [h]
  · intro x l a c h b
    rw [qT]
    split
    · rename_i hq
      rw [fT_else 46 _ (by decide) (by decide), fT_else 46 _ (by decide) (by decide), fT_else _ _ a c, hq.2]
      simp only [List.count_cons]; rw [h]; simp
    · rw [fT_else _ _ a c, fT_else _ _ a c]
      simp only [List.count_cons]; rw [h]
theorem qT_grow : ∀ (l : List Nat) (b : Bool), (qT b l).length ≤ l.length + l.count 10 + (if b then 1 else 0) ∧ dn (qT b l) ≤ dn l + l.count 10 + (if b then 1 else 0)
  | [], b => by cases b <;> simp [qT, dn]
  | x :: l, b => by
    have h1 := qT_grow l false
    have h2 := qT_grow l (x == 10)
    unfold dn at *
    rw [qT]
    split
    · rename_i hq
      rw [hq.1, hq.2]
      simp only [List.length_cons, List.countP_cons, List.count_cons] at *
      simp at *
      omega
    · simp only [List.length_cons, List.countP_cons, List.count_cons] at *
      by_cases hx : x = 10
      · subst hx
        simp at *
        omega
      · have e2 : (x == 10) = false := by simpa using hx
        rw [e2] at h2 ⊢
        simp at *
        omega
theorem qT_small (l : List Nat) : (qT false l).length ≤ l.length + un l ∧ dn (qT false l) ≤ dn l + un l := by
  have h := qT_grow l false
  have h2 := un_le l
  simp at h
  omega
theorem dn_le (l : List Nat) : dn l ≤ l.length := List.countP_le_length
theorem wI_grow {n k : Nat} {l : List Nat} (d : Int) (h1 : un l ≤ n) (h2 : dn l ≤ n + k * n) (h3 : l.length ≤ 3 * n + k * n) : un (wI d l) ≤ n ∧ dn (wI d l) ≤ n + (k + 1) * n ∧ (wI d l).length ≤ 3 * n + (k + 1) * n := by
  have e : (k + 1) * n = k * n + n := by rw [Nat.add_mul, Nat.one_mul]
  have hf := fT_size l
  have hu := un_fT l
  have q1 := qT_small l
  have q2 := qT_small (fT l)
  have u1 := un_qT l false
  have u2 := un_qT (fT l) false
  rw [e]
  unfold wI
  split
  · omega
  · split
    · omega
    · omega
theorem ifold_grow {n : Nat} : ∀ (ds : List Int) (k : Nat) (l : List Nat), un l ≤ n → dn l ≤ n + k * n → l.length ≤ 3 * n + k * n → (ifold ds l).length ≤ 3 * n + (k + ds.length) * n
  | [], k, l, _, _, h => h
  | d :: ds, k, l, h1, h2, h3 => by
    obtain ⟨q1, q2, q3⟩ := wI_grow d h1 h2 h3
    have := ifold_grow ds (k + 1) (wI d l) q1 q2 q3
    rw [List.length_cons]
    have e : k + (ds.length + 1) = k + 1 + ds.length := by omega
    rw [e]; exact this
theorem ifold_len {n : Nat} (ds : List Int) (l : List Nat) (hl : l.length ≤ n) (hd : ds.length ≤ 4) : (ifold ds l).length ≤ 7 * n := by
  have := ifold_grow (n := n) ds 0 l (Nat.le_trans (un_le l).2 hl) (by have := dn_le l; omega) (by omega)
  have e : (0 + ds.length) * n ≤ 4 * n := Nat.mul_le_mul_right n (by omega)
  omega
end Mine
end
/-! part Pu7 -/
section
open PySem PySem.W PyProof.Rows
set_option Elab.async false
namespace Mine
/-- what stands behind the last mark, up to the number it gives -/
def Tail (m : Nat) (B B' : List Nat) : Prop := ∀ X S, B = X ++ m :: S → m ∉ S → ∃ X' S', B' = X' ++ m :: S' ∧ m ∉ S' ∧ gI (st S') = gI (st S)
theorem Tail.refl (m : Nat) (B : List Nat) : Tail m B B := fun X S h hs => ⟨X, S, h, hs, rfl⟩
theorem Tail.trans {m : Nat} {A B C : List Nat} (h1 : Tail m A B) (h2 : Tail m B C) : Tail m A C := fun X S h hs => by
  obtain ⟨X1, S1, e1, f1, g1⟩ := h1 X S h hs
  obtain ⟨X2, S2, e2, f2, g2⟩ := h2 X1 S1 e1 f1
  exact ⟨X2, S2, e2, f2, g2.trans g1⟩
theorem count_qT {m : Nat} (hm : m ≠ 46) : ∀ (l : List Nat) (b : Bool), (qT b l).count m = l.count m
  | [], b => by cases b <;> rfl
  | x :: l, b => by
    rw [qT]
    split
    · rename_i hq
      rw [hq.2]
      have e : (46 == m) = false := beq_eq_false_iff_ne.mpr (Ne.symm hm)
      simp only [List.count_cons, e, count_qT hm l false]
      simp
    · simp only [List.count_cons, count_qT hm l _]
theorem count_fT {m : Nat} (h1 : m ≠ 10) (h2 : m ≠ 13) (l : List Nat) : (fT l).count m = l.count m := by
  have e1 : (10 == m) = false := beq_eq_false_iff_ne.mpr (Ne.symm h1)
  have e2 : (13 == m) = false := beq_eq_false_iff_ne.mpr (Ne.symm h2)
  refine fT_rec (P := fun l => (fT l).count m = l.count m) l (by simp [fT]) ?_ ?_ ?_ ?_
  · intro l h; rw [fT_two]; simp only [List.count_cons, e1, e2, h]
  · intro l hl h; rw [fT_13 l hl]; simp only [List.count_cons, e1, e2, h]; simp
  · intro l h; rw [fT_10]; simp only [List.count_cons, e1, e2, h]; simp
  · intro x l a b h; rw [fT_else _ _ a b]; simp only [List.count_cons, h]
theorem tail_qT {m : Nat} (hm : m ≠ 46) (b : Bool) (B : List Nat) : Tail m B (qT b B) := fun X S h hs => by
  rw [h, qT_ne hm]
  exact ⟨_, _, rfl, fun q => hs (qT_in _ _ _ q), gI_qT _ _⟩
theorem fT_mid {m : Nat} (h1 : m ≠ 10) (h2 : m ≠ 13) (X S : List Nat) : fT (X ++ m :: S) = fT X ++ m :: fT S := by
  rw [fT_app (.inr fun y e => h1 (List.cons.inj e).1), fT_else _ _ h1 h2]
theorem tail_fT {m : Nat} (h1 : m ≠ 10) (h2 : m ≠ 13) (B : List Nat) : Tail m B (fT B) := fun X S h hs => by
  rw [h, fT_mid h1 h2]
  refine ⟨_, _, rfl, fun q => ?_, gI_fT _⟩
  rcases fT_in _ _ q with q | q | q
  · exact hs q
  · exact h2 q
  · exact h1 q
theorem qT_wrap {m : Nat} (hm : m ≠ 46) (B : List Nat) : qT false (m :: (B ++ [m])) = m :: (qT (m == 10) B ++ [m]) := by
  have h := qT_ne hm [] (B ++ [m]) false
  have h2 := qT_ne hm B [] (m == 10)
  have e : ∀ b, qT b [] = [] := fun b => by cases b <;> rfl
  rw [e] at h2
  rw [h2] at h
  rw [e] at h
  exact h
theorem fT_wrap {m : Nat} (h1 : m ≠ 10) (h2 : m ≠ 13) (B : List Nat) : fT (m :: (B ++ [m])) = m :: (fT B ++ [m]) := by
  rw [fT_else _ _ h1 h2, fT_mid h1 h2]
  simp [fT]
/-- marks that are no dots, ends of rows left alone or no mark -/
theorem step_O {m : Nat} {d : Int} (hm : m ≠ 46) (hd : (m ≠ 10 ∧ m ≠ 13) ∨ d = 1) (B : List Nat) : ∃ B', wI d (m :: (B ++ [m])) = m :: (B' ++ [m]) ∧ B'.count m = B.count m ∧ Tail m B B' := by
  by_cases h1 : d = 1
  · refine ⟨qT (m == 10) B, ?_, count_qT hm B _, tail_qT hm _ B⟩
    unfold wI
    rw [if_pos h1, qT_wrap hm]
  · obtain ⟨h10, h13⟩ := hd.resolve_right h1
    have e : (m == 10) = false := beq_eq_false_iff_ne.mpr h10
    by_cases h2 : d = 2
    · refine ⟨qT false (fT B), ?_, (count_qT hm _ _).trans (count_fT h10 h13 B), (tail_fT h10 h13 B).trans (tail_qT hm _ _)⟩
      unfold wI
      rw [if_neg h1, if_pos h2, fT_wrap h10 h13, qT_wrap hm, e]
    · refine ⟨fT B, ?_, count_fT h10 h13 B, tail_fT h10 h13 B⟩
      unfold wI
      rw [if_neg h1, if_neg h2, fT_wrap h10 h13]
theorem fold_O {m : Nat} (hm : m ≠ 46) : ∀ (ds : List Int) (B : List Nat), ((m ≠ 10 ∧ m ≠ 13) ∨ ∀ d ∈ ds, d = 1) → ∃ B', ifold ds (m :: (B ++ [m])) = m :: (B' ++ [m]) ∧ B'.count m = B.count m ∧ Tail m B B'
  | [], B, _ => ⟨B, rfl, rfl, Tail.refl m B⟩
  | d :: ds, B, h => by
    obtain ⟨B1, e1, c1, t1⟩ := step_O (d := d) hm (h.imp_right fun q => q d (.head _)) B
    obtain ⟨B2, e2, c2, t2⟩ := fold_O hm ds B1 (h.imp_right fun q x hx => q x (.tail _ hx))
    refine ⟨B2, ?_, c2.trans c1, t1.trans t2⟩
    show ifold ds (wI d _) = _
    rw [e1, e2]
/-! an end of a row as the mark, and ends made even -/
def FL (l : List Nat) : Prop := l.head? = some 13 ∧ l.getLast? = some 10
theorem last_qT {l : List Nat} {c : Nat} (hc : c ≠ 46) (h : l.getLast? = some c) (b : Bool) : (qT b l).getLast? = some c := by
  obtain ⟨q, rfl⟩ : ∃ q, l = q ++ [c] := by
    rcases List.getLast?_eq_some_iff.mp h with ⟨q, e⟩
    exact ⟨q, e⟩
  rw [qT_ne hc]
  have e : qT (c == 10) [] = [] := by cases (c == 10) <;> rfl
  rw [e]
  simp
theorem last_fT {l : List Nat} (h : l.getLast? = some 10 ∨ l.getLast? = some 13) : (fT l).getLast? = some 10 := by
  rcases h with h | h
  · obtain ⟨q, rfl⟩ := List.getLast?_eq_some_iff.mp h
    by_cases hq : q.getLast? = some 13
    · obtain ⟨p, rfl⟩ := List.getLast?_eq_some_iff.mp hq
      rw [List.append_assoc, fT_app (.inr fun y e => by have := (List.cons.inj e).1; exact absurd this (by decide))]
      show (fT p ++ fT [13, 10]).getLast? = _
      rw [fT_two]; simp [fT]
    · rw [fT_app (.inl hq), fT_10]; simp [fT]
  · obtain ⟨q, rfl⟩ := List.getLast?_eq_some_iff.mp h
    rw [fT_app (.inr fun y e => by have := (List.cons.inj e).1; exact absurd this (by decide)), fT_13 [] (fun y e => nomatch e)]
    simp [fT]
theorem head_fT {l : List Nat} {m : Nat} (hm : m = 10 ∨ m = 13) : (fT (m :: l)).head? = some 13 := by
  rcases hm with rfl | rfl
  · rw [fT_10]; rfl
  · cases l with
    | nil => rw [fT_13 [] (fun y e => nomatch e)]; rfl
    | cons x l =>
      by_cases hx : x = 10
      · subst hx; rw [fT_two]; rfl
      · rw [fT_13 _ (fun y e => hx (List.cons.inj e).1)]; rfl
theorem FL_qT {l : List Nat} (h : FL l) : FL (qT false l) := by
  refine ⟨?_, last_qT (by decide) h.2 _⟩
  obtain ⟨h1, _⟩ := h
  cases l with
  | nil => cases h1
  | cons x l =>
    have : x = 13 := by injection h1
    subst this
    rw [qT, if_neg (by simp)]; rfl
theorem FL_fT {l : List Nat} {m : Nat} (hm : m = 10 ∨ m = 13) (h1 : l.head? = some m) (h2 : l.getLast? = some 10 ∨ l.getLast? = some 13) : FL (fT l) := by
  refine ⟨?_, last_fT h2⟩
  cases l with
  | nil => cases h1
  | cons x l =>
    have : x = m := by injection h1
    subst this
    exact head_fT hm
theorem FL_wI {l : List Nat} (d : Int) (h : FL l) : FL (wI d l) := by
  unfold wI
  split
  · exact FL_qT h
  · split
    · exact FL_qT (FL_fT (.inr rfl) h.1 (.inl h.2))
    · exact FL_fT (.inr rfl) h.1 (.inl h.2)
theorem FL_fold : ∀ (ds : List Int) (l : List Nat), FL l → FL (ifold ds l)
  | [], _, h => h
  | d :: ds, l, h => FL_fold ds _ (FL_wI d h)
theorem FL_enter {d : Int} {m : Nat} {B : List Nat} (hm : m = 10 ∨ m = 13) (hd : d ≠ 1) : FL (wI d (m :: (B ++ [m]))) := by
  have h : FL (fT (m :: (B ++ [m]))) := FL_fT hm rfl (by
    rw [← List.cons_append, List.getLast?_concat]
    rcases hm with rfl | rfl
    · exact .inl rfl
    · exact .inr rfl)
  unfold wI
  rw [if_neg hd]
  split
  · exact FL_qT h
  · exact h
theorem fold_E {m : Nat} (hm : m = 10 ∨ m = 13) : ∀ (ds : List Int) (B : List Nat), (∃ d ∈ ds, d ≠ 1) → FL (ifold ds (m :: (B ++ [m])))
  | [], B, h => by obtain ⟨d, h, _⟩ := h; simp at h
  | d :: ds, B, h => by
    by_cases hd : d = 1
    · have hm46 : m ≠ 46 := by omega
      obtain ⟨B1, e1, _, _⟩ := step_O (d := d) hm46 (.inr hd) B
      show FL (ifold ds (wI d _))
      rw [e1]
      refine fold_E hm ds B1 ?_
      obtain ⟨x, hx, hx1⟩ := h
      rcases List.mem_cons.mp hx with rfl | hx
      · exact absurd hd hx1
      · exact ⟨x, hx, hx1⟩
    · exact FL_fold ds _ (FL_enter hm hd)
theorem FL_wrap {l : List Nat} (h : FL l) : ∃ W, l = 13 :: (W ++ [10]) := by
  obtain ⟨h1, h2⟩ := h
  obtain ⟨q, rfl⟩ := List.getLast?_eq_some_iff.mp h2
  cases q with
  | nil => have : (10 : Nat) = 13 := by injection h1
           exact absurd this (by decide)
  | cons x q =>
    have : x = 13 := by injection h1
    subst this
    exact ⟨q, rfl⟩
end Mine
end
/-! part Pu8 -/
section
open PySem PySem.W PyProof.Rows
set_option Elab.async false
namespace Mine
theorem pc_cons (a b x y : Nat) (r : List Nat) : pc a b (x :: y :: r) = (if x = a ∧ y = b then 1 else 0) + pc a b (y :: r) := rfl
/-- the first of a pair may be told ahead -/
theorem pc_ne {a b x : Nat} (h : x ≠ a) (l : List Nat) : pc a b (x :: l) = pc a b l := by
  cases l with
  | nil => rfl
  | cons y l => rw [pc_cons, if_neg (fun q => h q.1), Nat.zero_add]
theorem pc_ne2 {a b x y : Nat} (h : y ≠ b) (l : List Nat) : pc a b (x :: y :: l) = pc a b (y :: l) := by
  rw [pc_cons, if_neg (fun q => h q.2), Nat.zero_add]
theorem qT_cons_head (x : Nat) (l : List Nat) (b : Bool) : ∃ r, qT b (x :: l) = x :: r := by
  rw [qT]
  split
  · rename_i h; rw [h.2]; exact ⟨_, rfl⟩
  · exact ⟨_, rfl⟩
theorem pc_head {a b x : Nat} {l l' : List Nat} (h : l.head? = l'.head?) (hp : pc a b l = pc a b l') : pc a b (x :: l) = pc a b (x :: l') := by
  cases l with
  | nil =>
    cases l' with
    | nil => rfl
    | cons y l' => cases h
  | cons y l =>
    cases l' with
    | nil => cases h
    | cons z l' =>
      have : y = z := by injection h
      subst this
      rw [pc_cons, pc_cons, hp]
theorem qT_hd (l : List Nat) (b : Bool) : (qT b l).head? = l.head? := by
  cases l with
  | nil => cases b <;> rfl
  | cons x l => obtain ⟨r, h⟩ := qT_cons_head x l b; rw [h]; rfl
/-- pairs stay, dots are more by the pairs of a feed and a dot -/
theorem pc_qT {a : Nat} (ha : a ≠ 46) : ∀ (l : List Nat) (b : Bool), pc a 46 (qT b l) = pc a 46 l
  | [], b => by cases b <;> rfl
  | x :: l, b => by
    rw [qT]
    split
    · rename_i h
      rw [h.2, pc_ne (Ne.symm ha), pc_ne (Ne.symm ha), pc_ne (Ne.symm ha), pc_qT ha l false]
    · exact pc_head (qT_hd l _) (pc_qT ha l _)
theorem dots_qT : ∀ (l : List Nat) (b : Bool), (qT b l).count 46 = l.count 46 + pc 10 46 l + (if b = true ∧ l.head? = some 46 then 1 else 0)
  | [], b => by cases b <;> simp [qT, pc]
  | x :: l, b => by
    have h1 := dots_qT l false
    have h2 := dots_qT l (x == 10)
    rw [qT]
    split
    · rename_i h
      have e : x = 46 := h.2
      subst e
      rw [pc_ne (by decide)]
      have hb : b = true := h.1
      subst hb
      simp only [List.count_cons] at *
      simp at *
      omega
    · rename_i h
      have e : (if b = true ∧ (x :: l).head? = some 46 then 1 else 0) = 0 := if_neg (fun q => h ⟨q.1, by injection q.2⟩)
      rw [e]
      have e2 : pc 10 46 (x :: l) = (if x = 10 ∧ l.head? = some 46 then 1 else 0) + pc 10 46 l := by
        cases l with
        | nil => simp [pc]
        | cons y l => rw [pc_cons]; simp
      rw [e2]
      simp only [List.count_cons, h2]
      simp only [beq_iff_eq]
      omega
theorem fT_hd (l : List Nat) : (fT l).head? = (if l.head? = some 10 then some 13 else l.head?) := by
  cases l with
  | nil => simp [fT]
  | cons x l =>
    by_cases h1 : x = 10
    · subst h1; rw [fT_10]; rfl
    · by_cases h2 : x = 13
      · subst h2; rw [head_fT (.inr rfl)]; rfl
      · rw [fT_else _ _ h1 h2]; simp [h1]
theorem pc_step {a : Nat} (x : Nat) (l : List Nat) : pc a 46 (x :: l) = (if x = a ∧ l.head? = some 46 then 1 else 0) + pc a 46 l := by
  cases l with
  | nil => simp [pc]
  | cons y l => rw [pc_cons]; simp
theorem fT_hd46 (l : List Nat) : (fT l).head? = some 46 ↔ l.head? = some 46 := by
  rw [fT_hd]
  split
  · rename_i h; rw [h]; simp
  · exact Iff.rfl
theorem pc_fT (l : List Nat) : pc 10 46 (fT l) = pc 10 46 l + pc 13 46 l ∧ pc 13 46 (fT l) = 0 := by
  refine fT_rec (P := fun l => pc 10 46 (fT l) = pc 10 46 l + pc 13 46 l ∧ pc 13 46 (fT l) = 0) l (by simp [fT, pc]) ?_ ?_ ?_ ?_
  · intro l h
    rw [fT_two]
    simp only [pc_step, fT_hd46, List.head?_cons] at *
    simp at *; omega
  · intro l hl h
    rw [fT_13 l hl]
    simp only [pc_step, fT_hd46, List.head?_cons] at *
    simp at *; omega
  · intro l h
    rw [fT_10]
    simp only [pc_step, fT_hd46, List.head?_cons] at *
    simp at *; omega
  · intro x l a b h
    rw [fT_else _ _ a b]
    simp only [pc_step, fT_hd46] at *
    simp [a, b] at *; omega
/-- what the counts of deeds make of the dots -/
structure DotIs (I0 : List Nat) (f r : Int) (e : Bool) (I : List Nat) : Prop where
  dots : (I.count 46 : Int) = I0.count 46 + (f * (pc 10 46 I0 : Int) + r * (pc 13 46 I0 : Int))
  ev : e = true → pc 10 46 I = pc 10 46 I0 + pc 13 46 I0 ∧ pc 13 46 I = 0
  od : e = false → pc 10 46 I = pc 10 46 I0 ∧ pc 13 46 I = pc 13 46 I0
theorem DotIs.step {I0 I : List Nat} {f r : Int} {e : Bool} (h : DotIs I0 f r e I) {d : Int} (hd : d = 0 ∨ d = 1 ∨ d = 2) :
    DotIs I0 (dstep (f, r, e) d).1 (dstep (f, r, e) d).2.1 (dstep (f, r, e) d).2.2 (wI d I) := by
  obtain ⟨h1, h2, h3⟩ := h
  have q1 : (qT false I).count 46 = I.count 46 + pc 10 46 I := by rw [dots_qT]; simp
  have q2 : (qT false (fT I)).count 46 = (fT I).count 46 + pc 10 46 (fT I) := by rw [dots_qT]; simp
  have q3 : (fT I).count 46 = I.count 46 := count_fT (by decide) (by decide) I
  have q4 := pc_fT I
  have p1 : pc 10 46 (qT false I) = pc 10 46 I := pc_qT (by decide) I _
  have p2 : pc 13 46 (qT false I) = pc 13 46 I := pc_qT (by decide) I _
  have p3 : pc 10 46 (qT false (fT I)) = pc 10 46 (fT I) := pc_qT (by decide) _ _
  have p4 : pc 13 46 (qT false (fT I)) = pc 13 46 (fT I) := pc_qT (by decide) _ _
  have hs : pc 10 46 I + pc 13 46 I = pc 10 46 I0 + pc 13 46 I0 := by
    cases e with
    | true => have := h2 rfl; omega
    | false => have := h3 rfl; omega
  generalize hA : pc 10 46 I0 = a0 at *
  generalize hB : pc 13 46 I0 = b0 at *
  rcases hd with rfl | rfl | rfl
  · refine ⟨?_, ?_, ?_⟩
    · simp [hA, hB, dstep, wI, q3]; omega
    · intro _; simp [hA, hB, wI]; omega
    · intro he; simp [dstep] at he
  · cases e with
    | true =>
      have := h2 rfl
      refine ⟨?_, ?_, ?_⟩
      · simp [hA, hB, dstep, wI, q1, this.1, Int.add_mul]; omega
      · intro _; simp [hA, hB, wI]; omega
      · intro he; simp [dstep] at he
    | false =>
      have := h3 rfl
      refine ⟨?_, ?_, ?_⟩
      · simp [hA, hB, dstep, wI, q1, this.1, Int.add_mul]; omega
      · intro he; simp [dstep] at he
      · intro _; simp [hA, hB, wI]; omega
  · refine ⟨?_, ?_, ?_⟩
    · simp [hA, hB, dstep, wI, q2, q3, q4.1, Int.add_mul]; omega
    · intro _; simp [hA, hB, wI]; omega
    · intro he; simp [dstep] at he
theorem DotIs.fold {I0 : List Nat} : ∀ (ds : List Int) (f r : Int) (e : Bool) (I : List Nat), DotIs I0 f r e I → (∀ d ∈ ds, d = 0 ∨ d = 1 ∨ d = 2) →
    DotIs I0 (ds.foldl dstep (f, r, e)).1 (ds.foldl dstep (f, r, e)).2.1 (ds.foldl dstep (f, r, e)).2.2 (ifold ds I)
  | [], f, r, e, I, h, _ => h
  | d :: ds, f, r, e, I, h, hd => by
    have h1 := h.step (hd d (.head _))
    exact DotIs.fold ds _ _ _ _ h1 fun x hx => hd x (.tail _ hx)
theorem DotIs.start (I : List Nat) : DotIs I 0 0 false I := ⟨by simp, fun h => (nomatch h), fun _ => ⟨rfl, rfl⟩⟩
end Mine
end
/-! part Pu9 -/
section
open PySem PySem.W PyProof.Rows
set_option Elab.async false
namespace Mine
theorem qT_dot : ∀ (X S : List Nat) (b : Bool), ∃ X', qT b (X ++ 46 :: S) = X' ++ 46 :: qT false S
  | [], S, b => by
    rw [List.nil_append, qT]
    split
    · exact ⟨[46], rfl⟩
    · exact ⟨[], rfl⟩
  | x :: X, S, b => by
    rw [List.cons_append, qT]
    split
    · obtain ⟨X', h⟩ := qT_dot X S false
      rw [h]; exact ⟨46 :: 46 :: X', rfl⟩
    · obtain ⟨X', h⟩ := qT_dot X S (x == 10)
      rw [h]; exact ⟨x :: X', rfl⟩
def lf (b : Bool) (l : List Nat) : Bool := match l.getLast? with
  | none => b
  | some x => x == 10
theorem qT_snoc : ∀ (l : List Nat) (b : Bool), qT b (l ++ [46]) = qT b l ++ (if lf b l = true then [46, 46] else [46])
  | [], b => by cases b <;> rfl
  | x :: l, b => by
    rw [List.cons_append, qT, qT]
    have e : ∀ c, (c = (x == 10)) → lf c l = lf b (x :: l) := fun c hc => by
      unfold lf
      cases l with
      | nil => rw [hc]; rfl
      | cons y l => rw [List.getLast?_cons_cons]
                    cases hq : (y :: l).getLast? with
                    | none => simp at hq
                    | some z => rfl
    split
    · rename_i h
      rw [qT_snoc l false, e false (by rw [h.2]; rfl)]; rfl
    · rw [qT_snoc l _, e _ rfl]; rfl
theorem last_qT46 {l : List Nat} {z : Nat} (h : l.getLast? = some z) (b : Bool) : (qT b l).getLast? = some z := by
  by_cases hz : z = 46
  · subst hz
    obtain ⟨q, rfl⟩ := List.getLast?_eq_some_iff.mp h
    obtain ⟨X', h'⟩ := qT_dot q [] b
    rw [h']; simp [qT]
  · exact last_qT hz h b
theorem tail_q46 (b : Bool) (B : List Nat) : Tail 46 B (qT b B) := fun X S h hs => by
  obtain ⟨X', h'⟩ := qT_dot X S b
  rw [h, h', qT_none hs]
  exact ⟨X', S, rfl, hs, rfl⟩
structure TD (B : List Nat) (tw : Prop) (z : Nat) (Bk : List Nat) : Prop where
  two : tw → ∃ X, Bk = X ++ [46]
  one : ¬ tw → Bk.getLast? = some z ∧ Tail 46 B Bk ∧ (46 ∉ B → 46 ∉ Bk)
theorem TD.congr {B Bk : List Nat} {tw tw' : Prop} {z z' : Nat} (h : TD B tw z Bk) (e : tw ↔ tw') (ez : ¬ tw' → z = z') : TD B tw' z' Bk :=
  ⟨fun q => h.two (e.mpr q), fun q => ez q ▸ h.one (fun p => q (e.mp p))⟩
theorem TD.F {B Bk : List Nat} {tw : Prop} {z : Nat} (h : TD B tw z Bk) : TD B tw (if z = 10 ∨ z = 13 then 10 else z) (fT Bk) := by
  refine ⟨fun q => ?_, fun q => ?_⟩
  · obtain ⟨X, rfl⟩ := h.two q
    exact ⟨fT X, by rw [fT_mid (by decide) (by decide)]; simp [fT]⟩
  · obtain ⟨h1, h2, h3⟩ := h.one q
    refine ⟨?_, h2.trans (tail_fT (by decide) (by decide) Bk), fun hb hm => ?_⟩
    · by_cases hz : z = 10 ∨ z = 13
      · rw [if_pos hz]
        refine last_fT ?_
        rcases hz with hz | hz
        · rw [hz] at h1; exact .inl h1
        · rw [hz] at h1; exact .inr h1
      · rw [if_neg hz]
        obtain ⟨q, rfl⟩ := List.getLast?_eq_some_iff.mp h1
        have a1 : z ≠ 10 := fun e => hz (.inl e)
        have a2 : z ≠ 13 := fun e => hz (.inr e)
        rw [fT_mid a1 a2]; simp [fT]
    · rcases fT_in _ _ hm with q | q | q
      · exact h3 hb q
      · exact absurd q (by decide)
      · exact absurd q (by decide)
theorem TD.Q {B Bk : List Nat} {tw : Prop} {z : Nat} (h : TD B tw z Bk) : TD B (tw ∨ z = 10) z (qT false Bk ++ (if lf false Bk = true then [46] else [])) := by
  refine ⟨fun q => ?_, fun q => ?_⟩
  · by_cases ht : tw
    · obtain ⟨X, rfl⟩ := h.two ht
      have e : lf false (X ++ [46]) = false := by unfold lf; rw [List.getLast?_concat]; rfl
      rw [e]
      obtain ⟨X', h'⟩ := qT_dot X [] false
      rw [h']
      exact ⟨X', by simp [qT]⟩
    · have hz := q.resolve_left ht
      have e : lf false Bk = true := by unfold lf; rw [(h.one ht).1, hz]; rfl
      rw [e]
      exact ⟨_, rfl⟩
  · have ht : ¬ tw := fun p => q (.inl p)
    have hz : z ≠ 10 := fun p => q (.inr p)
    obtain ⟨h1, h2, h3⟩ := h.one ht
    have e : lf false Bk = false := by unfold lf; rw [h1]; exact beq_eq_false_iff_ne.mpr hz
    rw [e]
    simp only [Bool.false_eq_true, if_false, List.append_nil]
    exact ⟨last_qT46 h1 _, h2.trans (tail_q46 _ _), fun hb hm => h3 hb (qT_in _ _ _ hm)⟩
theorem qT_wrap46 (B : List Nat) : qT false (46 :: (B ++ [46])) = 46 :: ((qT false B ++ (if lf false B = true then [46] else [])) ++ [46]) := by
  rw [qT, if_neg (by simp)]
  show 46 :: qT false (B ++ [46]) = _
  rw [qT_snoc]
  split <;> simp
def zk (z0 : Nat) (e : Bool) : Nat := if e = true ∧ (z0 = 10 ∨ z0 = 13) then 10 else z0
def tw (z0 : Nat) (f r : Int) : Prop := (f ≠ 0 ∧ z0 = 10) ∨ (r ≠ 0 ∧ z0 = 13)
theorem stepD {B Bk : List Nat} {z0 : Nat} {f r : Int} {e : Bool} (h : TD B (tw z0 f r) (zk z0 e) Bk) (hf : 0 ≤ f) (hr : 0 ≤ r) {d : Int} (hd : d = 0 ∨ d = 1 ∨ d = 2) :
    ∃ B', wI d (46 :: (Bk ++ [46])) = 46 :: (B' ++ [46]) ∧ TD B (tw z0 (dstep (f, r, e) d).1 (dstep (f, r, e) d).2.1) (zk z0 (dstep (f, r, e) d).2.2) B' := by
  have hzF : (if zk z0 e = 10 ∨ zk z0 e = 13 then 10 else zk z0 e) = zk z0 true := by
    unfold zk
    cases e
    · simp
    · simp only [true_and]
      split <;> simp_all
  rcases hd with rfl | rfl | rfl
  · refine ⟨fT Bk, ?_, ?_⟩
    · show fT _ = _
      exact fT_wrap (by decide) (by decide) Bk
    · have := h.F
      rw [hzF] at this
      refine this.congr ?_ (fun _ => ?_)
      · simp [dstep]
      · simp [dstep]
  · refine ⟨_, qT_wrap46 Bk, h.Q.congr ?_ (fun _ => ?_)⟩
    · unfold tw zk dstep
      cases e <;> simp <;> omega
    · simp [dstep]
  · refine ⟨qT false (fT Bk) ++ (if lf false (fT Bk) = true then [46] else []), ?_, ?_⟩
    · show qT false (fT _) = _
      rw [fT_wrap (by decide) (by decide), qT_wrap46]
    · have := h.F
      rw [hzF] at this
      refine this.Q.congr ?_ (fun _ => ?_)
      · unfold tw zk dstep
        simp
        omega
      · simp [dstep]
theorem foldD {B : List Nat} {z0 : Nat} : ∀ (ds : List Int) (f r : Int) (e : Bool) (Bk : List Nat), TD B (tw z0 f r) (zk z0 e) Bk → 0 ≤ f → 0 ≤ r → (∀ d ∈ ds, d = 0 ∨ d = 1 ∨ d = 2) →
    ∃ B', ifold ds (46 :: (Bk ++ [46])) = 46 :: (B' ++ [46]) ∧ TD B (tw z0 (ds.foldl dstep (f, r, e)).1 (ds.foldl dstep (f, r, e)).2.1) (zk z0 (ds.foldl dstep (f, r, e)).2.2) B'
  | [], f, r, e, Bk, h, _, _, _ => ⟨Bk, rfl, h⟩
  | d :: ds, f, r, e, Bk, h, hf, hr, hd => by
    obtain ⟨B1, e1, h1⟩ := stepD h hf hr (hd d (.head _))
    have hb := dstep_bound [d] f r e
    have hb2 : (([d] : List Int).foldl dstep (f, r, e)) = dstep (f, r, e) d := rfl
    rw [hb2] at hb
    have k1 : 0 ≤ (dstep (f, r, e) d).1 := by omega
    have k2 : 0 ≤ (dstep (f, r, e) d).2.1 := by omega
    obtain ⟨B2, e2, h2⟩ := foldD ds (dstep (f, r, e) d).1 (dstep (f, r, e) d).2.1 (dstep (f, r, e) d).2.2 B1 h1 k1 k2 fun x hx => hd x (.tail _ hx)
    refine ⟨B2, ?_, h2⟩
    show ifold ds (wI d _) = _
    rw [e1, e2]
theorem TD.start {B : List Nat} {z0 : Nat} (h : B.getLast? = some z0) : TD B (tw z0 0 0) (zk z0 false) B :=
  ⟨fun q => by unfold tw at q; simp at q, fun _ => ⟨by unfold zk; simpa using h, Tail.refl _ _, fun q => q⟩⟩
end Mine
end
/-! part Pu10 -/
section
open PySem PySem.W PyProof.Rows
set_option Elab.async false
namespace Mine
theorem two_parts {m : Nat} : ∀ l : List Nat, l.count m = 1 → ∃ a b, l = a ++ m :: b ∧ m ∉ a ∧ m ∉ b
  | [], h => by simp at h
  | x :: l, h => by
    by_cases hx : x = m
    · subst hx
      rw [List.count_cons_self] at h
      exact ⟨[], l, rfl, by simp, fun q => by have := List.count_pos_iff.mpr q; omega⟩
    · rw [List.count_cons_of_ne hx] at h
      obtain ⟨a, b, e, h1, h2⟩ := two_parts l h
      refine ⟨x :: a, b, by rw [e]; rfl, fun q => ?_, h2⟩
      rcases List.mem_cons.mp q with q | q
      · exact hx q.symm
      · exact h1 q
theorem st_sub {l : List Nat} {c : Nat} (h : c ∈ st l) : c ∈ l := by
  obtain ⟨a, b, _, _, e⟩ := st_split l
  rw [e]; simp [h]
theorem st_len (l : List Nat) : (st l).length ≤ l.length := by
  obtain ⟨a, b, _, _, e⟩ := st_split l
  have := congrArg List.length e
  rw [List.length_append, List.length_append] at this
  omega
theorem strip_is {bd : PySem.Str} {m : Nat} {X S : List Nat} (hb : bd.cps.toList = X ++ m :: S) (hS : m ∉ S) (ha : Alp S) : duStrip ⟨#[m]⟩ bd = ⟨(st S).toArray⟩ := by
  unfold duStrip
  rw [last_part hb hS]
  exact str_of (strip_st ha)
theorem fin {x bd : PySem.Str} {m : Nat} {f r : Int} {e : Bool} {Bk X S X' S' : List Nat} (hx : Shape x (m :: (Bk ++ [m]))) (hc : Bk.count m = 2) (hb : bd.cps.toList = X ++ m :: S) (hS : m ∉ S)
    (hbk : Bk = X' ++ m :: S') (hS' : m ∉ S') (hg : gI (st S') = gI (st S)) (ha : Alp S) (hok : Okc S') (hl' : S'.length ≤ 640) (hl : S.length ≤ 640)
    (hbad : ¬ duBad ⟨#[m]⟩ bd f r e) (htw : ¬ duTwice ⟨#[m]⟩ bd f r) : ∃ o, ToldIs x o ∧ DueIs ⟨#[m]⟩ bd f r e o := by
  have h1 : X'.count m = 1 := by
    rw [hbk, List.count_append, List.count_cons_self] at hc
    have : S'.count m = 0 := List.count_eq_zero.mpr hS'
    omega
  obtain ⟨a1, a2, e1, f1, f2⟩ := two_parts X' h1
  have e2 : Bk = a1 ++ m :: (a2 ++ m :: S') := by rw [hbk, e1]; simp
  rw [e2] at hx
  have hsa : Alp (st S) := fun c q => ha c (st_sub q)
  have hi : PySem.intText? ⟨S'.toArray⟩ = gI (st S) := (int_is hok).trans hg
  have hd := strip_is hb hS ha
  by_cases hno : duNo ⟨(st S).toArray⟩
  · refine ⟨.value, told_value hx f1 f2 hS' hl' (fun c q => (hok c q).1) (hi.trans (gI_no hsa hno)), hbad, .inr ⟨htw, ?_⟩⟩
    rw [hd]; exact hno
  · obtain ⟨n, hn⟩ := gI_yes hsa (by have := st_len S; omega) hno
    refine ⟨.port n, told_port hx f1 f2 hS' hl' (hi.trans hn), hbad, htw, ?_, ?_⟩
    · rw [hd]; exact hno
    · rw [hd, int_is hsa.ok, st_st]; exact hn
theorem even_is : ∀ (ds : List Int) (f r : Int) (e : Bool), (ds.foldl dstep (f, r, e)).2.2 = true ↔ (e = true ∨ ∃ d ∈ ds, d ≠ 1)
  | [], f, r, e => by simp
  | d :: ds, f, r, e => by
    rw [List.foldl_cons]
    have := even_is ds (dstep (f, r, e) d).1 (dstep (f, r, e) d).2.1 (dstep (f, r, e) d).2.2
    refine this.trans ?_
    have e1 : (dstep (f, r, e) d).2.2 = (e || decide (d ≠ 1)) := rfl
    rw [e1, Bool.or_eq_true, decide_eq_true_eq]
    simp only [List.mem_cons, exists_eq_or_imp]
    exact or_assoc
theorem ends_of {B : List Nat} (h : B ≠ []) : ∃ Y z, B = Y ++ [z] := ⟨B.dropLast, B.getLast h, (List.dropLast_concat_getLast h).symm⟩
theorem beq_one {a b : Nat} : ((⟨#[a]⟩ : PySem.Str) == ⟨#[b]⟩) = true ↔ a = b := by
  rw [beq_iff_eq]
  exact ⟨fun q => by injection q with q; injection q with q; injection q, fun q => by rw [q]⟩
theorem twice_is {bd : PySem.Str} {Y : List Nat} {z : Nat} {f r : Int} (hb : bd.cps.toList = Y ++ [z]) : duTwice ⟨#[46]⟩ bd f r ↔ tw z f r := by
  unfold duTwice tw
  rw [last_sign hb]
  have e1 : PySem.Str.ofString "." = ⟨#[46]⟩ := by decide +kernel
  have e2 : PySem.Str.ofString "\n" = ⟨#[10]⟩ := by decide +kernel
  have e3 : PySem.Str.ofString "\u000d" = ⟨#[13]⟩ := by decide +kernel
  rw [e1, e2, e3, beq_one, beq_one, beq_one]
  simp
theorem mem_last {m : Nat} : ∀ l : List Nat, m ∈ l → ∃ X S, l = X ++ m :: S ∧ m ∉ S
  | [], h => by simp at h
  | x :: l, h => by
    by_cases hm : m ∈ l
    · obtain ⟨X, S, e, hs⟩ := mem_last l hm
      exact ⟨x :: X, S, by rw [e]; rfl, hs⟩
    · rcases List.mem_cons.mp h with q | q
      · exact ⟨[], l, by rw [q]; rfl, hm⟩
      · exact absurd q hm
/-- the law of the lists -/
theorem main_list {x bd : PySem.Str} {m : Nat} {ds : List Int} (hx : Shape x (ifold ds (m :: (bd.cps.toList ++ [m])))) (hm : m = 46 ∨ m = 124 ∨ m = 10 ∨ m = 13 ∨ m = 97 ∨ m = 55)
    (ha : Alp bd.cps.toList) (hne : bd.cps.toList ≠ []) (hl : bd.cps.toList.length ≤ 50) (hn : ds.length ≤ 4) (hd : ∀ d ∈ ds, d = 0 ∨ d = 1 ∨ d = 2) :
    ∃ o, ToldIs x o ∧ DueIs ⟨#[m]⟩ bd (ds.foldl dstep (0, 0, false)).1 (ds.foldl dstep (0, 0, false)).2.1 (ds.foldl dstep (0, 0, false)).2.2 o := by
  generalize hB : bd.cps.toList = B at *
  have hlen : (ifold ds (m :: (B ++ [m]))).length ≤ 7 * 52 := ifold_len ds _ (by simp; omega) hn
  have hok : Okc (ifold ds (m :: (B ++ [m]))) := fun c hc => by
    rcases ifold_in ds _ c hc with q | q | q
    · rcases List.mem_cons.mp q with q | q
      · omega
      · rcases List.mem_append.mp q with q | q
        · exact ha.ok c q
        · have := List.mem_singleton.mp q; omega
    · omega
    · omega
  generalize hc : ds.foldl dstep (0, 0, false) = cnts at *
  obtain ⟨f, r, e⟩ := cnts
  dsimp only
  have hev := even_is ds 0 0 false
  rw [hc] at hev
  have heol : (Builtin.Str.occurrences (PySem.Str.ofString "\u000d\n") ⟨#[m]⟩ 0 (PySem.Str.ofString "\u000d\n").length 1).isEmpty = false ↔ (m = 13 ∨ m = 10) := eol_is
  have sub_tail : ∀ {W Bk X' S' : List Nat}, W = m :: (Bk ++ [m]) → Bk = X' ++ m :: S' → W.length ≤ 7 * 52 → Okc W → Okc S' ∧ S'.length ≤ 640 := by
    intro W Bk X' S' h1 h2 h3 h4
    subst h1
    subst h2
    constructor
    · intro c q
      exact h4 c (by simp [q])
    · simp only [List.length_cons, List.length_append] at h3
      omega
  by_cases h46 : m = 46
  · subst h46
    obtain ⟨Y, z, hY⟩ := ends_of hne
    have hD := DotIs.fold ds 0 0 false _ (DotIs.start (46 :: (B ++ [46]))) hd
    obtain ⟨Bk, e1, hT⟩ := foldD ds 0 0 false B (TD.start (z0 := z) (by rw [hY]; simp)) (by decide) (by decide) hd
    rw [hc] at hD hT
    dsimp only at hD hT
    have hdots := hD.dots
    rw [e1] at hx hlen hok hdots
    have hmarks : duMarks ⟨#[46]⟩ bd f r = ((46 :: (Bk ++ [46])).count 46 : Int) := by rw [marks_dot, hB, hdots]
    have hcc : (46 :: (Bk ++ [46])).count 46 = Bk.count 46 + 2 := by simp [List.count_append]
    by_cases h4 : Bk.count 46 = 2
    · have hnb : ¬ duBad ⟨#[46]⟩ bd f r e := by
        rintro (q | ⟨_, q⟩)
        · exact q (by rw [hmarks, hcc, h4]; rfl)
        · have := heol.mp q; omega
      have htwi : duTwice ⟨#[46]⟩ bd f r ↔ tw z f r := twice_is (hB.trans hY)
      by_cases ht : tw z f r
      · obtain ⟨X, hX⟩ := hT.two ht
        have hc1 : X.count 46 = 1 := by rw [hX, List.count_append] at h4; simpa using h4
        obtain ⟨a1, a2, f0, f1, f2⟩ := two_parts X hc1
        have e2 : Bk = a1 ++ 46 :: (a2 ++ 46 :: []) := by rw [hX, f0]; simp
        rw [e2] at hx
        refine ⟨.value, told_value hx f1 f2 (by simp) (by simp) (by simp) ?_, hnb, .inl (htwi.mpr ht)⟩
        exact int_is (l := []) (fun c q => by simp at q)
      · obtain ⟨_, hTl, hfree⟩ := hT.one ht
        have h46B : 46 ∈ B := by
          refine Classical.byContradiction fun q => ?_
          have := List.count_eq_zero.mpr (hfree q)
          omega
        obtain ⟨X, S, hXS, hS⟩ := mem_last B h46B
        obtain ⟨X', S', g1, g2, g3⟩ := hTl X S hXS hS
        obtain ⟨k1, k2⟩ := sub_tail rfl g1 hlen hok
        exact fin hx h4 (hB.trans hXS) hS g1 g2 g3 (fun c q => ha c (by rw [hXS]; simp [q])) k1 k2 (by have := congrArg List.length hXS; simp at this; omega) hnb (fun q => ht (htwi.mp q))
    · refine ⟨.proto, told_proto2 hx h4, .inl ?_⟩
      rw [hmarks, hcc]
      intro q
      exact h4 (by omega)
  · have hmarks : duMarks ⟨#[m]⟩ bd f r = ((m :: (B ++ [m])).count m : Int) := by rw [marks_else h46, hB]
    have hcm : ∀ L : List Nat, (m :: (L ++ [m])).count m = L.count m + 2 := fun L => by simp [List.count_append]
    by_cases hE : (m = 10 ∨ m = 13) ∧ ∃ d ∈ ds, d ≠ 1
    · obtain ⟨W, hW⟩ := FL_wrap (fold_E hE.1 ds B hE.2)
      rw [hW] at hx
      refine ⟨.proto, told_proto1 hx (by decide), .inr ⟨hev.mpr (.inr hE.2), heol.mpr ?_⟩⟩
      rcases hE.1 with q | q
      · exact .inr q
      · exact .inl q
    · have hO : (m ≠ 10 ∧ m ≠ 13) ∨ ∀ d ∈ ds, d = 1 := by
        by_cases q : m = 10 ∨ m = 13
        · refine .inr fun d hdm => Classical.byContradiction fun hn1 => hE ⟨q, d, hdm, hn1⟩
        · exact .inl ⟨fun p => q (.inl p), fun p => q (.inr p)⟩
      obtain ⟨Bk, e1, c1, t1⟩ := fold_O h46 ds B hO
      rw [e1] at hx hlen hok
      by_cases h4 : Bk.count m = 2
      · have hnb : ¬ duBad ⟨#[m]⟩ bd f r e := by
          rintro (q | ⟨q1, q2⟩)
          · exact q (by rw [hmarks, hcm, ← c1, h4]; rfl)
          · have he := (hev.mp q1).resolve_left (by decide)
            exact hE ⟨(heol.mp q2).symm, he⟩
        have hnt : ¬ duTwice ⟨#[m]⟩ bd f r := nt1 (mk_dot h46)
        have hmB : m ∈ B := List.count_pos_iff.mp (by omega)
        obtain ⟨X, S, hXS, hS⟩ := mem_last B hmB
        obtain ⟨X', S', g1, g2, g3⟩ := t1 X S hXS hS
        obtain ⟨k1, k2⟩ := sub_tail rfl g1 hlen hok
        exact fin hx h4 (hB.trans hXS) hS g1 g2 g3 (fun c q => ha c (by rw [hXS]; simp [q])) k1 k2 (by have := congrArg List.length hXS; simp at this; omega) hnb hnt
      · refine ⟨.proto, told_proto2 hx h4, .inl ?_⟩
        rw [hmarks, hcm]
        intro q
        exact h4 (by omega)
end Mine
end
/-! part Pm -/
section
open PySem PySem.W PyProof.Rows
set_option Elab.async false
namespace Mine
theorem app_list2 (a b : Str) : (a ++ b).cps.toList = a.cps.toList ++ b.cps.toList := by rw [Str.cps_append, Array.toList_append]
theorem mark_at {c : Int} : ∃ m, tmark c = ⟨#[m]⟩ ∧ (m = 46 ∨ m = 124 ∨ m = 10 ∨ m = 13 ∨ m = 97 ∨ m = 55) := by
  have h1 := fmod_lo c (n := 8) (by decide)
  have h2 := fmod_hi c (n := 8) (by decide)
  unfold tmark
  generalize c.fmod 8 = k at *
  have hk : k = 0 ∨ k = 1 ∨ k = 2 ∨ k = 3 ∨ k = 4 ∨ k = 5 ∨ k = 6 ∨ k = 7 := by omega
  rcases hk with rfl | rfl | rfl | rfl | rfl | rfl | rfl | rfl
  · exact ⟨46, by decide +kernel, by decide⟩
  · exact ⟨46, by decide +kernel, by decide⟩
  · exact ⟨124, by decide +kernel, by decide⟩
  · exact ⟨10, by decide +kernel, by decide⟩
  · exact ⟨13, by decide +kernel, by decide⟩
  · exact ⟨97, by decide +kernel, by decide⟩
  · exact ⟨55, by decide +kernel, by decide⟩
  · exact ⟨46, by decide +kernel, by decide⟩
theorem al_dec (c : Nat) : Al c ↔ (c == 46 || c == 10 || c == 13 || c == 97 || c == 124 || c == 32 || c == 45 || (decide (48 ≤ c) && decide (c ≤ 57))) = true := by
  unfold Al
  simp [or_assoc]
def alB (l : List Nat) : Bool := l.all fun c => (c == 46 || c == 10 || c == 13 || c == 97 || c == 124 || c == 32 || c == 45 || (decide (48 ≤ c) && decide (c ≤ 57)))
theorem alB_is {l : List Nat} (h : alB l = true) : Alp l := fun c hc => (al_dec c).mpr (List.all_eq_true.mp h c hc)
theorem Alp.app {a b : List Nat} (h1 : Alp a) (h2 : Alp b) : Alp (a ++ b) := fun c hc => (List.mem_append.mp hc).elim (h1 c) (h2 c)
theorem piece_al (k : Int) : Alp (tpiece k).cps.toList := by
  unfold tpiece
  rw [List.getD_eq_getElem?_getD]
  by_cases h : k.toNat < 12
  · have : ∀ i, i < 12 → alB (PIECES[i]?.getD Str.empty).cps.toList = true := by decide +kernel
    exact alB_is (this _ h)
  · rw [List.getElem?_eq_none (by show 12 ≤ _; omega)]
    exact fun c hc => by simp [Str.empty] at hc
theorem tail_al (k : Int) : Alp (ttail k).cps.toList := by
  unfold ttail
  rw [List.getD_eq_getElem?_getD]
  by_cases h : k.toNat < 3
  · have : ∀ i, i < 3 → alB (TAILS[i]?.getD Str.empty).cps.toList = true := by decide +kernel
    exact alB_is (this _ h)
  · rw [List.getElem?_eq_none (by show 3 ≤ _; omega)]
    exact fun c hc => by simp [Str.empty] at hc
theorem mark_al (c : Int) : Alp (tmark c).cps.toList := by
  obtain ⟨m, e, hm⟩ := mark_at (c := c)
  rw [e]
  intro x hx
  have : x = m := by simpa using hx
  subst this
  unfold Al
  omega
theorem none_al : Alp (Str.ofString "").cps.toList := by
  have e : (Str.ofString "").cps.toList = [] := by decide +kernel
  rw [e]; exact fun c hc => by simp at hc
theorem one_al (c : Int) : Alp (tone c).cps.toList := by
  unfold tone; split
  · exact none_al
  · exact mark_al c
theorem two_al (c : Int) : Alp (ttwo c).cps.toList := by
  unfold ttwo; split
  · exact none_al
  · exact mark_al c
theorem digs_al {n : Int} (h0 : 0 ≤ n) (h1 : n < 73) : Alp (Str.ofString (toString n)).cps.toList ∧ 1 ≤ (Str.ofString (toString n)).length := by
  have h : ∀ k : Nat, k < 73 → (alB (Str.ofString (toString (k : Int))).cps.toList = true ∧ 1 ≤ (Str.ofString (toString (k : Int))).length) := by decide +kernel
  have := h n.toNat (by omega)
  rw [Int.toNat_of_nonneg h0] at this
  exact ⟨alB_is this.1, this.2⟩
theorem port_lt {c : Int} (h0 : 0 ≤ c) (h1 : c < 1000000) : 0 ≤ c.fdiv 13824 ∧ c.fdiv 13824 < 73 := by
  rw [Int.fdiv_eq_ediv_of_nonneg _ (by decide)]; omega
theorem body_al {c : Int} (h0 : 0 ≤ c) (h1 : c < 1000000) : Alp (tbody c).cps.toList := by
  obtain ⟨p0, p1⟩ := port_lt h0 h1
  unfold tbody
  simp only [app_list2]
  exact (((piece_al _).app (one_al c)).app (piece_al _)).app (((two_al c).app (digs_al p0 p1).1).app (tail_al _))
theorem body_len {c : Int} (h0 : 0 ≤ c) (h1 : c < 1000000) : 1 ≤ (tbody c).length ∧ (tbody c).length ≤ 30 := by
  obtain ⟨p0, p1⟩ := port_lt h0 h1
  have a1 := tpiece_len ((c.fdiv 8).fmod 12)
  have a2 := tpiece_len ((c.fdiv 96).fmod 12)
  have a3 := tone_len c
  have a4 := ttwo_len c
  have a5 := ttail_len ((c.fdiv 4608).fmod 3)
  have a6 : (Str.ofString (toString (c.fdiv 13824))).length ≤ 10 := KT.len_num (by omega) (by omega)
  have a7 := (digs_al p0 p1).2
  unfold tbody
  simp only [Str.length_append]
  omega
theorem tbody_pos {c : Int} (h0 : 0 ≤ c) (h1 : c < 1000000) : 1 ≤ (tbody c).length := (body_len h0 h1).1
theorem text_list {c : Int} {m : Nat} (hm : tmark c = ⟨#[m]⟩) : (text0 c).cps.toList = [50, 50, 57, 32, 46, 40] ++ ((m :: ((tbody c).cps.toList ++ [m])) ++ 41 :: [10, 46]) := by
  unfold text0
  rw [hm]
  simp only [app_list2]
  have e1 : (Str.ofString "229 .(").cps.toList = [50, 50, 57, 32, 46, 40] := by decide +kernel
  have e2 : (Str.ofString ")\n.").cps.toList = [41, 10, 46] := by decide +kernel
  rw [e1, e2]
  simp
theorem wT_sizes (d : Int) (l : List Nat) : (wT d l).length ≤ 4 * l.length ∧ l.length ≤ (wT d l).length ∧ ∀ x, x ∈ wT d l → x ∈ l ∨ x = 13 ∨ x = 10 := by
  have a1 := qT_len l true
  have a2 := qT_len (fT l) true
  have a3 := fT_len l
  have a4 := qT_ge l true
  have a5 := qT_ge (fT l) true
  have a6 := fT_ge l
  unfold wT
  split
  · exact ⟨by omega, by omega, fun x hx => .inl (qT_in _ _ _ hx)⟩
  · split
    · exact ⟨by omega, by omega, fun x hx => fT_in _ _ (qT_in _ _ _ hx)⟩
    · exact ⟨by omega, by omega, fun x hx => fT_in _ _ hx⟩
theorem wfold_sizes : ∀ (ds : List Int) (l : List Nat), (wfold ds l).length ≤ 4 ^ ds.length * l.length ∧ l.length ≤ (wfold ds l).length ∧ ∀ x, x ∈ wfold ds l → x ∈ l ∨ x = 13 ∨ x = 10
  | [], l => ⟨by simp [wfold], Nat.le_refl _, fun x hx => .inl hx⟩
  | d :: ds, l => by
    obtain ⟨a1, a2, a3⟩ := wT_sizes d l
    obtain ⟨b1, b2, b3⟩ := wfold_sizes ds (wT d l)
    refine ⟨?_, Nat.le_trans a2 b2, fun x hx => ?_⟩
    · refine Nat.le_trans b1 ?_
      rw [List.length_cons, Nat.pow_succ, Nat.mul_assoc]
      exact Nat.mul_le_mul_left _ a1
    · rcases b3 x hx with q | q
      · exact a3 x q
      · exact .inr q
theorem tx_ok {c : Int} (h0 : 0 ≤ c) (h1 : c < 1000000) {ds : List Int} (hn : ds.length ≤ 4) : (TX c ds).length ≤ 40000 ∧ 0 < (TX c ds).length ∧ ∀ x ∈ (TX c ds).cps.toList, x < 128 := by
  obtain ⟨m, hm, hmm⟩ := mark_at (c := c)
  have hl := text_list hm
  have hb := body_len h0 h1
  have hbl : (tbody c).cps.toList.length = (tbody c).length := Array.length_toList
  have hlen : (text0 c).cps.toList.length = (tbody c).length + 11 := by rw [hl]; simp [hbl]
  obtain ⟨a1, a2, a3⟩ := wfold_sizes ds (text0 c).cps.toList
  have hp : 4 ^ ds.length ≤ 4 ^ 4 := Nat.pow_le_pow_right (by decide) hn
  have hq : 4 ^ ds.length * (text0 c).cps.toList.length ≤ 4 ^ 4 * (text0 c).cps.toList.length := Nat.mul_le_mul_right _ hp
  have hx : (TX c ds).length = (wfold ds (text0 c).cps.toList).length := List.size_toArray ..
  have e4 : 4 ^ 4 = 256 := by decide
  rw [e4] at hq
  refine ⟨by omega, by omega, fun x hx => ?_⟩
  rcases a3 x hx with q | q | q
  · rw [hl] at q
    simp only [List.mem_append, List.mem_cons, List.not_mem_nil, or_false] at q
    rcases q with q | q
    · omega
    · rcases q with (q | q | q) | q
      · omega
      · exact ((body_al h0 h1).ok x q).1
      · omega
      · omega
  · omega
  · omega
theorem wI_ge (d : Int) (l : List Nat) : l.length ≤ (wI d l).length := by
  have a4 := qT_ge l false
  have a5 := qT_ge (fT l) false
  have a6 := fT_ge l
  unfold wI
  split
  · exact a4
  · split
    · omega
    · exact a6
theorem ifold_ge : ∀ (ds : List Int) (l : List Nat), l.length ≤ (ifold ds l).length
  | [], l => Nat.le_refl _
  | d :: ds, l => Nat.le_trans (wI_ge d l) (ifold_ge ds _)
theorem pure_main {c : Int} (h0 : 0 ≤ c) (h1 : c < 1000000) {ds : List Int} (hn : ds.length ≤ 4) (hd : ∀ d ∈ ds, d = 0 ∨ d = 1 ∨ d = 2) :
    ∃ o, ToldIs (TX c ds) o ∧ DueIs (tmark c) (tbody c) (ds.foldl dstep (0, 0, false)).1 (ds.foldl dstep (0, 0, false)).2.1 (ds.foldl dstep (0, 0, false)).2.2 o := by
  obtain ⟨m, hm, hmm⟩ := mark_at (c := c)
  have hl := text_list hm
  have hb := body_len h0 h1
  have hbl : (tbody c).cps.toList.length = (tbody c).length := Array.length_toList
  have hx := tx_ok h0 h1 hn
  obtain ⟨r, hr⟩ := wfold_frame ds (m :: ((tbody c).cps.toList ++ [m])) [10, 46]
  rw [← hl] at hr
  rw [hm]
  refine main_list ⟨?_, by omega, ⟨r, ?_⟩, ?_⟩ hmm (body_al h0 h1) (fun q => by rw [q] at hbl; simp at hbl; omega) (by omega) hn hd
  · intro q
    have := (wfold_sizes ds (text0 c).cps.toList).2.1
    have h41 := ifold_ge ds (m :: ((tbody c).cps.toList ++ [m]))
    rw [q] at h41
    simp at h41
  · show wfold ds (text0 c).cps.toList = _
    rw [hr]; simp
  · intro q
    rcases ifold_in ds _ 41 q with q | q | q
    · rcases List.mem_cons.mp q with q | q
      · omega
      · rcases List.mem_append.mp q with q | q
        · have := body_al h0 h1 41 q
          unfold Al at this; omega
        · have := List.mem_singleton.mp q; omega
    · omega
    · omega
end Mine
end
theorem Mine.topOffL1 : True := by
  w_top off
  trivial
/-! part L1 -/
section
open PySem PySem.W PyProof.Rows PySem.Calls
set_option Elab.async false
namespace Mine
def Halt (P : Prop) : Prop := P
theorem halt {P : Prop} (h : Halt P) : P := h
def Deeds (ds : List Int) : Prop := ds.length = 4 ∧ ∀ d ∈ ds, d = 0 ∨ d = 1 ∨ d = 2
theorem host_ok {i : Nat} (h : i < 5) : PyData.strOk (hostOf i) = true ∧ (hostOf i).length ≤ 100 := by
  have : ∀ i, i < 5 → PyData.strOk (hostOf i) = true ∧ (hostOf i).length ≤ 100 := by decide +kernel
  exact this i h
def stBody : Stmt → List Stmt
  | .For _ _ b _ _ => b
  | _ => []
def stNth : Nat → List Stmt → Stmt
  | _, [] => .Pass default
  | 0, x :: _ => x
  | n + 1, _ :: l => stNth n l
def outerBody (b : List Stmt) : List Stmt := stBody (stNth 2 b)
def innerBody (b : List Stmt) : List Stmt := stBody (stNth 3 (outerBody b))
theorem with_body {K : Frag} {f : Addr} {G : Prop} {name qual : Str} {params : Arguments} {body : List Stmt} {scope : Scope} {dV kV doc pm cdv ct oc : Value} {an od : Option Addr} {osl : Array (Option Value)}
    {name' qual' : Str} {params' : Arguments} {body' : List Stmt} {scope' : Scope} {dV' kV' doc' pm' cdv' ct' oc' : Value} {an' od' : Option Addr} {osl' : Array (Option Value)}
    (e : K.lookup f = some ⟨oc', od', .func (fnOf name' qual' params' body' scope' dV' kV' doc' pm' an' cdv' ct'), osl'⟩)
    (hb : K.lookup f = some ⟨oc, od, .func (fnOf name qual params body scope dV kV doc pm an cdv ct), osl⟩) (h : body = body' → scope = scope' → G) : G := by
  rw [e] at hb
  have h1 := congrArg Obj.data (Option.some.inj hb)
  have h2 := Data.func.inj h1
  have h3 := congrArg FuncData.scope h2
  have h4 := FuncBody.stmts.inj (congrArg FuncData.body h2)
  dsimp only at h3
  exact h h4.symm h3.symm
theorem tbody_len {c : Int} (h0 : 0 ≤ c) (h1 : c < 1000000) : (tbody c).length ≤ 100 := by
  unfold tbody
  have a1 := tpiece_len ((c.fdiv 8).fmod 12)
  have a2 := tpiece_len ((c.fdiv 96).fmod 12)
  have a3 := tone_len c
  have a4 := ttwo_len c
  have a5 := ttail_len ((c.fdiv 4608).fmod 3)
  have hd1 : 0 ≤ c.fdiv 13824 := Int.fdiv_nonneg h0 (by decide)
  have hd2 : c.fdiv 13824 < 1000000 := by
    rw [Int.fdiv_eq_ediv_of_nonneg _ (by decide)]; omega
  have a6 : (Str.ofString (toString (c.fdiv 13824))).length ≤ 10 := KT.len_num (by omega) (by omega)
  simp only [Str.length_append]
  omega
section
variable {prog : Program} {w : World} {A : Around} {E : Value → Shared → Prop} {s : Shared} {h₀ : Heap} {L l : Addr} {m : Str → Option Value} {news : List (Addr × Obj)} {value slice : PySem.Expr} {Q : Value → Shared → Prop}
theorem slice_deeds {t : Tok} {k : Nat} {ys : List Value} {ds : List Int} (F : Fr h₀ L s.heap m) (N : News h₀ L s.heap news)
    (hm : (l, LCg.lst ys) ∈ news) (hi : IntsAre ys ds) (hz : ds.length = 4)
    (h : ∀ D ws h', Fr h₀ L h' m → News h₀ L h' ((D, W.listOf (List.toArray ws) 0) :: news) → (∀ p ∈ news, p.1 < D) → IntsAre ws (ds.take k) → Q (.ref D) { s with heap := h' })
    (hs : subscripted slice false (.ref l) (.ref s.heap.objs.size) = operate [.ref s.heap.objs.size, .ref l] (getItem (.ref l) (.ref s.heap.objs.size)))
    (ht : ∀ r, letTemporaryGo value (.ref l) r = pure ()) :
    wpAny (model prog w) A (subscriptTail value slice (.ref l) (.ref s.heap.objs.size)) Q E { s with heap := s.heap.push { cls := .type "slice", data := .fields #[.none, .int (k : Int) t, .none] } } := by
  have hu := kmk_upto (y := (k : Int)) hi (Int.natCast_nonneg k)
  rw [Int.toNat_natCast] at hu
  exact kmk_slice_ints (ms := ds.take k) F N (News.isList N hm) IsPart.none (IsPart.int _ _) hi hu rfl (fun D ws h' F' N' l1 hI _ _ => h D ws h' F' N' l1 hI) hs ht (by
    rw [List.size_toArray, hi.length, hz, sizeLine_eq]; decide)
theorem item_deed {ys : List Value} {ds : List Int} {j : Nat} {u : Tok} (N : News h₀ L s.heap news) (hm : (l, LCg.lst ys) ∈ news) (hi : IntsAre ys ds) (hlen : ds.length = 4) (hj : (j : Int) < 4)
    (h : ∀ t, Q (.int (ds.getD j 0) t) s)
    (hs : subscripted slice false (.ref l) (.int (j : Int) u) = operate [.ref l, .int (j : Int) u] (getItem (.ref l) (.int (j : Int) u))) (hg : ∀ r, letTemporaryGo value (.ref l) r = pure ()) :
    wpAny (model prog w) A (subscriptTail value slice (.ref l) (.int (j : Int) u)) Q E s := by
  have hlt : j < ds.length := by omega
  have e : ds[j]? = some (ds.getD j 0) := by
    rw [List.getD_eq_getElem?_getD, List.getElem?_eq_getElem hlt]; rfl
  obtain ⟨t, ht⟩ := hi.get j _ e
  exact item_listL (News.isList N hm) (Int.natCast_nonneg j) (by omega) (by rw [Int.toNat_natCast]; exact ht) (h t) hs hg
end
local macro_rules | `(tactic| walk_at "subscriptTail Name Name ref int") => `(tactic| (k_here; k_dflt (refine' item_deed ?N ?m ?i ?z ?j ?_ ?s ?t; (case N => k_asm); (case m => k_mem); (case i => assumption); (case z => exact And.left (by assumption)); (case j => assumption); (case s => with_unfolding_all rfl); (case t => (intro _; with_unfolding_all rfl))); intro _))
local macro_rules | `(tactic| walk_at "subscriptTail") => `(tactic| (k_here; (with_reducible show wpAny _ _ (subscriptTail (PySem.Expr.Name _ _) (PySem.Expr.Slice _ _ _ _) (Value.ref _) (Value.ref _)) _ _ _); k_dflt (refine' slice_deeds ?F ?N ?m ?i ?z ?_ ?s ?t; (case F => k_asm); (case N => k_asm); (case m => k_mem); (case i => assumption); (case z => exact And.left (by assumption)); (case s => with_unfolding_all rfl); (case t => (intro _; with_unfolding_all rfl))); intro D' ws' h' F' N' l1 hI'; (try k_sweep)))
local macro_rules | `(tactic| walk_at "call ref") => `(tactic| (k_here; ((with_reducible show wpAny _ _ (call (Value.ref 125) _) _ _ _); refine halt ?_)))
set_option maxRecDepth 100000 in
set_option maxHeartbeats 1500000 in
theorem turn_c {w : World} {mean : ExcName → Option Value} {mg mb : Str → Option Value} {fa : Addr} {cd : Value} {h₀ : Heap} {L : Addr} {s : Shared} {hs : Heap} {ks : Nat}
    {name qual : Str} {params : Arguments} {body : List Stmt} {scope : Scope} {dV kV doc pm cdv ct oc : Value} {an od : Option Addr} {osl : Array (Option Value)}
    (hb : (hd.heap_39 w.params).lookup 144 = some ⟨oc, od, .func (fnOf name qual params body scope dV kV doc pm an cdv ct), osl⟩)
    (B : Below callerA h₀ [] h₀) (X : (hd.heap_39 w.params).In h₀) (T : Top hd.view_39 LL mean mg mb h₀)
    {c : Int} (hc0 : 0 ≤ c) (hc1 : c < 1000000) {i j : Nat} (hi : i < 5) (hj : j < 5) {ys : List Value} {ds : List Int} (hds : IntsAre ys ds) (hdd : Deeds ds)
    {x3 oI oJ lo : Obj} {tc tm tb tt th tp t4 : Tok} (hx3 : x3.data = .cell (some (.int (i : Int) tc))) {I J Dd Pr lD : Addr} {lws : List Value} {u : Str → Option Value} {R : Result → Shared → Prop}
    (F : Fr h₀ L hs (fun z => if z = Str.ofString "done" then some (.int (j : Int) t4) else if z = Str.ofString "mark" then some (.str (tmark c) tm) else if z = Str.ofString "body" then some (.str (tbody c) tb) else if z = Str.ofString "deeds" then some (.ref Dd)
      else if z = Str.ofString "peer" then some (.ref Pr) else if z = Str.ofString "text" then some (.str (TX c (ds.take j)) tt) else u z))
    (N : News h₀ L hs [(J, oJ), (I, oI), (L + 1 + 1, x3), (L + 1, lo), (lD, W.listOf lws.toArray 0), (Dd, LCg.lst ys), (Pr, W.listOf #[.str (hostOf i) th, .int (i : Int) tp] 0)]) :
    wpC (model Challenge.rw_pg0029_01.row.prog w) (callerA.deeper (envOfC (Str.ofString "law") scope L fa cd)) (execs (innerBody body) (envOfC (Str.ofString "law") scope L fa cd))
      (TurnPost h₀ L J oJ (fun _ : Unit => [(I, oI), (L + 1 + 1, x3), (L + 1, lo), (lD, W.listOf lws.toArray 0), (Dd, LCg.lst ys), (Pr, W.listOf #[.str (hostOf i) th, .int (i : Int) tp] 0)])
        (fun _ m' => ∃ tt', Has [(Str.ofString "mark", .str (tmark c) tm), (Str.ofString "body", .str (tbody c) tb), (Str.ofString "deeds", .ref Dd), (Str.ofString "peer", .ref Pr), (Str.ofString "text", .str (TX c (ds.take (j + 1))) tt')] m') s R) (fun _ _ => False) { s with heap := hs, toks := ks } := by
  revert X; k_fill; intro X
  refine' with_body (body := body) (scope := scope) ?e hb ?_
  case e => k_is
  intro q1 q2
  subst q1
  subst q2
  dsimp only [innerBody, outerBody, stBody, stNth]
  clear hb
  obtain ⟨hs1, hs2⟩ := host_ok hi
  have hbp := tbody_pos hc0 hc1
  have hdt : ∀ d ∈ ds.take j, d = 0 ∨ d = 1 ∨ d = 2 := fun d hd => hdd.2 d (List.mem_of_mem_take hd)
  have hdn : (ds.take j).length ≤ 4 := by have := hdd.1; rw [List.length_take]; omega
  obtain ⟨oo, hto, hdu⟩ := pure_main hc0 hc1 hdn hdt
  obtain ⟨ht1, ht2, ht3⟩ := tx_ok hc0 hc1 hdn
  refine wpC_execs (wpC_If (wpC_cmp2 (wpC_Call ?_)))
  k_steps
  k_dflt (refine' wpC_callDef (K := hd.heap_39 w.params) ?k1 ?_; (case k1 => k_is))
  k_steps
  refine told_c B (by k_asm) X (by k_asm) T rfl hto (.tail _ (.tail _ (.tail _ (.tail _ (.tail _ (.tail _ (.head _))))))) ?_
  intro v1 ex1 h5 tk5 ho1 F5 N5
  have N6 : News h₀ L h5 ((J, oJ) :: (I, oI) :: (L + 1 + 1, x3) :: (L + 1, lo) :: (lD, W.listOf lws.toArray 0) :: (Dd, LCg.lst ys) :: (Pr, W.listOf #[.str (hostOf i) th, .int (i : Int) tp] 0) :: ex1) := fun p hp => N5 p (by
    simp only [List.mem_append, List.mem_cons, List.not_mem_nil, or_false] at hp ⊢
    rcases hp with hp | hp | hp | hp | hp | hp | hp | hp
    · exact .inr (.inl hp)
    · exact .inr (.inr (.inl hp))
    · exact .inr (.inr (.inr (.inl hp)))
    · exact .inr (.inr (.inr (.inr (.inl hp))))
    · exact .inr (.inr (.inr (.inr (.inr (.inl hp)))))
    · exact .inr (.inr (.inr (.inr (.inr (.inr (.inl hp))))))
    · exact .inr (.inr (.inr (.inr (.inr (.inr (.inr hp))))))
    · exact .inl hp)
  clear N5 N
  refine wpC_Call ?_
  k_steps
  k_dflt (refine' wpC_callDef (K := hd.heap_39 w.params) ?k1 ?_; (case k1 => k_is))
  k_steps
  refine due_c (host := hostOf i) (ds := ds.take j) B (by k_asm) X (by k_asm) T rfl (List.Mem.head _) (by assumption) hdn (Nat.le_of_eq (tmark_len c)) (tbody_len hc0 hc1) (by rw [tmark_len]; rfl) hbp hs2 hdu ?_
  intro v2 ex2 h6 tk6 ho2 F7 N7
  have N9 : News h₀ L h6 (ex1 ++ (ex2 ++ [])) := fun p hp => N7 p (by
    rcases List.mem_append.mp hp with hp | hp
    · refine List.mem_append_right _ (.tail _ ?_)
      repeat apply List.mem_cons_of_mem
      exact hp
    · rw [List.append_nil] at hp
      exact List.mem_append_left _ hp)
  refine cmp_out F7 N9 ho1 ho2 (Nat.le_of_ble_eq_true rfl) hs1 (fun tk7 => ?_)
  have N8 : News h₀ L h6 [(J, oJ), (I, oI), (L + 1 + 1, x3), (L + 1, lo), (lD, W.listOf lws.toArray 0), (Dd, LCg.lst ys), (Pr, W.listOf #[.str (hostOf i) th, .int (i : Int) tp] 0)] := fun p hp => N7 p (by
    refine List.mem_append_right _ (.tail _ ?_)
    exact List.mem_append_left ex1 hp)
  clear N7 N9 ho1 ho2
  k_steps
  dsimp only
  refine wpC_nil ?_
  dsimp only
  refine wpC_of ?_
  k_steps
  · unfold Halt
    have hj4 : (j : Int) < 4 := by assumption
    have hlt : j < ds.length := by have := hdd.1; omega
    have hst : ds.take j ++ [ds.getD j 0] = ds.take (j + 1) := by
      rw [List.take_add_one, List.getD_eq_getElem?_getD, List.getElem?_eq_getElem hlt]; rfl
    refine written_c B (by k_asm) X (by k_asm) T rfl ht1 ht2 ht3 ?_
    intro wt wh wtk wF wN
    rw [TX_snoc, hst]
    k_steps
    exact TurnPost.intro () (by k_asm) (by k_asm) (fun p hp => hp) ⟨_, rfl, rfl, rfl, rfl, rfl, trivial⟩
  · have hj4 : ¬ (j : Int) < 4 := by assumption
    have hst : ds.take (j + 1) = ds.take j := by
      rw [List.take_of_length_le (by have := hdd.1; omega), List.take_of_length_le (by have := hdd.1; omega)]
    refine TurnPost.intro () (by k_asm) (by k_asm) (fun p hp => hp) ⟨tt, rfl, rfl, rfl, rfl, ?_, trivial⟩
    rw [hst]
    rfl
end Mine
end
theorem Mine.topOffL2 : True := by
  w_top off
  trivial
/-! part L2 -/
section
open PySem PySem.W PyProof.Rows PySem.Calls
set_option Elab.async false
namespace Mine
theorem pow3 (n : Nat) : (3 : Int) ^ n ≠ 0 := fun e => by
  have := Int.pow_pos (n := 3) (m := n) (by decide)
  rw [e] at this
  exact absurd this (by decide)
theorem deeds_are (a : Int) : Deeds (List.map (fun k' : Int => if ¬(3 : Int) ^ k'.toNat = 0 then (a.fdiv (3 ^ k'.toNat)).fmod 3 else k') (rangeKs 0 ((4 : Int) - 0).toNat)) := by
  constructor
  · rfl
  · intro d hd
    obtain ⟨k, hk, rfl⟩ := List.mem_map.mp hd
    have h3 : ∀ x : Int, x.fmod 3 = 0 ∨ x.fmod 3 = 1 ∨ x.fmod 3 = 2 := fun x => by
      have h1 := Int.fmod_nonneg_of_pos x (b := 3) (by decide)
      have h2 := Int.fmod_lt_of_pos x (b := 3) (by decide)
      omega
    split
    · exact h3 _
    · rename_i h
      exact (h (pow3 _)).elim
def PostA (h₀ : Heap) (L I cp cc lD : Addr) (oI lo : Obj) (lws : List Value) (c : Int) (i : Nat) (s s₁ : Shared) : Prop :=
  ∃ h' tk m' x ys ds Dd Pr tm tb tt th tp tc, s₁ = { s with heap := h', toks := tk } ∧ Fr h₀ L h' m' ∧ News h₀ L h' [(I, oI), (cp, x), (cc, lo), (lD, W.listOf lws.toArray 0), (Dd, LCg.lst ys), (Pr, W.listOf #[.str (hostOf i) th, .int (i : Int) tp] 0)] ∧
    x.data = .cell (some (.int (i : Int) tc)) ∧ IntsAre ys ds ∧ Deeds ds ∧
    Has [(Str.ofString "mark", .str (tmark c) tm), (Str.ofString "body", .str (tbody c) tb), (Str.ofString "deeds", .ref Dd), (Str.ofString "peer", .ref Pr), (Str.ofString "text", .str (text0 c) tt)] m'
theorem PostA.intro {h₀ : Heap} {L I cp cc lD : Addr} {oI lo : Obj} {lws : List Value} {c : Int} {i : Nat} {s : Shared} {h' : Heap} {tk : Nat} {m' : Str → Option Value} {x : Obj} {ys : List Value} {ds : List Int} {Dd Pr : Addr} {tm tb tt th tp tc : Tok} {all : List (Addr × Obj)}
    (h : Has [(Str.ofString "mark", .str (tmark c) tm), (Str.ofString "body", .str (tbody c) tb), (Str.ofString "deeds", .ref Dd), (Str.ofString "peer", .ref Pr), (Str.ofString "text", .str (text0 c) tt)] m')
    (F : Fr h₀ L h' m') (N : News h₀ L h' all) (n1 : (I, oI) ∈ all) (n2 : (cp, x) ∈ all) (n3 : (cc, lo) ∈ all) (n4 : (lD, W.listOf lws.toArray 0) ∈ all) (n5 : (Dd, LCg.lst ys) ∈ all) (n6 : (Pr, W.listOf #[.str (hostOf i) th, .int (i : Int) tp] 0) ∈ all)
    (hx : x.data = .cell (some (.int (i : Int) tc))) (hi : IntsAre ys ds) (hd : Deeds ds) : PostA h₀ L I cp cc lD oI lo lws c i s { s with heap := h', toks := tk } :=
  ⟨h', tk, m', x, ys, ds, Dd, Pr, tm, tb, tt, th, tp, tc, rfl, F, fun p hp => by
    simp only [List.mem_cons, List.not_mem_nil, or_false] at hp
    rcases hp with rfl | rfl | rfl | rfl | rfl | rfl
    · exact N _ n1
    · exact N _ n2
    · exact N _ n3
    · exact N _ n4
    · exact N _ n5
    · exact N _ n6, hx, hi, hd, h⟩
theorem cl_at {cl : List Int} {i : Nat} (hlen : cl.length = 6) (hbd : ∀ c ∈ cl, 0 ≤ c ∧ c < 1000000) (hi5 : i < 5) : 0 ≤ cl.getD ((i : Int) + 1).toNat 0 ∧ cl.getD ((i : Int) + 1).toNat 0 < 1000000 := by
  have hlt : ((i : Int) + 1).toNat < cl.length := by omega
  rw [List.getD_eq_getElem?_getD, List.getElem?_eq_getElem hlt]
  exact hbd _ (List.getElem_mem hlt)
def BodyOf (w : World) (body : List Stmt) (scope : Scope) : Prop :=
  ∃ (name qual : Str) (params : Arguments) (dV kV doc pm cdv ct oc : Value) (an od : Option Addr) (osl : Array (Option Value)), (hd.heap_39 w.params).lookup 144 = some ⟨oc, od, .func (fnOf name qual params body scope dV kV doc pm an cdv ct), osl⟩
local macro_rules | `(tactic| walk_at "call ref") => `(tactic| (k_here; ((with_reducible show wpAny _ _ (call (Value.ref 118) _) _ _ _); refine halt ?_)))
set_option maxRecDepth 100000 in
set_option maxHeartbeats 2000000 in
theorem outer_c {w : World} {mean : ExcName → Option Value} {mg mb : Str → Option Value} {fa : Addr} {cd : Value} {h₀ : Heap} {L : Addr} {s : Shared} {hs : Heap} {ks : Nat} {body : List Stmt} {scope : Scope}
    (hb : BodyOf w body scope)
    (B : Below callerA h₀ [] h₀) (X : (hd.heap_39 w.params).In h₀) (T : Top hd.view_39 LL mean mg mb h₀)
    {cl : List Int} {lws : List Value} (hcl : IntsAre lws cl) (hlen6 : cl.length = 6) (hbd : ∀ c ∈ cl, 0 ≤ c ∧ c < 1000000) {i : Nat} (hi : i < 5)
    {x oI lo : Obj} {I lD : Addr} {t : Tok} (hx : x.data = .cell (some (.int (i : Int) t))) (ld : lo.data = .cell (some (.ref lD))) {m' : Str → Option Value} {R : Result → Shared → Prop}
    (F : Fr h₀ L hs m') (N : News h₀ L hs [(I, oI), (L + 1 + 1, x), (L + 1, lo), (lD, W.listOf lws.toArray 0)]) :
    wpC (model Challenge.rw_pg0029_01.row.prog w) (callerA.deeper (envOfC (Str.ofString "law") scope L fa cd)) (execs (outerBody body) (envOfC (Str.ofString "law") scope L fa cd))
      (TurnPost h₀ L I oI (fun x : Obj => [(L + 1 + 1, x), (L + 1, lo), (lD, W.listOf lws.toArray 0)]) (fun x _ => ∃ v, x.data = .cell v) s R) (fun _ _ => False) { s with heap := hs, toks := ks } := by
  revert X; k_fill; intro X
  have HB := hb
  obtain ⟨name, qual, params, dV, kV, doc, pm, cdv, ct, oc, an, od, osl, hb⟩ := hb
  refine' with_body (body := body) (scope := scope) ?e hb ?_
  case e => k_is
  clear hb
  intro q1 q2
  subst q1
  subst q2
  dsimp only [outerBody, stBody, stNth]
  obtain ⟨hc0, hc1⟩ := cl_at hlen6 hbd hi
  have lm : (tmark (cl.getD ((i : Int) + 1).toNat 0)).length = 1 := tmark_len _
  have lb := tbody_len hc0 hc1
  refine wpC_cutI (PostA h₀ L I (L + 1 + 1) (L + 1) lD oI lo lws (cl.getD ((i : Int) + 1).toNat 0) i s) 3 ?_ ?_
  · clear HB
    dsimp only [List.take]
    k_steps
    unfold Halt
    refine reply_c B (by k_asm) X (by k_asm) T rfl hc0 hc1 ?_
    intro ra rt ru rn rh rtk rF rN
    k_steps
    · exact absurd (by assumption : (3 : Int) ^ _ = 0) (pow3 _)
    · k_dflt (refine' PostA.intro ?h ?F ?N ?n1 ?n2 ?n3 ?n4 ?n5 ?n6 ?hx ?hi ?hd; (case F => k_asm); (case N => k_asm); (case h => exact ⟨rfl, rfl, rfl, rfl, rfl, trivial⟩); (case n1 => k_mem); (case n2 => k_mem); (case n3 => k_mem); (case n4 => k_mem); (case n5 => k_mem); (case n6 => k_mem); (case hx => assumption); (case hi => assumption); (case hd => exact deeds_are _))
  · rintro s₂ ⟨h3, tk3, m3, x3, ys, ds, Dd, Pr, tm, tb, tt, th, tp, tc, rfl, F3, N3, hx3, hds, hdd, H3⟩
    obtain ⟨u3, F3⟩ := fr_has F3 H3
    clear H3
    dsimp only [ov] at F3
    dsimp only [List.drop]
    clear F N
    refine wpC_execs (wpC_For ?_)
    k_steps
    refine' iter_rangeM (β := Unit) (x₀ := ()) (n := 5) (fun _ => [(I, oI), (L + 1 + 1, x3), (L + 1, lo), (lD, W.listOf lws.toArray 0), (Dd, LCg.lst ys), (Pr, W.listOf #[.str (hostOf i) th, .int (i : Int) tp] 0)])
      (fun _ j _ m' => ∃ tt', Has [(Str.ofString "mark", .str (tmark (cl.getD ((i : Int) + 1).toNat 0)) tm), (Str.ofString "body", .str (tbody (cl.getD ((i : Int) + 1).toNat 0)) tb), (Str.ofString "deeds", .ref Dd), (Str.ofString "peer", .ref Pr), (Str.ofString "text", .str (TX (cl.getD ((i : Int) + 1).toNat 0) (ds.take j)) tt')] m')
      (by k_asm) (by k_asm) rfl (by assumption) rfl rfl (fun _ _ => rfl) ?turn ?done ?hj
    case hj =>
      refine ⟨tt, rfl, rfl, rfl, rfl, ?_, trivial⟩
      rw [List.take_zero, TX_nil]
      rfl
    case done =>
      intro _ m4 h4 tk4 _ F4 N4
      exact wpC_nil (TurnPost.intro x3 F4 N4 (fun p hp => by
        simp only [List.mem_cons, List.not_mem_nil, or_false] at hp ⊢
        rcases hp with hp | hp | hp | hp
        · exact .inl hp
        · exact .inr (.inl hp)
        · exact .inr (.inr (.inl hp))
        · exact .inr (.inr (.inr (.inl hp)))) ⟨_, hx3⟩)
    case turn =>
      rintro j _ t4 m4 h4 tk4 J oJ hj ⟨tt4, H4⟩ hoff F4 N4
      obtain ⟨u4, F4⟩ := fr_has F4 H4
      clear H4
      dsimp only [ov] at F4
      clear hoff
      k_steps
      obtain ⟨name, qual, params, dV, kV, doc, pm, cdv, ct, oc, an, od, osl, hb⟩ := HB
      refine' turn_c hb B X T hc0 hc1 hi hj hds hdd hx3 ?F ?N
      case F => k_asm
      case N => k_asm
end Mine
end
theorem Mine.topOffL3 : True := by
  w_top off
  trivial
/-! part L3 -/
section
open PySem PySem.W PyProof.Rows PySem.Calls
set_option Elab.async false
namespace Mine
theorem BodyOf.intro {w : World} {name qual : Str} {params : Arguments} {body : List Stmt} {scope : Scope} {dV kV doc pm cdv ct oc : Value} {an od : Option Addr} {osl : Array (Option Value)}
    (e : (hd.heap_39 w.params).lookup 144 = some ⟨oc, od, .func (fnOf name qual params body scope dV kV doc pm an cdv ct), osl⟩) : BodyOf w body scope := ⟨_, _, _, _, _, _, _, _, _, _, _, _, _, e⟩
theorem outer_d {w : World} {mean : ExcName → Option Value} {mg mb : Str → Option Value} {fa : Addr} {cd : Value} {h₀ : Heap} {L : Addr} {s : Shared} {hs : Heap} {ks : Nat} {body ob : List Stmt} {scope : Scope}
    (hb : BodyOf w body scope) (hob : outerBody body = ob)
    (B : Below callerA h₀ [] h₀) (X : (hd.heap_39 w.params).In h₀) (T : Top hd.view_39 LL mean mg mb h₀)
    {cl : List Int} {lws : List Value} (hcl : IntsAre lws cl) (hlen6 : cl.length = 6) (hbd : ∀ c ∈ cl, 0 ≤ c ∧ c < 1000000) {i : Nat} (hi : i < 5)
    {x oI lo : Obj} {I lD : Addr} {t : Tok} (hx : x.data = .cell (some (.int (i : Int) t))) (ld : lo.data = .cell (some (.ref lD))) {m' : Str → Option Value} {R : Result → Shared → Prop}
    (F : Fr h₀ L hs m') (N : News h₀ L hs [(I, oI), (L + 1 + 1, x), (L + 1, lo), (lD, W.listOf lws.toArray 0)]) :
    wpC (model Challenge.rw_pg0029_01.row.prog w) (callerA.deeper (envOfC (Str.ofString "law") scope L fa cd)) (execs ob (envOfC (Str.ofString "law") scope L fa cd))
      (TurnPost h₀ L I oI (fun x : Obj => [(L + 1 + 1, x), (L + 1, lo), (lD, W.listOf lws.toArray 0)]) (fun x _ => ∃ v, x.data = .cell v) s R) (fun _ _ => False) { s with heap := hs, toks := ks } :=
  hob ▸ outer_c hb B X T hcl hlen6 hbd hi hx ld F N
section
variable {prog : Program} {w : World} {A : Around} {E : Value → Shared → Prop} {s : Shared} {h₀ : Heap} {L l : Addr} {m : Str → Option Value} {news : List (Addr × Obj)} {value slice : PySem.Expr} {Q : Value → Shared → Prop}
theorem drop6 {a0 a1 a2 a3 a4 a5 t : Tok} {c : Nat} {k : Int} (F : Fr h₀ L s.heap m) (N : News h₀ L s.heap news)
    (hm : (l, W.listOf #[.int 34 a0, .int 119656 a1, .int 294192 a2, .int 612241 a3, .int 899147 a4, .int 127815 a5] c) ∈ news) (hk : 0 ≤ k)
    (h : ∀ D ws h', Fr h₀ L h' m → News h₀ L h' ((D, W.listOf (List.toArray ws) 0) :: news) → (∀ p ∈ news, p.1 < D) → IntsAre ws (([34, 119656, 294192, 612241, 899147, 127815] : List Int).drop k.toNat) → Q (.ref D) { s with heap := h' })
    (hs : subscripted slice false (.ref l) (.ref s.heap.objs.size) = operate [.ref s.heap.objs.size, .ref l] (getItem (.ref l) (.ref s.heap.objs.size))) :
    wpAny (model prog w) A (subscriptTail value slice (.ref l) (.ref s.heap.objs.size)) Q E { s with heap := s.heap.push { cls := .type "slice", data := .fields #[.int k t, .none, .none] } } := by
  have hi : IntsAre [Value.int 34 a0, Value.int 119656 a1, Value.int 294192 a2, Value.int 612241 a3, Value.int 899147 a4, Value.int 127815 a5] [34, 119656, 294192, 612241, 899147, 127815] :=
    .cons _ _ (.cons _ _ (.cons _ _ (.cons _ _ (.cons _ _ (.cons _ _ .nil)))))
  refine kba_turn (value' := PySem.Expr.Name (PySem.Str.ofString "_") ⟨0, 0, 0, 0⟩) (fun _ => rfl) ?_
  exact kmk_slice_ints (ms := ([34, 119656, 294192, 612241, 899147, 127815] : List Int).drop k.toNat) F N (News.isList N hm) (IsPart.int _ _) IsPart.none hi (kmk_from hi hk) rfl (fun D ws h' F' N' l1 hI _ _ => h D ws h' F' N' l1 hI) hs (fun _ => rfl) (by rw [sizeLine_eq]; show (6 : Nat) ≤ 16777216; decide)
end
local macro_rules | `(tactic| walk_at "no such step") => `(tactic| skip)
local macro_rules | `(tactic| walk_at "subscriptTail") => `(tactic| (k_here; (with_reducible show wpAny _ _ (subscriptTail (PySem.Expr.List _ _) _ (Value.ref _) (Value.ref _)) _ _ _); k_dflt (refine drop6 (by k_asm) (by k_asm) (by exact List.Mem.head _) (by omega) ?_ (by with_unfolding_all rfl)); intro D' ws' h' F' N' l1 hI'; (try k_lt l1); (try k_sweep)))
theorem cl_facts (ns : List Int) : ((List.map (fun k' : Int => k'.fmod (10 ^ 6)) (List.take 6 ns)) ++ List.drop ((List.map (fun k' : Int => k'.fmod (10 ^ 6)) (List.take 6 ns)).length : Int).toNat [34, 119656, 294192, 612241, 899147, 127815]).length = 6 ∧
    ∀ c ∈ ((List.map (fun k' : Int => k'.fmod (10 ^ 6)) (List.take 6 ns)) ++ List.drop ((List.map (fun k' : Int => k'.fmod (10 ^ 6)) (List.take 6 ns)).length : Int).toNat [34, 119656, 294192, 612241, 899147, 127815]), 0 ≤ c ∧ c < 1000000 := by
  constructor
  · rw [List.length_append, List.length_drop, Int.toNat_natCast, List.length_map, List.length_take]
    simp only [List.length_cons, List.length_nil]
    omega
  · intro c hc
    rcases List.mem_append.mp hc with hc | hc
    · obtain ⟨k, _, rfl⟩ := List.mem_map.mp hc
      exact ⟨Int.fmod_nonneg_of_pos _ (by decide), Int.fmod_lt_of_pos _ (by decide)⟩
    · have := List.mem_of_mem_drop hc
      simp only [List.mem_cons, List.not_mem_nil, or_false] at this
      omega
set_option maxRecDepth 100000 in
set_option maxHeartbeats 2000000 in
theorem foo : PySem.Challenge.rw_pg0029_01.Holds := by
  refine hd ?_
  k_fill
  intro w s₀ s₁ mg mb G Y fa o pm cd doc dV kV ho hd hcd hD hmg hg args vals as hpre hlay hrd hwl hlo
  refine wpAny_ifCl ?_ (law_true hg)
  have KX := kIn_of Y
  refine Ground.open G ?_
  intro T B D TE TW
  try (refine guard_noD D (by decide +kernel) ?_; clear D)
  clear hmg B TE TW Y
  wrow_args hpre hlay hrd hwl hlo
  refine enterC ?_
  w_top on
  have K0 := below_caller (Top.heap T)
  have he := Dflts.none hD rfl
  subst he
  have he := Dflts.noKw hD
  subst he
  clear hD
  refine cells_C (by decide) ho (fd_plain hd) (Top.nolimit T) hcd rfl (kinds_of (by kinds_ok)) (by decide) fun h₁ tk₁ cells F N0 X0 => ?_
  clear hcd
  cells_open X0
  clear hd ho G
  k_drop
  rename_i c1 c2 e1 e2
  replace e1 : ∃ v, c1.data = .cell v := ⟨_, e1⟩
  replace e2 : ∃ v, c2.data = .cell v := ⟨_, e2⟩
  obtain ⟨v1, e1⟩ := e1
  obtain ⟨v2, e2⟩ := e2
  obtain ⟨u0, F⟩ := fr_has F (l := [(Str.ofString "script", .ref _)]) ⟨rfl, trivial⟩
  dsimp only [ov] at F
  clear X0
  refine wpC_cut 2 ?_
  dsimp only [List.take, List.drop]
  k_steps
  obtain ⟨cl, hcl, hlen6, hbd⟩ : ∃ cl : List Int, IntsAre _ cl ∧ cl.length = 6 ∧ ∀ c ∈ cl, 0 ≤ c ∧ c < 1000000 := ⟨_, (by assumption : IntsAre _ (_ ++ _)), (cl_facts _).1, (cl_facts _).2⟩
  rename_i lD lws _ lI ll1 _ lo lF lN ld
  clear lI
  dsimp only
  refine wpC_execs (wpC_For ?_)
  k_steps
  refine' iter_rangeM (β := Obj) (n := 5) (fun x => [(s₁.heap.objs.size + 1 + 1, x), (s₁.heap.objs.size + 1, lo), (lD, W.listOf lws.toArray 0)]) (fun _ i x m' => ∃ v, x.data = .cell v) (by k_asm) (cb_drop (by k_asm) ?sub) rfl (by assumption) rfl rfl (fun _ _ => rfl) ?turn ?done ?hj
  case sub =>
    intro p hp
    simp only [List.mem_cons, List.not_mem_nil, or_false] at hp ⊢
    rcases hp with rfl | rfl | rfl
    · exact .inr (.inr (.inr (.inr (.inr (.inl rfl)))))
    · exact .inr (.inr (.inr (.inr (.inr (.inr rfl)))))
    · exact .inl rfl
  case hj => exact ⟨_, by assumption⟩
  case done =>
    intro x m' h2 tk2 _ F2 N2
    refine wpC_of ?_
    k_steps
    dsimp only
    refine GoodW.toG (goodW_bool F2 hg ?_ ?_ rfl)
    · exact raisesW_false (by wrow_none_raised)
    · first | rfl | exact postW_of (by wrow_shape) (by wtm_val) (by str_meet; first | done | w_fin)
  case turn =>
    rintro i x t m' h2 tk2 I oI hi ⟨v, hv⟩ hoff F2 N2
    have o1 := hoff _ (.head _)
    have o2 := hoff _ (.tail _ (.head _))
    have o3 := hoff _ (.tail _ (.tail _ (.head _)))
    dsimp only at o1 o2 o3
    have o4 : lD ≠ s₁.heap.objs.size + 1 + 1 := Nat.ne_of_gt ll1.2.2.2.2.1
    have o5 := o1.symm
    have o6 := o2.symm
    have o7 := o3.symm
    have o8 : s₁.heap.objs.size + 1 ≠ s₁.heap.objs.size + 1 + 1 := by omega
    clear hoff ll1 e1 e2
    k_steps
    refine' outer_d (h₀ := s₁.heap) (BodyOf.intro ?hbody9) ?hob9 K0 KX T (cl := cl) ?hcl hlen6 hbd hi ?hx ld ?F ?N
    case hbody9 => k_is
    case hcl => assumption
    case hob9 => rfl
    case F => k_asm
    case N => k_asm
    case hx => assumption
end Mine
end
theorem PySem.Challenge.cw_pg0029_01_holds : PySem.Challenge.rw_pg0029_01.Holds := by
  exact Mine.foo
