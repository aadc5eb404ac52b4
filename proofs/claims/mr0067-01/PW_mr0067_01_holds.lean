import PyProof.Rows.All
import Wide.All
import OpenK.AllK
import Wide.FinOn
import PySem.Challenge.RW_mr0067_01
set_option Elab.async false
set_option linter.unusedVariables false
noncomputable section
open PySem PySem.W PyProof.Rows
set_option Elab.async false
set_option linter.unusedVariables false
namespace Mine
/-- a decoder's code, which may hold a bytearray -/
noncomputable def holdsIt : Code → Bool
  | .builtin id _ => Builtin.Bytes.decodersThatHold.contains id
  | _ => false
/-- no decoder is under way -/
noncomputable def Jn (Γ : Ctx) : Prop := holdsIt Γ.code = false ∧ ∀ c ∈ Γ.below, holdsIt c.1 = false
/-- the same, where the count of units is low; where it is high nothing is asked -/
noncomputable def Ja (A : Around) (Γ : Ctx) : Prop := A.units < 5000 → Jn Γ
noncomputable abbrev noE : Value → Shared → Prop := fun _ _ => False
noncomputable def wpJ {α : Type} (M : Model) (A : Around) (t : Sem α) (Q : α → Shared → Prop) (s : Shared) : Prop :=
  ∀ Γ p, Γ.In A → Ja A Γ → Sem.wp M Γ t (fun a _ s' => Q a s') (fun _ _ _ => False) p s
noncomputable def codeJ (M : Model) (A : Around) (c : Code) (Q : Flow → Shared → Prop) (s : Shared) : Prop :=
  ∀ Γ p, Γ.code = c → Γ.Below A → Ja A Γ → wpCode M Γ (fun r s' => match r with | .ok f => Q f s' | .error _ => False) p s
section
variable {α β : Type} {M : Model} {A : Around} {s : Shared} {env : Env}
theorem wpJ.of {t : Sem α} {Q : α → Shared → Prop} (h : wpAny M A t Q noE s) : wpJ M A t Q s := fun Γ p hΓ _ => h Γ p hΓ
theorem wpJ_mono {t : Sem α} {Q Q' : α → Shared → Prop} (h : wpJ M A t Q s) (hQ : ∀ a s, Q a s → Q' a s) : wpJ M A t Q' s :=
  fun Γ p hΓ j => Sem.wp_mono M Γ t (fun a _ s => hQ a s) (fun _ _ _ x => x) p s (h Γ p hΓ j)
theorem wpJ_pure {a : α} {Q : α → Shared → Prop} (h : Q a s) : wpJ M A (pure a) Q s := fun _ _ _ _ => h
theorem wpJ_bind {m : Sem α} {f : α → Sem β} {Q : β → Shared → Prop} (h : wpJ M A m (fun a s' => wpJ M A (f a) Q s') s) : wpJ M A (m >>= f) Q s := fun Γ p hΓ j => by
  rw [Sem.wp_bind']
  exact Sem.wp_mono M Γ m (fun a p' s' h' => h' Γ p' hΓ j) (fun _ _ _ h' => h') p s (h Γ p hΓ j)
theorem wpJ_at {pos : Pos} {f : Unit → Sem β} {Q : β → Shared → Prop} (h : wpJ M A (f ()) Q s) : wpJ M A (standAt pos >>= f) Q s := fun Γ p hΓ j => by
  rw [Sem.wp_bind', Sem.wp_cmd_standAt]; exact h Γ _ hΓ j
theorem wpJ_holding {vs : List Value} {m : Sem α} {Q : α → Shared → Prop} (h : wpJ M A m Q s) : wpJ M A (holding vs m) Q s := fun Γ p hΓ j => by rw [Sem.wp_holding]; exact h Γ p hΓ j
theorem wpJ_keep {vs : List Value} {m : Sem α} {Q : α → Shared → Prop} (h : wpJ M A m Q s) : wpJ M A (m.keep vs) Q s := fun Γ p hΓ j => by rw [Sem.wp_keep]; exact h Γ p hΓ j
theorem wpJ_operate {vs : List Value} {m : Sem Value} {Q : Value → Shared → Prop} (h : wpJ M A m Q s) : wpJ M A (operate vs m) Q s := fun Γ p hΓ j => by rw [Sem.wp_operate]; exact h Γ p hΓ j
theorem wpJ_onRaise {m : Sem α} {k : Value → Sem Unit} {Q : α → Shared → Prop} (h : wpJ M A m Q s) : wpJ M A (m.onRaise k) Q s := fun Γ p hΓ j => by
  rw [Sem.wp_onRaise]
  exact Sem.wp_mono M Γ m (fun _ _ _ x => x) (fun _ _ _ x => x.elim) p s (h Γ p hΓ j)
theorem wpJ_tryCatch {m : Sem α} {k : Value → Sem α} {Q : α → Shared → Prop} (h : wpJ M A m Q s) : wpJ M A (tryCatch m k) Q s := fun Γ p hΓ j => by
  rw [Sem.wp_tryCatch']
  exact Sem.wp_mono M Γ m (fun _ _ _ x => x) (fun _ _ _ x => x.elim) p s (h Γ p hΓ j)
theorem wpJ_attempt {m : Sem α} {Q : Except Value α → Shared → Prop} (h : wpJ M A m (fun a => Q (.ok a)) s) : wpJ M A m.attempt Q s := fun Γ p hΓ j => by
  rw [Sem.wp_attempt]
  exact Sem.wp_mono M Γ m (fun _ _ _ x => x) (fun _ _ _ x => x.elim) p s (h Γ p hΓ j)
theorem Jn.enter {Γ : Ctx} (j : Jn Γ) {c : Code} (hc : holdsIt c = false) (h : Option Value) (p : Pos) : Jn (Γ.enter c h p) :=
  ⟨hc, fun x hx => by
    rcases List.mem_cons.mp hx with rfl | hx
    · exact j.1
    · exact j.2 x hx⟩
theorem Jn.goto {Γ : Ctx} (j : Jn Γ) {c : Code} (hc : holdsIt c = false) : Jn (Γ.goto c) := ⟨hc, j.2⟩
theorem Ja.enter {Γ : Ctx} (j : Ja A Γ) {c : Code} (hc : holdsIt c = false) (h : Option Value) (p : Pos) : Ja A (Γ.enter c h p) := fun u => (j u).enter hc h p
theorem Ja.goto {Γ : Ctx} (j : Ja A Γ) {c : Code} (hc : holdsIt c = false) : Ja A (Γ.goto c) := fun u => (j u).goto hc
theorem Ja.under {Γ : Ctx} (j : Ja A Γ) (c : Code) : Ja (A.under c) Γ := fun u => j (Nat.lt_of_le_of_lt (Nat.le_add_right _ _) u)
/-- what is shown where the count is high holds anywhere below -/
theorem wpJ.toAny {t : Sem α} {Q : α → Shared → Prop} (hu : A.units ≤ 5000) (h : wpJ M { A with units := 5000 } t Q s) : wpAny M A t Q noE s := fun Γ p hΓ =>
  h Γ p ⟨hΓ.1, hΓ.2.1, hΓ.2.2.1, hΓ.2.2.2.1, Nat.le_trans hΓ.2.2.2.2 hu⟩ (fun u => absurd u (Nat.lt_irrefl _))
theorem codeJ_mono {c : Code} {Q Q' : Flow → Shared → Prop} (h : codeJ M A c Q s) (hQ : ∀ a s, Q a s → Q' a s) : codeJ M A c Q' s := fun Γ p hc hΓ j =>
  wpCode_mono (fun r s' x => by cases r with | ok f => exact hQ f s' x | error e => exact x) (h Γ p hc hΓ j)
theorem wpJ_run {c : Code} {Q : Flow → Shared → Prop} (hh : holdsIt c = false) (hc : codeJ M A c Q s) : wpJ M A (run c) Q s := fun Γ p hΓ j => by
  rw [Sem.wp_run]
  exact wpCode_mono (fun r s' x => by cases r <;> exact x) (hc _ p rfl (hΓ.enter c none p (by intro x; cases x)) (j.enter hh _ _))
theorem wpJ_runOwn {c : Code} {Q : Flow → Shared → Prop} (hh : holdsIt c = false) (hc : codeJ M A c Q s) : wpJ M A (runOwn c env) Q s := by
  unfold runOwn
  exact wpJ_onRaise (wpJ_run hh hc)
theorem wpJ_runValue {c : Code} {Q : Value → Shared → Prop} (hh : holdsIt c = false) (hc : codeJ M A c (fun f s' => ∃ v, f = .ret v ∧ Q v s') s) : wpJ M A (runValue c) Q s := fun Γ p hΓ j => by
  rw [Sem.wp_runValue]
  exact wpCode_mono (fun r s' x => by
    cases r with
    | ok f => obtain ⟨v, rfl, q⟩ := x; exact q
    | error e => exact x) (hc _ p rfl (hΓ.enter c none p (by intro x; cases x)) (j.enter hh _ _))
theorem wpJ_call {f : Value} {pos : List Value} {kw : List (Str × Value)} {Q : Value → Shared → Prop} (hc : codeJ M A (.call f ⟨pos, kw⟩) (fun f s' => ∃ v, f = .ret v ∧ Q v s') s) : wpJ M A (call f pos kw) Q s := wpJ_runValue rfl hc
theorem codeJ_of_tree {c : Code} {Q : Flow → Shared → Prop}
    (h : wpJ M (A.under c) (M.den c) (fun fin s' => match fin with | .done f => Q f s' | .again c' => c'.quiet = true ∧ holdsIt c' = false ∧ codeJ M A c' Q s') s) : codeJ M A c Q s := fun Γ p hc hΓ j => by
  rw [wpCode_iff_wp, hc]
  refine Sem.wp_mono M Γ _ (fun fin p' s' h' => ?_) (fun _ _ _ h' => h'.elim) p s (h Γ p (hc ▸ hΓ.in) (j.under c))
  cases fin with
  | done f => exact h'
  | again c' => exact ⟨h'.1, h'.2.2 (Γ.goto c') p' rfl (hΓ.goto c') (j.goto h'.2.1)⟩
theorem codeJ_loop {c : Code} {Q : Flow → Shared → Prop} (hq : c.quiet = true) (hh : holdsIt c = false) (I : Nat → Shared → Prop)
    (turn : ∀ n s, I n s → wpJ M (A.under c) (M.den c)
      (fun fin s' => match fin with
        | .done f => Q f s'
        | .again c' => (c' = c ∧ ∃ m, m < n ∧ I m s') ∨ (c'.quiet = true ∧ holdsIt c' = false ∧ codeJ M A c' Q s')) s)
    (n : Nat) (h : I n s) : codeJ M A c Q s := by
  induction n using Nat.strongRecOn generalizing s with
  | ind n ih =>
    refine codeJ_of_tree (wpJ_mono (turn n s h) (fun fin s' hf => ?_))
    cases fin with
    | done f => exact hf
    | again c' =>
      rcases hf with ⟨rfl, m, hm, hI⟩ | hf
      · exact ⟨hq, hh, ih m hm hI⟩
      · exact hf
end
section
variable {M : Model} {A : Around} {s : Shared} {env : Env}
theorem jBinOp {l op r pos} {Q : Value → Shared → Prop} (h : wpJ M A (eval l env) (fun a s₁ => wpJ M A (eval r env) (fun b s₂ => wpJ M A (binaryOp op a b) Q s₂) s₁) s) : wpJ M A (eval (.BinOp l op r pos) env) Q s := by
  rw [eval_BinOp]
  exact wpJ_bind (wpJ_mono h fun a s₁ h₁ => wpJ_bind (wpJ_holding (wpJ_mono h₁ fun b s₂ h₂ => wpJ_at (wpJ_operate h₂))))
theorem jCompare {l op r pos} {Q : Value → Shared → Prop} (h : wpJ M A (eval l env) (fun a s₁ => wpJ M A (eval r env) (fun b s₂ => wpJ M A (compareOp op a b) Q s₂) s₁) s) (hm : behindInMarks op r = false) : wpJ M A (eval (.Compare l [op] [r] pos) env) Q s := by
  rw [eval_Compare1, markedBehindIn_of_false hm]
  exact wpJ_bind (wpJ_mono h fun a s₁ h₁ => wpJ_bind (wpJ_holding (wpJ_mono h₁ fun b s₂ h₂ => wpJ_at (wpJ_operate h₂))))
theorem jTestCompare {l op r pos whole} {Q : Bool → Shared → Prop} (h : wpJ M A (eval l env) (fun a s₁ => wpJ M A (eval r env) (fun b s₂ => wpJ M A (compareOp op a b) (fun c s₃ => wpJ M A (truthy c) Q s₃) s₂) s₁) s) (hm : behindInMarks op r = false) : wpJ M A (isTrue (.Compare l [op] [r] pos) env whole) Q s := by
  rw [isTrue_Compare1, markedBehindIn_of_false hm]
  exact wpJ_bind (wpJ_mono h fun a s₁ h₁ => wpJ_bind (wpJ_holding (wpJ_mono h₁ fun b s₂ h₂ => wpJ_at (wpJ_bind (wpJ_operate (wpJ_mono h₂ fun c s₃ h₃ => wpJ_holding h₃))))))
end
end Mine
end
noncomputable section
open PySem PySem.W PySem.Calls PyProof.Rows
set_option Elab.async false
set_option linter.unusedVariables false
set_option maxRecDepth 100000
namespace Mine
theorem caller_J : Ja callerA ⟨.builtin "claim.caller" {}, none, none, [], none⟩ := fun _ => ⟨by decide +kernel, fun _ h => nomatch h⟩
theorem wp_of_wpJ_done {M : Model} {A : Around} {Γ : Ctx} {t : Sem Fin} {R : Result → Shared → Prop} {s : Shared} (hin : Γ.In A) (j : Ja A Γ)
    (h : wpJ M A t (fun fin s' => ∃ f, fin = .done f ∧ R (.ok f) s') s) (p : Pos) :
    Sem.wp M Γ t (Sem.finPost M Γ R) (fun e _ s' => R (.error e) s') p s := by
  refine Sem.wp_mono M Γ t (fun fin p' s' h' => ?_) (fun _ _ _ h' => h'.elim) p s (h Γ p hin j)
  obtain ⟨f, rfl, hf⟩ := h'
  exact hf
theorem thread_ends_J {prog : Program} {w : World} {t : Sem Fin} {s : Shared} {R : Result → Shared → Prop} (hreg : s.asleep)
    (h : wpJ (model prog w) callerA t (fun fin s' => ∃ f, fin = .done f ∧ (R (.ok f) s' ∧ leftWithCleanup s'.gens = false)) s) :
    ∃ n r s' s'', runN (denote table) prog w n s ⟨t, .builtin "claim.caller" {}, default, []⟩ = .halted (outcomeOf r) s' ∧
      schedN (denote table) prog w n (.single s ⟨t, .builtin "claim.caller" {}, default, []⟩) = .halted (outcomeOf r) s' ∧ s'.forget = s''.forget ∧ R r s'' := by
  obtain ⟨n, r, s₁, s₂, hs, hn, hfo, hR⟩ := wp_halts_full (M := model prog w) (R := R) hreg (wp_of_wpJ_done (R := fun r s' => R r s' ∧ leftWithCleanup s'.gens = false) caller_in caller_J h default)
  exact ⟨n, r, s₂, s₁, hn, hs, hfo, hR⟩
theorem callFrom_J {c : ClaimW} {tree : List Value → Sem Fin} {w : World} {s : Shared} {free : Addr → Prop} {gens : Prop} {kept : Heap → Prop} (hz : s.asleep) (hgens : s.gens = #[])
    (hspec : ∀ args, c.pre args = true → WData.layableAll args = true →
      ∀ ord : List DictEntry → List DictEntry, (∀ l, (ord l).Perm l) →
      ∃ vs s₁, layAllW c.records (classAt s.heap) w.params ord args s = some (vs, s₁) ∧
        wpJ (model c.prog w) callerA (tree vs) (fun fin s' => ∃ f, fin = .done f ∧ (c.Ends s args vs s₁ (.ok f) s' ∧ s'.os = s.os ∧ AllBare s'.gens ∧ kept s'.heap)) s₁) :
    c.CallFrom (fun vs => ⟨tree vs, .builtin "claim.caller" {}, default, []⟩) w free gens kept s := by
  intro args hpre hlay ord hord
  obtain ⟨vs, s₁, hlaid, hcode⟩ := hspec args hpre hlay ord hord
  have hal := layAllW_rest _ _ _ hlaid
  obtain ⟨k, r, s', s'', hrun, hsched, hfo, hcase, hos, hkp⟩ := thread_ends_J (prog := c.prog) (w := w) (t := tree vs) (s := s₁)
    (R := fun r s' => c.Ends s args vs s₁ r s' ∧ s'.os = s.os ∧ kept s'.heap)
    (Shared.asleep_of_life hal.2.2.2 hz)
    (wpJ_mono hcode (by
      rintro fin s' ⟨f, e, h1, h2, h3, h4⟩
      exact ⟨f, e, ⟨h1, h2, h4⟩, leftWithCleanup_false_of_bare h3⟩))
  obtain ⟨eh, _, _, eo, _⟩ := Shared.forget_eq hfo
  have hcase := hcase.congr eh
  have hkp : kept s'.heap := by first | exact eh ▸ hkp | (rw [eh] at hkp; exact hkp) | (rw [← eh] at hkp; exact hkp)
  rw [← eo] at hos
  have hlife : s'.heap.life = s.heap.life := (runN_life _ _ _ hrun).trans hal.2.2.2
  refine ⟨vs, s₁, hlaid, k, _, s', hsched, ?_, (fun _ i x hx => by rw [hgens] at hx; simp at hx), hkp, by rw [hlife], Shared.rest_eq hos⟩
  rcases hcase with ⟨v, rfl, d1, d2, d3, d4, d5⟩ | ⟨e, ob, cls, rfl, d1, d2, d3, d4, d5⟩
  · exact .inl ⟨v, rfl, d1, d2, d3, fun b o y _ => d4 b o y, d5⟩
  · exact .inr ⟨e, ob, cls, rfl, d1, d2, d3, d4, fun b o y _ => d5 b o y⟩
theorem open_J {r : RowW} {run : Value → List Value → Sem Value} {tree : List Value → Sem Fin} {q : Program} {loose defs kps : List Str} {writes : Bool} {Xt : Shared → Bool} {XP : (Str → Option Value) → Heap → Prop} {α : Type} {Yf : Shared → α} {Ya : World → α} {YP : World → Heap → Prop} {N : Nat}
    (left : LeftO r.prog q loose Xt Yf Ya N) (hY : ∀ w s, Yf s = Ya w → YP w s.heap) (hYk : ∀ w h h', YP w h → (∀ b o, h.get? b = some o → h'.get? b = some o) → YP w h') (hX : ∀ s, Xt s = true → XP (s.heap.nsMap mainGlobals) s.heap) (hXk : ∀ mg h h', XP mg h → (∀ b o, h.get? b = some o → h'.get? b = some o) → XP mg h')
    (hRf : ∀ s, Xt s = true → RecFacts r.records s.heap) (hwr : (!writes || r.records.isEmpty) = true) (ok : (chainsOk q && opensWell r.prog && (frees r && r.within.isEmpty)) = true) (hb : r.prog.bare) (hw : r.promised)
    (ht : ∀ vs (w : World) (s : Shared) mg f (Q : Fin → Shared → Prop), s.heap.Ns mainGlobals mg → mg r.name = some f → wpJ (model r.prog w) callerA (run f vs) (fun v s' => Q (.done (.ret v)) s') s → wpJ (model r.prog w) callerA (tree vs) Q s)
    (pin : ∀ w s, s.heap.isNs mainGlobals = true → Ground q loose [] XP w s (s.heap.nsMap mainGlobals) (s.heap.nsMap builtinsNs) s.heap → ∀ n ∈ defs, isTheDefsW r.prog s.heap n)
    (call : ∀ (w : World) (s₀ s₁ : Shared) (mg mb : Str → Option Value), Ground q loose r.records XP w s₀ mg mb s₁.heap → YP w s₁.heap → ∀ (args : List WData) (vs : List Value) (as : List Addr),
      r.claim.pre args = true → WData.layableAll args = true → Laid r.records w s₀ s₁ args vs as → sysModules < s₀.heap.objs.size → ∃ f, mg r.name = some f ∧
        wpJ (model r.prog w) callerA (run f vs) (fun v s' => GoodWG r.claim (classAt s₀.heap) (ExcName.means s₀.heap) args s₁ (.ok (.ret v)) s') s₁) : r.claim.HoldsOpenBy (fun vs => ⟨tree vs, .builtin "claim.caller" {}, default, []⟩) defs kps writes := by
  obtain ⟨ok, k5⟩ := Bool.and_eq_true_iff.mp ok
  obtain ⟨hch, o1⟩ := Bool.and_eq_true_iff.mp ok
  obtain ⟨k5, k6⟩ := Bool.and_eq_true_iff.mp k5
  obtain ⟨hsame, hu, ha, hap, hm⟩ := frees_parts k5
  refine ⟨⟨hb, o1, by show r.makers.map _ = []; rw [hm]; rfl⟩, hw.witness, fun w => ⟨(left.behind hX hch w).1, fun s' hs' => ?_⟩⟩
  obtain ⟨s₀, hf, hg0, s, hT, hz, hgens, hg, G00, y⟩ := (left.behind (XP := fun mg h => XP mg h ∧ RecFacts r.records h) (fun s hs => ⟨hX s hs, hRf s hs⟩) hch w).2 s' hs'
  have G0 : Ground q loose [] XP w s (s.heap.nsMap mainGlobals) (s.heap.nsMap builtinsNs) s.heap := ⟨G00.T, G00.B, G00.D, G00.TE, G00.TD, G00.W, G00.X.1, G00.cls, G00.has, G00.apart, G00.once, G00.K⟩
  have RF := G00.X.2
  have hT' := hT
  refine ⟨s₀, hf, hg0, s, hT, pin w s hg G0, RF.1, RF.2.1, ?_⟩
  have hgens : s.gens = #[] := Array.eq_empty_of_size_eq_zero (beq_iff_eq.mp hgens)
  have G : Ground q loose r.records XP w s _ _ s.heap := RF.ground G0
  refine callFrom_J (c := r.claim) hz hgens fun args hpre hlay ord hord => ?_
  obtain ⟨⟨vs, s₁⟩, hlaid⟩ := Option.isSome_iff_exists.mp (layAllW_isSome (P := w.params) (ord := ord) G.has args r.args s (pre_splitW hpre).1)
  have keeps := layAllW_keeps _ _ _ hlaid
  have hal := layAllW_rest _ _ _ hlaid
  obtain ⟨as, hrd, hin, hold⟩ := reads_layAllW hord _ _ _ hlaid hlay s₁.heap (fun _ _ e => e)
  have L : Laid r.records w s s₁ args vs as := ⟨⟨ord, hord, hlaid⟩, hrd, hin, hold, keeps, hal.1.trans hgens, hal.2.2.1⟩
  have G₁ := G.keeps hXk keeps
  obtain ⟨f, hf, h⟩ := call w s s₁ _ _ G₁ (hYk _ _ _ (hY w s y) keeps) args vs as hpre hlay L G.low
  have hi := ident_freeW hu ha hap
  have hwi : r.claim.within = [] := List.isEmpty_iff.mp k6
  exact ⟨vs, s₁, hlaid, ht vs w s₁ _ f _ G₁.T.g hf (wpJ_mono h (fun v s' g => ⟨_, rfl, have z := g.laid (c := r.claim) hsame hwi hi L; ⟨z.1, z.2.1, z.2.2, fun q => ⟨namesKept_of hT' hg kps keeps g.2.1.old, noTable hwr q⟩⟩⟩))⟩
noncomputable abbrev WalkJ (q : Program) (loose : List Str) (XP : (Str → Option Value) → Heap → Prop) (YP : World → Heap → Prop) (r : RowW) (d : DefRec) (kwd : List (Str × Expr)) (run : Value → List Value → Sem Value) : Prop :=
  ∀ (w : World) (s₀ s₁ : Shared) (mg mb : Str → Option Value), Ground q loose r.records XP w s₀ mg mb s₁.heap → YP w s₁.heap → ∀ (a : Addr) (o : Obj) (pm cd doc dV kV : Value), s₁.heap.get? a = some o →
    o.data = .func { docDef d.name d.params d.body d.scope pm cd doc with defaults := dV, kwdefaults := kV } → s₁.heap.CodeRec cd d.name → Dflts mg s₁.heap d.params kwd dV kV → mg d.name = some (.ref a) → s₁.gens = #[] →
    ∀ (args : List WData) (vals : List Value) (as : List Addr), r.claim.pre args = true → WData.layableAll args = true → ReadsAllW r.records (classAt s₀.heap) s₁.heap vals args as → WellAll w.params s₁.heap vals args → (∀ a ∈ as, (a == sysModules) = false) →
      wpJ (model r.prog w) callerA (run (.ref a) vals) (fun v s' => GoodWG r.claim (classAt s₀.heap) (ExcName.means s₀.heap) args s₁ (.ok (.ret v)) s') s₁
theorem holds_openJ {r : OpenRow} {q : Program} {loose : List Str} {Xt : Shared → Bool} {XP : (Str → Option Value) → Heap → Prop} {α : Type} {Yf : Shared → α} {Ya : World → α} {YP : World → Heap → Prop} {d : DefRec} {kwd : List (Str × Expr)} {N : Nat}
    (left : LeftO r.prog q loose Xt Yf Ya N) (hY : ∀ w s, Yf s = Ya w → YP w s.heap) (hYk : ∀ w h h', YP w h → (∀ b o, h.get? b = some o → h'.get? b = some o) → YP w h')
    (hX : ∀ s, Xt s = true → XP (s.heap.nsMap mainGlobals) s.heap) (hXk : ∀ mg h h', XP mg h → (∀ b o, h.get? b = some o → h'.get? b = some o) → XP mg h')
    (hdef : defOf q r.name = some (d, kwd)) (hp : r.prog.theDef r.name = some (d.params, d.body, d.scope)) (hk : kwWritten? d.params.kwonlyargs d.params.kw_defaults = some kwd) (hRf : ∀ s, Xt s = true → RecFacts r.records s.heap) (hwr : (!r.writes || r.records.isEmpty) = true)
    (k1 : r.wellSaid = true) (ok : (chainsOk q && opensWell r.prog && (frees r.toRowW && r.within.isEmpty)) = true) (hb : r.prog.bare) (hw : r.toRowW.promised)
    (call : WalkJ q loose XP YP r.toRowW d kwd fun f vs => PySem.call f vs) : r.Holds := by
  refine ⟨k1, hw, open_J (r := r.toRowW) (run := fun f vs => PySem.call f vs) (tree := fun vs => do match ← nsGet mainNs r.name with
      | some f => do ret (← PySem.call f vs)
      | none => unsupported "claim.caller:no-such-global") left hY hYk hX hXk hRf hwr ok hb hw
    (fun vs w s mg f Q hg hf h => wpJ_bind (wpJ.of (wpAny_nsGet hg (by rw [hf]; exact wpJ_bind (wpJ_mono h (fun _ _ x => wpJ_pure x))))))
    (fun w s hg G n hn => ?_) fun w s₀ s₁ mg mb G Y args vs as hpre hlay L low => ?_⟩
  · obtain rfl : n = r.name := by split at hn <;> simp_all
    exact pinned_of_view hg G hdef hp hk
  · obtain ⟨a, o, pm, cd, doc, dV, kV, h1, h2, h3, h4, h5⟩ := G.fn hdef
    exact ⟨.ref a, h1, call w s₀ s₁ mg mb G Y a o pm cd doc dV kV h2 h3 h4 h5 (defOf_name hdef ▸ h1) L.gens args vs as hpre hlay L.reads L.well (L.low low)⟩
end Mine
end
noncomputable section
open PySem PySem.W PyProof.Rows
set_option Elab.async false
set_option linter.unusedVariables false
namespace Mine
section
variable {M : Model} {A : Around} {s : Shared} {env : Env}
theorem jIfExp {test body orelse pos} {Q : Value → Shared → Prop} (h : wpJ M A (isTrue test env (eval test env)) (fun b s₁ => if b then wpJ M A (eval body env) Q s₁ else wpJ M A (eval orelse env) Q s₁) s) : wpJ M A (eval (.IfExp test body orelse pos) env) Q s := by
  rw [arm_eval_IfExp]
  exact wpJ_bind (wpJ_mono h fun b s₁ h₁ => by cases b <;> exact h₁)
theorem jUnary {op x pos} {Q : Value → Shared → Prop} (h : wpJ M A (eval x env) (fun v s₁ => wpJ M A (unaryOp op v) Q s₁) s) : wpJ M A (eval (.UnaryOp op x pos) env) Q s := by
  rw [arm_eval_UnaryOp]
  exact wpJ_bind (wpJ_mono h fun v s₁ h₁ => wpJ_at (wpJ_holding h₁))
theorem jTestPlain {e : Expr} {whole : Sem Value} {Q : Bool → Shared → Prop} (h : wpJ M A whole (fun v s₁ => wpJ M A (truthy v) Q s₁) s) (he : PySem.isTrue e env whole = (do let v ← whole; standAt e.pos; holding [v] (truthy v))) : wpJ M A (PySem.isTrue e env whole) Q s := by
  rw [he]
  exact wpJ_bind (wpJ_mono h fun v s₁ h₁ => wpJ_at (wpJ_holding h₁))
theorem jSpliced_nil {Q : List Value → Shared → Prop} (h : Q [] s) : wpJ M A (spliced []) Q s := wpJ_pure h
theorem jSpliced_cons {x : Sem Value} {rest : List (Bool × Sem Value)} {Q : List Value → Shared → Prop} (h : wpJ M A x (fun v s₁ => wpJ M A (spliced rest) (fun vs s₂ => Q (v :: vs) s₂) s₁) s) : wpJ M A (spliced ((false, x) :: rest)) Q s := by
  rw [spliced]
  refine wpJ_bind (wpJ_mono h fun v s₁ h₁ => ?_)
  simp only [Bool.false_eq_true, if_false]
  exact wpJ_bind (wpJ_pure (wpJ_bind (wpJ_holding (wpJ_mono h₁ fun vs s₂ h₂ => wpJ_pure h₂))))
theorem jTuple {elts : List Expr} {k : Nat} {pos : Pos} {Q : Value → Shared → Prop} (h : wpJ M A (spliced (backTo pos (starEach elts env))) (fun vs s₁ => wpJ M A (newTuple vs) Q s₁) s) : wpJ M A (eval (.Tuple elts k pos) env) Q s := by
  rw [arm_eval_Tuple]
  exact wpJ_at (wpJ_bind h)
theorem jList {elts : List Expr} {pos : Pos} {Q : Value → Shared → Prop} (h : wpJ M A (spliced (backTo pos (starEach elts env))) (fun vs s₁ => wpJ M A (newList vs) Q s₁) s) : wpJ M A (eval (.List elts pos) env) Q s := by
  rw [arm_eval_List]
  exact wpJ_at (wpJ_bind h)
theorem jSubscript {value slice pos} {Q : Value → Shared → Prop} (h : wpJ M A (eval value env) (fun o s₁ => wpJ M A (eval slice env) (fun i s₂ => wpJ M A (subscriptTail value slice o i) Q s₂) s₁) s) : wpJ M A (eval (.Subscript value slice pos) env) Q s := by
  rw [eval_Subscript]
  exact wpJ_bind (wpJ_mono h fun o s₁ h₁ => wpJ_bind (wpJ_holding (wpJ_mono h₁ fun i s₂ h₂ => wpJ_at h₂)))
theorem back_plain {pos : Pos} {l : List (Bool × Sem Value)} (h : l.any (·.1) = false) : (backTo pos l).any (·.1) = false := by
  unfold backTo
  rw [List.any_map]
  exact h
theorem jArgs {f : Value} {args : List (Bool × Sem Value)} {Q : Args → Shared → Prop} (hp : args.any (·.1) = false) (h : wpJ M A (spliced args) (fun vs s' => Q ⟨vs, []⟩ s') s) : wpJ M A (evalArgs f true args []) Q s := by
  have key : wpJ M A (spliced args >>= fun ps => (holding (ps ++ (none : Option Value).toList) (do
      let kw := ((([] : List (Option Str × Sem Value)).filterMap (·.1)).zip (← evalAll (([] : List (Option Str × Sem Value)).map (·.2))))
      return ⟨← pure ps, kw⟩) : Sem Args)) Q s := wpJ_bind (wpJ_mono h fun vs s' h' => wpJ_holding (wpJ_bind (wpJ_pure (wpJ_bind (wpJ_pure (wpJ_pure h'))))))
  cases args with
  | nil => exact key
  | cons x r =>
    obtain ⟨b, t⟩ := x
    cases b with
    | true => simp at hp
    | false => exact key
theorem jCallWith {pos : Pos} {f : Value} {args : List (Bool × Sem Value)} {Q : Value → Shared → Prop} (hp : args.any (·.1) = false) (hn : args.length ≤ 30)
    (h : wpJ M A (spliced args) (fun vs s₁ => (∃ kp, (kp = .frame ∨ kp = .machine) ∧ ∀ {Q' : Keeper → Shared → Prop}, Q' kp s₁ → wpAny M A (keeperOf f) Q' noE s₁) ∧ wpJ M A (call f vs) Q s₁) s) : wpJ M A (callWith pos f [] args []) Q s := by
  unfold callWith
  refine wpJ_bind (wpJ_holding (jArgs hp (wpJ_mono h fun vs s₁ h₁ => wpJ_at ?_)))
  obtain ⟨⟨kp, hk, hkp⟩, hc⟩ := h₁
  have tail : ∀ {t : Sem Value}, wpJ M A t Q s₁ → wpJ M A (t >>= fun r => holding [r] point >>= fun _ => pure r) Q s₁ :=
    fun ht => wpJ_bind (wpJ_mono ht fun r s₂ hr => wpJ_bind (wpJ_holding (wpJ.of (wpAny_point (wpJ_pure hr)))))
  simp only [hp, List.any_nil, Bool.or_false, List.nil_append]
  refine wpJ_bind (wpJ.of (hkp ?_))
  rcases hk with rfl | rfl
  · simp only [List.length_nil, Nat.mul_zero, Nat.add_zero, if_neg (Nat.not_lt.mpr hn)]
    exact tail (wpJ_keep hc)
  · exact tail hc
theorem jCall_Name {x : Str} {p pos : Pos} {args : List Expr} {Q : Value → Shared → Prop} (h : wpJ M A (eval (.Name x p) env) (fun f s₁ => wpJ M A (callWith pos f [] (backTo pos (starEach args env)) []) Q s₁) s) : wpJ M A (eval (.Call (.Name x p) args [] pos) env) Q s := by
  show wpJ M A (do callWith pos (← eval (.Name x p) env) [] (backTo pos (starEach args env)) (backToKw pos (keywordEach [] env))) Q s
  exact wpJ_bind h
theorem jExecs_nil {Q : Flow → Shared → Prop} (h : Q .next s) : wpJ M A (execs [] env) Q s := fun _ _ _ _ => h
theorem jExecs_cons {st rest} {Q : Flow → Shared → Prop} (h : wpJ M A (exec st env) (fun f s' => match f with | .next => wpJ M A (execs rest env) Q s' | f => Q f s') s) : wpJ M A (execs (st :: rest) env) Q s := by
  rw [execs_cons]
  refine wpJ_bind (wpJ_mono h fun f s' h' => ?_)
  cases f <;> first | exact h' | exact wpJ_pure h'
theorem jReturn {e pos} {Q : Flow → Shared → Prop} (h : wpJ M A (eval e env) (fun v => Q (.ret v)) s) : wpJ M A (exec (.Return (some e) pos) env) Q s := by
  rw [exec_Return_some]
  exact wpJ_at (wpJ_bind (wpJ_mono h fun v s' h' => wpJ_pure h'))
theorem jIf {test body orelse pos} {Q : Flow → Shared → Prop} (h : wpJ M A (isTrue test env (eval test env)) (fun b s₂ => if b then wpJ M A (execs body env) Q s₂ else wpJ M A (execs orelse env) Q s₂) s) : wpJ M A (exec (.If test body orelse pos) env) Q s := by
  rw [exec_If]
  exact wpJ_at (wpJ_bind (wpJ_mono h fun b s₂ h₂ => by cases b <;> exact h₂))
theorem jBindName {x : Str} {v : Value} {Q : Unit → Shared → Prop} (h : wpJ M A (storeName env x v) Q s) : wpJ M A (bindName env x v) Q s := fun Γ p hΓ j => by rw [Sem.wp_bindName]; exact h Γ p hΓ j
theorem jAssign {x pos' value pos} {Q : Flow → Shared → Prop} (h : wpJ M A (eval value env) (fun v s₁ => wpJ M A (storeName env x v) (fun _ => Q .next) s₁) s) (hs : swapsWith value (some (.Name x pos')) pos.line env = pure false) : wpJ M A (exec (.Assign [.Name x pos'] value pos) env) Q s := by
  rw [exec_Assign_Name env x pos' value pos hs]
  exact wpJ_at (wpJ_bind (wpJ_mono h fun v s₁ h₁ => wpJ_at (wpJ_bind (jBindName (wpJ_mono h₁ fun _ s₂ h₂ => wpJ_pure h₂)))))
theorem jAug {x pos' op value pos} {Q : Flow → Shared → Prop} (h : wpJ M A (loadName env x) (fun old s₁ => wpJ M A (eval value env) (fun v s₂ => wpJ M A (inplaceOp op old v) (fun r s₃ => wpJ M A (storeName env x r) (fun _ => Q .next) s₃) s₂) s₁) s) : wpJ M A (exec (.AugAssign (.Name x pos') op value pos) env) Q s := by
  rw [exec_AugAssign_Name]
  exact wpJ_at (wpJ_bind (wpJ_mono h fun old s₁ h₁ => wpJ_bind (wpJ_holding (wpJ_mono h₁ fun v s₂ h₂ => wpJ_at (wpJ_bind (wpJ_operate (wpJ_mono h₂ fun r s₃ h₃ => wpJ_at (wpJ_bind (jBindName (wpJ_mono h₃ fun _ s₄ h₄ => wpJ_pure h₄))))))))))
theorem jAssignName {x pos v} {Q : Unit → Shared → Prop} (h : wpJ M A (storeName env x v) Q s) : wpJ M A (assign (.Name x pos) env v) Q s := by
  rw [PySem.assign_Name]; exact wpJ_at (jBindName h)
theorem jFor {target iter body orelse pos} {Q : Flow → Shared → Prop} (h : wpJ M A (eval iter env) (fun x s₁ => wpJ M A (pyIter x) (fun it s₂ => codeJ M A (.forLoop target it body orelse env) Q s₂) s₁) s) (hs : ∀ x, foldedSetIterable iter env x = pure x) : wpJ M A (exec (.For target iter body orelse pos) env) Q s := by
  rw [exec_For]
  exact wpJ_at (wpJ_bind (wpJ_mono h fun x s₁ h₁ => by
    rw [hs x]
    exact wpJ_bind (wpJ_pure (wpJ_at (wpJ_bind (wpJ_holding (wpJ_mono h₁ fun it s₂ h₂ => wpJ_runOwn rfl h₂)))))))
end
section
variable {prog : Program} {w : World} {A : Around} {s : Shared} {env : Env}
theorem codeJ_block {stmts : List Stmt} {Q : Flow → Shared → Prop} (h : wpJ (model prog w) A (execs stmts env) Q s) : codeJ (model prog w) A (.block stmts env) Q s := by
  refine codeJ_of_tree ?_
  rw [Around.under_of_weight rfl]
  show wpJ _ _ (do return Fin.done (← (execs stmts env).onRaise (fun x => do noteFrame x env; theTreesLotGoes x))) _ s
  exact wpJ_bind (wpJ_onRaise (wpJ_mono h fun f s' h' => wpJ_pure h'))
theorem codeJ_func {body : List Stmt} {Q : Flow → Shared → Prop} (h : wpJ (model prog w) (A.deeper env) (execs body env) (fun f s' => Q (.ret (match f with | .ret v => v | _ => .none)) s') s) : codeJ (model prog w) A (.func body env) Q s := by
  refine codeJ_of_tree ?_
  show wpJ _ (A.deeper env) (do point; match ← (execs body env).onRaise (leaving env) with | .ret v => ret v | _ => ret .none) _ s
  refine wpJ_bind (wpJ.of (wpAny_point (wpJ_bind (wpJ_onRaise (wpJ_mono h fun f s' h' => ?_)))))
  cases f <;> exact wpJ_pure h'
theorem codeJ_forLoop {Q : Flow → Shared → Prop} {target it body orelse} (I : Nat → Shared → Prop)
    (turn : ∀ n s, I n s → wpJ (model prog w) A (pyNext it) (fun r s₁ => match r with
      | none => wpJ (model prog w) A (execs orelse env) Q s₁
      | some v => wpJ (model prog w) A (assign target env v) (fun _ s₂ => wpJ (model prog w) A (execs body env) (fun f s₃ => match f with
          | .next | .cont => ∃ m, m < n ∧ I m s₃
          | .brk => Q .next s₃
          | .ret v => Q (.ret v) s₃) s₂) s₁) s)
    (n : Nat) (h : I n s) (ht : ∀ v, letOwnedTupleGo target it v = pure () := by intro _; rfl) : codeJ (model prog w) A (.forLoop target it body orelse env) Q s := by
  refine codeJ_loop rfl rfl I (fun n s hI => ?_) n h
  rw [Around.under_of_weight rfl]
  show wpJ _ _ ((forTurn target it body orelse env).onRaise (fun x => do noteFrame x env; theTreesLotGoes x)) _ s
  refine wpJ_onRaise ?_
  simp only [forTurn]
  refine wpJ_at (wpJ_bind (wpJ_onRaise (wpJ_mono (turn n s hI) fun r s₁ h₁ => ?_)))
  cases r with
  | none => exact wpJ_pure (.inr ⟨rfl, rfl, codeJ_block h₁⟩)
  | some v =>
    dsimp only
    rw [ht v]
    refine wpJ_bind (wpJ_pure (wpJ_bind (wpJ_mono h₁ fun _ s₂ h₂ => wpJ_bind (wpJ_mono h₂ fun f s₃ h₃ => ?_))))
    cases f with
    | next => exact wpJ_pure (.inl ⟨rfl, h₃⟩)
    | cont => exact wpJ_pure (.inl ⟨rfl, h₃⟩)
    | brk => exact wpJ_pure h₃
    | ret v => exact wpJ_pure h₃
/-- the call of a def, cells or none, no closure -/
theorem codeJ_call_cells {Q : Flow → Shared → Prop} {a : Addr} {o : Obj} {fd : FuncData} {body : List Stmt} {vals : List Value} {binds : List (Str × Value)}
    (hroom : A.depth < recursionLimit) (ho : s.heap.get? a = some o) (hdata : o.data = .func fd) (hlim : s.heap.NoLimit) (hcd : s.heap.CodeRec fd.code fd.qualname)
    (hbody : fd.body = .stmts body) (hbind : bindArgs fd ⟨vals, []⟩ = pure binds) (hclo : fd.closure = [])
    (hkind : ∀ x ∈ binds, fd.scope.names.lookup x.1 = some .local ∨ (fd.scope.names.lookup x.1 = some .cell ∧ ((cellsFrom (s.heap.objs.size + 1) fd.scope.names []).lookup x.1).isSome = true))
    (h : ∀ s₁, InCallC s (callEnvC fd s.heap.objs.size a).locals (bindL (callEnvC fd s.heap.objs.size a).kindOf binds fun _ => none) (callEnvC fd s.heap.objs.size a).cells
        (bindC (callEnvC fd s.heap.objs.size a).kindOf binds fun _ => none) s₁ →
      wpJ (model prog w) (A.deeper (callEnvC fd s.heap.objs.size a)) (execs body (callEnvC fd s.heap.objs.size a)) (fun f s' => Q (.ret (match f with | .ret v => v | _ => .none)) s') s₁)
    (hco : fd.scope.isCoroutine = false) (hgen : fd.scope.isGenerator = false) (hk : fd.scope.kind = .function) :
    codeJ (model prog w) A (.call (.ref a) ⟨vals, []⟩) Q s := by
  refine codeJ_of_tree ?_
  show wpJ _ A.in1 (callAny (.ref a) ⟨vals, []⟩) _ s
  simp only [callAny]
  refine wpJ_bind (wpJ.of (wpAny_load ho ?_))
  obtain ⟨c, oc, vs, tq, hc, hoc, hdc, hq⟩ := hcd
  simp only [hdata, callFunction, hco, hgen, hbody, hc]
  refine wpJ_bind (m := field (.ref c) 1) (wpJ.of (wpAny_field hoc hdc hq (wpJ_bind (wpJ_pure ?_))))
  rw [hbind, hclo]
  refine wpJ_bind (wpJ_pure (wpJ_bind (wpJ.of (wpAny_newFunctionEnv_cells hk hkind fun env he s' x => ?_))))
  have he' : env = callEnvC fd s.heap.objs.size a := by rw [he]; unfold callEnvC; rw [hc]
  subst he'
  exact wpJ_bind (wpJ.of (wpAny_enterFrame (hlim.keeps x.toInCall.keep) hroom (wpJ_pure ⟨rfl, rfl, codeJ_func (h s' x)⟩)))
end
end Mine
end
noncomputable section
open PySem PySem.W PyProof.Rows
set_option Elab.async false
namespace Mine
theorem len1 {α : Type} {l : List α} (h : l.length = 1) : ∃ a, l = [a] := List.length_eq_one_iff.mp h
theorem lenS {α : Type} {l : List α} {n : Nat} (h : l.length = n + 1) : ∃ a r, l = a :: r ∧ r.length = n := by
  cases l with
  | nil => cases h
  | cons a r => exact ⟨a, r, rfl, Nat.succ.inj h⟩
theorem len2 {α : Type} {l : List α} (h : l.length = 2) : ∃ a b, l = [a, b] := by
  obtain ⟨a, r, rfl, h'⟩ := lenS h
  obtain ⟨b, rfl⟩ := len1 h'
  exact ⟨a, b, rfl⟩
theorem len3 {α : Type} {l : List α} (h : l.length = 3) : ∃ a b c, l = [a, b, c] := by
  obtain ⟨a, r, rfl, h'⟩ := lenS h
  obtain ⟨b, c, rfl⟩ := len2 h'
  exact ⟨a, b, c, rfl⟩
/-- plain data -/
inductive D where
  | none | bool (b : Bool) | int (i : Int) | bytes (b : List UInt8) | tup (l : List D) | lst (l : List D) | range (a b c : Int) | val (v : Value) | key (C : Addr) (d : D)
/-- the heap has grown: what was outside S is there, a code table may have more rows -/
structure Grow (S : Addr → Prop) (h h' : Heap) : Prop where
  old : ∀ b o, ¬ S b → h.get? b = some o → h'.get? b = some o
noncomputable abbrev no : Addr → Prop := fun _ => False
noncomputable abbrev Le := Grow no
theorem Grow.refl (S : Addr → Prop) (h : Heap) : Grow S h h := ⟨fun _ _ _ e => e⟩
theorem Grow.trans {S : Addr → Prop} {h h' h'' : Heap} (a : Grow S h h') (b : Grow S h' h'') : Grow S h h'' := ⟨fun c o hs e => b.old c o hs (a.old c o hs e)⟩
theorem Grow.mono {S S' : Addr → Prop} {h h' : Heap} (a : Grow S h h') (hs : ∀ b, S b → S' b) : Grow S' h h' :=
  ⟨fun b o n e => a.old b o (fun x => n (hs b x)) e⟩
theorem Grow.any {S : Addr → Prop} {h h' : Heap} (a : Le h h') : Grow S h h' := a.mono fun _ x => x.elim
theorem Grow.get {S : Addr → Prop} {h h' : Heap} (a : Grow S h h') {b : Addr} {o : Obj} (hs : ¬ S b) (e : h.get? b = some o) (hc : o.cls ≠ .none) : h'.get? b = some o := a.old b o hs e
theorem Grow.getD {S : Addr → Prop} {h h' : Heap} (a : Grow S h h') {b : Addr} {o : Obj} (hs : ¬ S b) (e : h.get? b = some o) (hc : ∀ ps, o.data ≠ .fields ps) : h'.get? b = some o := a.old b o hs e
theorem Grow.keeps {S : Addr → Prop} {h h' : Heap} (k : ∀ b o, h.get? b = some o → h'.get? b = some o) : Grow S h h' := ⟨fun b o _ e => k b o e⟩
theorem Grow.push {S : Addr → Prop} (h : Heap) (o : Obj) : Grow S h (h.push o) := .keeps (fun _ _ e => Heap.get?_push_of_some _ e)
theorem Grow.same {S : Addr → Prop} {h h' : Heap} {a : Addr} (hs : Heap.SameBut a h h') (ha : S a) : Grow S h h' :=
  ⟨fun b o n e => (hs.2 b (fun q => n (q ▸ ha))).trans e⟩
theorem Grow.alive {S : Addr → Prop} {h h' : Heap} (a : Grow S h h') {b : Addr} (hs : ¬ S b) (e : ∃ o, h.get? b = some o) : ∃ o, h'.get? b = some o := let ⟨o, e⟩ := e; ⟨o, a.old b o hs e⟩
/-- all of X is there -/
noncomputable def Alive (X : Addr → Prop) (h : Heap) : Prop := ∀ a, X a → ∃ o, h.get? a = some o
theorem Alive.le {X : Addr → Prop} {h h' : Heap} (x : Alive X h) (g : Grow no h h') : Alive X h' := fun a q => g.alive (fun x => x) (x a q)
theorem Alive.new {X : Addr → Prop} {h : Heap} (x : Alive X h) : ¬ X h.objs.size := fun q => let ⟨_, e⟩ := x _ q; Nat.lt_irrefl _ (Heap.lt_size e)
theorem Grow.ns {S : Addr → Prop} {h h' : Heap} (a : Grow S h h') {b : Addr} {m} (hs : ¬ S b) (n : h.Ns b m) : h'.Ns b m := by
  obtain ⟨o, es, ep, ho, hd, r⟩ := n
  exact ⟨o, es, ep, a.getD hs ho (fun ps => by rw [hd]; intro q; cases q), hd, r⟩
theorem Grow.cell {S : Addr → Prop} {h h' : Heap} (a : Grow S h h') {b : Addr} {v} (hs : ¬ S b) (n : h.IsCell b v) : h'.IsCell b v := by
  obtain ⟨o, ho, hd⟩ := n
  exact ⟨o, a.getD hs ho (fun ps => by rw [hd]; intro q; cases q), hd⟩
theorem Grow.list {S : Addr → Prop} {h h' : Heap} (a : Grow S h h') {b : Addr} {v} (hs : ¬ S b) (n : h.IsList b v) : h'.IsList b v := by
  obtain ⟨o, ho, hc, k, hd⟩ := n
  exact ⟨o, a.getD hs ho (fun ps => by rw [hd]; intro q; cases q), hc, k, hd⟩
theorem Grow.tup {S : Addr → Prop} {h h' : Heap} (a : Grow S h h') {b : Addr} {v} (hs : ¬ S b) (n : IsTup h b v) : IsTup h' b v := by
  obtain ⟨o, ho, hc, k, hd⟩ := n
  exact ⟨o, a.getD hs ho (fun ps => by rw [hd]; intro q; cases q), hc, k, hd⟩
mutual
/-- the heap bears the datum at a value; nothing of it lies in X -/
noncomputable def Rep (h : Heap) (X : Addr → Prop) : D → Value → Prop
  | .none, v => v = .none
  | .bool b, v => v = .bool b
  | .int i, v => ∃ t, v = .int i t
  | .bytes b, v => ∃ t, v = .bytes b.toArray t
  | .tup l, v => ∃ a vs, v = .ref a ∧ ¬ X a ∧ IsTup h a (List.toArray vs) ∧ Reps h X l vs
  | .lst l, v => ∃ a vs, v = .ref a ∧ ¬ X a ∧ h.IsList a (List.toArray vs) ∧ Reps h X l vs
  | .range a b c, v => ∃ r t u z, v = .ref r ∧ ¬ X r ∧ IsRange h r a b c t u z
  | .val v', v => v = v'
  | .key C d, v => ∃ x dx u, v = .ref x ∧ ¬ X x ∧ h.get? x = some ⟨.ref C, some dx, .plain, #[some u]⟩ ∧ Rep h X d u
noncomputable def Reps (h : Heap) (X : Addr → Prop) : List D → List Value → Prop
  | [], vs => vs = []
  | d :: ds, vs => ∃ v vs', vs = v :: vs' ∧ Rep h X d v ∧ Reps h X ds vs'
end
/-- an object that bears no datum -/
noncomputable def Bare (o : Obj) : Prop := (∀ xs n, o.data ≠ .seq xs n) ∧ (∀ vs, o.data = .fields vs → o.cls ≠ .type "range") ∧ o.data ≠ .plain
theorem Bare.dict {o : Obj} {es n} (q : o.data = .dict es n) : Bare o := ⟨(fun xs n hd => by rw [q] at hd; cases hd), (fun vs hd => by rw [q] at hd; cases hd), (fun hd => by rw [q] at hd; cases hd)⟩
theorem Bare.cell {o : Obj} {v} (q : o.data = .cell v) : Bare o := ⟨(fun xs n hd => by rw [q] at hd; cases hd), (fun vs hd => by rw [q] at hd; cases hd), (fun hd => by rw [q] at hd; cases hd)⟩
theorem Bare.fields {o : Obj} {v} (q : o.data = .fields v) (hc : o.cls ≠ .type "range") : Bare o := ⟨(fun xs n hd => by rw [q] at hd; cases hd), (fun _ _ => hc), (fun hd => by rw [q] at hd; cases hd)⟩
mutual
theorem Rep.grow {S X X' : Addr → Prop} {h h' : Heap} (g : Grow S h h') (hS : ∀ b, S b → X b ∨ ∀ o, h.get? b = some o → Bare o) (hX : ∀ b, b < h.objs.size → X' b → X b) :
    ∀ {d : D} {v : Value}, Rep h X d v → Rep h' X' d v
  | .none, _, r => r
  | .bool _, _, r => r
  | .int _, _, r => r
  | .bytes _, _, r => r
  | .val _, _, r => r
  | .key C d, v, r => by
    obtain ⟨x, dx, u, e, hx, ho, ru⟩ := r
    have hs : ¬ S x := fun s => by
      rcases hS x s with q | q
      · exact hx q
      · exact (q _ ho).2.2 rfl
    exact ⟨x, dx, u, e, fun q => hx (hX x (Heap.lt_size ho) q), g.old _ _ hs ho, Rep.grow g hS hX ru⟩
  | .range a b c, v, r => by
    obtain ⟨a, t, u, z, e, hx, ht⟩ := r
    have hs : ¬ S a := fun s => by
      rcases hS a s with x | x
      · exact hx x
      · exact (x _ ht).2.1 _ rfl rfl
    exact ⟨a, t, u, z, e, fun q => hx (hX a (Heap.lt_size ht) q), g.get hs ht (fun q => nomatch q)⟩
  | .tup l, v, r => by
    obtain ⟨a, vs, e, hx, ht, rs⟩ := r
    have hs : ¬ S a := fun s => by
      rcases hS a s with x | x
      · exact hx x
      · obtain ⟨o, ho, _, n, hd⟩ := ht; exact (x o ho).1 _ n hd
    exact ⟨a, vs, e, fun q => hx (hX a (let ⟨_, ho, _⟩ := ht; Heap.lt_size ho) q), g.tup hs ht, Reps.grow g hS hX rs⟩
  | .lst l, v, r => by
    obtain ⟨a, vs, e, hx, ht, rs⟩ := r
    have hs : ¬ S a := fun s => by
      rcases hS a s with x | x
      · exact hx x
      · obtain ⟨o, ho, _, n, hd⟩ := ht; exact (x o ho).1 _ n hd
    exact ⟨a, vs, e, fun q => hx (hX a (let ⟨_, ho, _⟩ := ht; Heap.lt_size ho) q), g.list hs ht, Reps.grow g hS hX rs⟩
theorem Reps.grow {S X X' : Addr → Prop} {h h' : Heap} (g : Grow S h h') (hS : ∀ b, S b → X b ∨ ∀ o, h.get? b = some o → Bare o) (hX : ∀ b, b < h.objs.size → X' b → X b) :
    ∀ {d : List D} {v : List Value}, Reps h X d v → Reps h' X' d v
  | [], _, r => r
  | _ :: _, _, ⟨v, vs, e, r, rs⟩ => ⟨v, vs, e, Rep.grow g hS hX r, Reps.grow g hS hX rs⟩
end
theorem Rep.le {X : Addr → Prop} {h h' : Heap} (g : Le h h') {d : D} {v : Value} (r : Rep h X d v) : Rep h' X d v := r.grow g (fun _ s => s.elim) fun _ _ x => x
theorem Reps.le {X : Addr → Prop} {h h' : Heap} (g : Le h h') {d : List D} {v : List Value} (r : Reps h X d v) : Reps h' X d v := r.grow g (fun _ s => s.elim) fun _ _ x => x
theorem Reps.length {X : Addr → Prop} {h : Heap} : ∀ {d : List D} {v : List Value}, Reps h X d v → v.length = d.length
  | [], _, r => by cases r; rfl
  | _ :: _, _, ⟨v, vs, e, _, rs⟩ => by rw [e, List.length_cons, List.length_cons, rs.length]
theorem Reps.get {X : Addr → Prop} {h : Heap} : ∀ {ds : List D} {vs : List Value}, Reps h X ds vs → ∀ {i : Nat} {d : D}, ds[i]? = some d → ∃ v, vs[i]? = some v ∧ Rep h X d v
  | [], _, _, i, d, e => by simp at e
  | d₀ :: ds, _, ⟨v, vs, rfl, r, rs⟩, 0, d, e => by
    simp at e; subst e; exact ⟨v, rfl, r⟩
  | d₀ :: ds, _, ⟨v, vs, rfl, r, rs⟩, i + 1, d, e => by
    simp at e; simpa using rs.get e
theorem Reps.append {X : Addr → Prop} {h : Heap} : ∀ {ds es : List D} {vs us : List Value}, Reps h X ds vs → Reps h X es us → Reps h X (ds ++ es) (vs ++ us)
  | [], _, _, _, r, q => by cases r; exact q
  | _ :: _, _, _, _, ⟨v, vs, rfl, r, rs⟩, q => ⟨v, vs ++ _, rfl, r, rs.append q⟩
theorem Reps.drop {X : Addr → Prop} {h : Heap} : ∀ (n : Nat) {ds : List D} {vs : List Value}, Reps h X ds vs → Reps h X (ds.drop n) (vs.drop n)
  | 0, _, _, r => r
  | _ + 1, [], _, r => by cases r; rfl
  | n + 1, _ :: _, _, ⟨v, vs, rfl, r, rs⟩ => by simpa using rs.drop n
theorem Reps.take {X : Addr → Prop} {h : Heap} : ∀ (n : Nat) {ds : List D} {vs : List Value}, Reps h X ds vs → Reps h X (ds.take n) (vs.take n)
  | 0, _, _, _ => by simp only [List.take_zero]; rfl
  | _ + 1, [], _, r => by cases r; simp only [List.take_nil]; rfl
  | n + 1, _ :: _, _, ⟨v, vs, rfl, r, rs⟩ => by simp only [List.take_succ_cons]; exact ⟨v, _, rfl, r, rs.take n⟩
theorem Reps.reverse {X : Addr → Prop} {h : Heap} : ∀ {ds : List D} {vs : List Value}, Reps h X ds vs → Reps h X ds.reverse vs.reverse
  | [], _, r => by cases r; rfl
  | d :: ds, _, ⟨v, vs, rfl, r, rs⟩ => by
    rw [List.reverse_cons, List.reverse_cons]; exact rs.reverse.append ⟨v, [], rfl, r, rfl⟩
/-- the ints among them -/
theorem Reps.ints {X : Addr → Prop} {h : Heap} : ∀ {ns : List Int} {vs : List Value}, Reps h X (ns.map D.int) vs → IntsAre vs ns
  | [], _, r => by cases r; exact .nil
  | n :: ns, _, r => by
    obtain ⟨v, vs, rfl, ⟨t, rfl⟩, rs⟩ := r
    exact .cons n t (Reps.ints rs)
theorem Reps.of_ints {X : Addr → Prop} {h : Heap} {vs : List Value} {ns : List Int} (hi : IntsAre vs ns) : Reps h X (ns.map D.int) vs := by
  induction hi with
  | nil => rfl
  | cons n t _ ih => exact ⟨_, _, rfl, ⟨t, rfl⟩, ih⟩
/-- room above the stack -/
structure Bud (k : Nat) (A : Around) : Prop where
  handled : A.handled = none
  depth : A.depth + k < 1000
  units : A.units + 10 * k < 9900
  guards : A.guards = some []
theorem Bud.lt {k : Nat} {A : Around} (b : Bud k A) : A.depth < recursionLimit := by have := b.depth; unfold recursionLimit; omega
theorem Bud.un {k : Nat} {A : Around} (b : Bud k A) : A.units < cLine := by have := b.units; unfold cLine; omega
theorem Bud.mono {k j : Nat} {A : Around} (b : Bud k A) (h : j ≤ k) : Bud j A := ⟨b.handled, by have := b.depth; omega, by have := b.units; omega, b.guards⟩
theorem Bud.in1 {k : Nat} {A : Around} (b : Bud (k + 1) A) : Bud k A.in1 := ⟨b.handled, by have := b.depth; show A.depth + k < 1000; omega, by have := b.units; show A.units + 1 + 10 * k < 9900; omega, b.guards⟩
theorem Bud.deeper {k : Nat} {A : Around} {env : Env} (b : Bud (k + 1) A) : Bud k (A.deeper env) := ⟨b.handled, by have := b.depth; show A.depth + 1 + k < 1000; omega, by have := b.units; simp only [Around.deeper_units]; omega, b.guards⟩
/-- what an evaluation leaves -/
noncomputable def Post (g : Array GenState) (d : Drawn) (o : OsState) (S : Addr → Prop) (h : Heap) {α : Type} (R : Heap → α → Prop) : α → Shared → Prop :=
  fun v s' => ∃ h' t', s' = ⟨h', g, d, t', o⟩ ∧ Grow S h h' ∧ R h' v
end Mine
end
noncomputable section
open PySem PySem.W PyProof.Rows
set_option Elab.async false
set_option linter.unusedVariables false
namespace Mine
noncomputable abbrev Rho := Str → Option D
noncomputable def upd (ρ : Rho) (x : Str) (d : D) : Rho := fun y => if y = x then some d else ρ y
noncomputable def nil : Rho := fun _ => none
/-- what is known of the top, wherever the heap has grown -/
structure Glob (G : Heap → Prop) (Z : Addr → Prop) : Prop where
  grow : ∀ S h h', (∀ a, S a → ¬ Z a) → Grow S h h' → G h → G h'
  lim : ∀ h, G h → h.NoLimit
  fresh : ∀ h, G h → ∀ a, h.objs.size ≤ a → ¬ Z a
variable {prog : Program} {w : World} {G : Heap → Prop} {Z : Addr → Prop}
/-- the activation's own objects, which it may change -/
noncomputable def Mut (env : Env) : Addr → Prop := fun b => b = env.locals ∨ ∃ x, env.kindOf x = some .cell ∧ env.cells.lookup x = some b
/-- the frame bears the data ρ -/
structure Fok (G : Heap → Prop) (Z : Addr → Prop) (X : Addr → Prop) (h : Heap) (env : Env) (ρ : Rho) : Prop where
  g : G h
  xs : Alive X h
  low : ¬ Z env.locals
  loc : ∃ m, h.Ns env.locals m ∧ ∀ x d, ρ x = some d → env.kindOf x = some .local → ∃ v, m x = some v ∧ Rep h X d v
  cel : ∀ x d, ρ x = some d → env.kindOf x ≠ some .local → ∃ c v, env.cells.lookup x = some c ∧ h.IsCell c (some v) ∧ Rep h X d v
  own : ∀ x, env.kindOf x = some .cell → ∃ c ov, env.cells.lookup x = some c ∧ h.IsCell c ov ∧ ¬ Z c
  apart : ∀ x y c, env.cells.lookup x = some c → env.cells.lookup y = some c → x = y
/-- nothing of the activation's own objects is a list or a tuple -/
theorem Mut.kind {X h env} {ρ : Rho} (F : Fok G Z X h env ρ) {b : Addr} (m : Mut env b) : ∃ o, h.get? b = some o ∧ ((∃ es n, o.data = .dict es n) ∨ ∃ v, o.data = .cell v) := by
  rcases m with rfl | ⟨x, hk, hc⟩
  · obtain ⟨m, ⟨o', es, ep, ho', hd', _⟩, _⟩ := F.loc
    exact ⟨o', ho', .inl ⟨es, ep, hd'⟩⟩
  · obtain ⟨c, ov, e, ⟨o', ho', hd'⟩, _⟩ := F.own x hk
    rw [hc] at e; cases e
    exact ⟨o', ho', .inr ⟨_, hd'⟩⟩
theorem Mut.noSeq {X h env} {ρ : Rho} (F : Fok G Z X h env ρ) {b : Addr} (m : Mut env b) : ∀ o, h.get? b = some o → Bare o := by
  intro o ho
  obtain ⟨o', ho', q⟩ := Mut.kind F m
  rw [ho'] at ho; cases ho
  rcases q with ⟨es, n, q⟩ | ⟨v, q⟩
  · exact .dict q
  · exact .cell q
theorem Fok.le (W : Glob G Z) {X h h' env} {ρ : Rho} (F : Fok G Z X h env ρ) (g : Le h h') : Fok G Z X h' env ρ where
  g := W.grow no h h' (fun _ x => x.elim) g F.g
  xs := F.xs.le g
  low := F.low
  loc := let ⟨m, n, q⟩ := F.loc; ⟨m, g.ns (fun x => x) n, fun x d e k => let ⟨v, a, r⟩ := q x d e k; ⟨v, a, r.le g⟩⟩
  cel := fun x d e k => let ⟨c, v, a, i, r⟩ := F.cel x d e k; ⟨c, v, a, g.cell (fun x => x) i, r.le g⟩
  own := fun x k => let ⟨c, v, a, i, r⟩ := F.own x k; ⟨c, v, a, g.cell (fun x => x) i, r⟩
  apart := F.apart
/-- a larger set set apart, all of it new -/
theorem Fok.more (W : Glob G Z) {X X' h h' env} {ρ : Rho} (F : Fok G Z X h env ρ) (g : Le h h') (hX : ∀ b, b < h.objs.size → X' b → X b) (hx : Alive X' h') : Fok G Z X' h' env ρ where
  g := W.grow no h h' (fun _ x => x.elim) g F.g
  xs := hx
  low := F.low
  loc := let ⟨m, n, q⟩ := F.loc; ⟨m, g.ns (fun x => x) n, fun x d e k => let ⟨v, a, r⟩ := q x d e k; ⟨v, a, r.grow g (fun _ s => s.elim) hX⟩⟩
  cel := fun x d e k => let ⟨c, v, a, i, r⟩ := F.cel x d e k; ⟨c, v, a, g.cell (fun x => x) i, r.grow g (fun _ s => s.elim) hX⟩
  own := fun x k => let ⟨c, v, a, i, r⟩ := F.own x k; ⟨c, v, a, g.cell (fun x => x) i, r⟩
  apart := F.apart
/-- objects in X (or ones that are no frame and no datum) may turn -/
theorem Fok.turn (W : Glob G Z) {S X h h' env} {ρ : Rho} (F : Fok G Z X h env ρ) (g : Grow S h h') (hlow : ∀ b, S b → ¬ Z b) (hal : ∀ b, S b → X b → ∃ o, h'.get? b = some o)
    (hS : ∀ b, S b → ∃ o, h.get? b = some o ∧ ((X b ∨ Bare o) ∧ (∀ xs n, o.data ≠ .dict xs n) ∧ ∀ v, o.data ≠ .cell v)) : Fok G Z X h' env ρ := by
  have rp : ∀ {d v}, Rep h X d v → Rep h' X d v := fun r => r.grow g (fun b s => by
    obtain ⟨o, ho, q, _⟩ := hS b s
    rcases q with q | q
    · exact .inl q
    · exact .inr fun o' ho' => by rw [ho] at ho'; cases ho'; exact q) fun _ _ x => x
  have nd : ∀ {b o es ep}, h.get? b = some o → o.data = .dict es ep → ¬ S b := fun ho hd s => by
    obtain ⟨o', ho', q⟩ := hS _ s
    rw [ho] at ho'; cases ho'
    exact q.2.1 _ _ hd
  have nc : ∀ {b v}, h.IsCell b v → ¬ S b := fun ⟨o, ho, hd⟩ s => by
    obtain ⟨o', ho', q⟩ := hS _ s
    rw [ho] at ho'; cases ho'
    exact q.2.2 _ hd
  exact {
    g := W.grow S h h' hlow g F.g
    xs := fun a x => Classical.byCases (fun s : S a => hal a s x) fun s => g.alive s (F.xs a x)
    low := F.low
    loc := by
      obtain ⟨m, n, q⟩ := F.loc
      have n' := n
      obtain ⟨o, es, ep, ho, hd, _⟩ := n'
      exact ⟨m, g.ns (nd ho hd) n, fun x d e k => let ⟨v, a, r⟩ := q x d e k; ⟨v, a, rp r⟩⟩
    cel := fun x d e k => let ⟨c, v, a, i, r⟩ := F.cel x d e k; ⟨c, v, a, g.cell (nc i) i, rp r⟩
    own := fun x k => let ⟨c, v, a, i, r⟩ := F.own x k; ⟨c, v, a, g.cell (nc i) i, r⟩
    apart := F.apart }
/-- a name is stored -/
theorem Fok.setLocal (W : Glob G Z) {X h h' env} {ρ : Rho} (F : Fok G Z X h env ρ) {m : Str → Option Value} (hm : ∀ x d, ρ x = some d → env.kindOf x = some .local → ∃ v, m x = some v ∧ Rep h X d v)
    {x : Str} {v : Value} {d : D} (hn : h'.Ns env.locals (fun y => if y = x then some v else m y)) (hs : Heap.SameBut env.locals h h') (r : Rep h X d v) (hk : env.kindOf x = some .local) : Fok G Z X h' env (upd ρ x d) := by
  have g : Grow (fun b => b = env.locals) h h' := .same hs rfl
  have dl : ∀ b, b = env.locals → ∀ o, h.get? b = some o → Bare o := fun b e => Mut.noSeq F (b := b) (.inl e)
  have rp : ∀ {d v}, Rep h X d v → Rep h' X d v := fun r => r.grow g (fun b s => .inr (dl b s)) fun _ _ x => x
  have nc : ∀ {b v}, h.IsCell b v → ¬ b = env.locals := fun ⟨o, ho, hd⟩ e => by
    subst e
    obtain ⟨_, ⟨o', es, ep, ho', hd', _⟩, _⟩ := F.loc
    rw [ho'] at ho; cases ho; rw [hd'] at hd; cases hd
  exact {
    g := W.grow (fun b => b = env.locals) h h' (fun a e => by subst e; exact F.low) g F.g
    xs := fun a x => Classical.byCases (fun s : a = env.locals => let ⟨o, _, _, e, _⟩ := hn; ⟨o, s ▸ e⟩) fun s => g.alive s (F.xs a x)
    low := F.low
    loc := ⟨_, hn, fun y d' e k => by
      unfold upd at e
      by_cases q : y = x
      · rw [if_pos q] at e; cases e
        exact ⟨v, if_pos q, rp r⟩
      · rw [if_neg q] at e
        obtain ⟨v', a, r'⟩ := hm y d' e k
        exact ⟨v', (if_neg q).trans a, rp r'⟩⟩
    cel := fun y d' e k => by
      unfold upd at e
      by_cases q : y = x
      · subst q; exact absurd hk k
      · rw [if_neg q] at e
        obtain ⟨c, v, a, i, r⟩ := F.cel y d' e k
        exact ⟨c, v, a, g.cell (nc i) i, rp r⟩
    own := fun x k => let ⟨c, v, a, i, r⟩ := F.own x k; ⟨c, v, a, g.cell (nc i) i, r⟩
    apart := F.apart }
theorem Fok.setCell (W : Glob G Z) {X h h' env} {ρ : Rho} (F : Fok G Z X h env ρ) {x : Str} {c : Addr} {v : Value} {d : D} (hc : env.cells.lookup x = some c) {ov : Option Value} (hv₀ : h.IsCell c ov) (hlow : ¬ Z c) (hv : h'.IsCell c (some v)) (hs : Heap.SameBut c h h') (r : Rep h X d v) (hk : env.kindOf x = some .cell) :
    Fok G Z X h' env (upd ρ x d) := by
  have g : Grow (fun b => b = c) h h' := .same hs rfl
  obtain ⟨oc, hoc, hdc⟩ := hv₀
  have rp : ∀ {d v}, Rep h X d v → Rep h' X d v := fun r => r.grow g (fun b s => .inr fun o ho => by subst s; rw [hoc] at ho; cases ho; exact .cell hdc) fun _ _ x => x
  obtain ⟨m, n, q⟩ := F.loc
  have n' := n
  obtain ⟨o, es, ep, ho, hd, _⟩ := n'
  have nl : ¬ env.locals = c := fun e => by rw [e, hoc] at ho; cases ho; rw [hdc] at hd; cases hd
  exact {
    g := W.grow (fun b => b = c) h h' (fun a e => by subst e; exact hlow) g F.g
    xs := fun a x => Classical.byCases (fun s : a = c => let ⟨o, e, _⟩ := hv; ⟨o, s ▸ e⟩) fun s => g.alive s (F.xs a x)
    low := F.low
    loc := ⟨m, g.ns nl n, fun y d' e k => by
      unfold upd at e
      by_cases z : y = x
      · subst z; rw [hk] at k; cases k
      · rw [if_neg z] at e
        obtain ⟨v', a, r'⟩ := q y d' e k
        exact ⟨v', a, rp r'⟩⟩
    cel := fun y d' e k => by
      unfold upd at e
      by_cases z : y = x
      · subst z
        rw [if_pos rfl] at e; cases e
        exact ⟨c, v, hc, hv, rp r⟩
      · rw [if_neg z] at e
        obtain ⟨c', v', a, i, r'⟩ := F.cel y d' e k
        have : ¬ c' = c := fun e => z (F.apart y x c (e ▸ a) hc)
        exact ⟨c', v', a, g.cell this i, rp r'⟩
    own := fun y k => by
      obtain ⟨c', v', a, i, l⟩ := F.own y k
      by_cases z : c' = c
      · subst z; exact ⟨c', _, a, hv, l⟩
      · exact ⟨c', v', a, g.cell z i, l⟩
    apart := F.apart }
/-- a tree evaluates over the frame -/
noncomputable def Tree (prog : Program) (w : World) (G : Heap → Prop) (Z : Addr → Prop) (k : Nat) (env : Env) (ρ : Rho) {α : Type} (t : Sem α) (S : Addr → Prop) (R : (Addr → Prop) → Heap → α → Prop) : Prop :=
  ∀ A, Bud k A → ∀ X h g dr tk o, Fok G Z X h env ρ → wpJ (model prog w) A t (Post g dr o S h (R X)) ⟨h, g, dr, tk, o⟩
noncomputable abbrev EvS (prog : Program) (w : World) (G : Heap → Prop) (Z : Addr → Prop) (k : Nat) (env : Env) (ρ : Rho) (e : Expr) (d : D) : Prop := Tree prog w G Z k env ρ (eval e env) no fun X h v => Rep h X d v
noncomputable abbrev TestS (prog : Program) (w : World) (G : Heap → Prop) (Z : Addr → Prop) (k : Nat) (env : Env) (ρ : Rho) (e : Expr) (b : Bool) : Prop := Tree prog w G Z k env ρ (isTrue e env (eval e env)) no fun _ _ r => r = b
inductive Fl where
  | next
  | ret (d : D)
noncomputable def Fl.Is (X : Addr → Prop) (h : Heap) : Fl → Flow → Prop
  | .next, f => f = .next
  | .ret d, f => ∃ v, f = .ret v ∧ Rep h X d v
noncomputable abbrev ExS (prog : Program) (w : World) (G : Heap → Prop) (Z : Addr → Prop) (k : Nat) (env : Env) (ρ : Rho) (st : Stmt) (f : Fl) (ρ' : Rho) : Prop := Tree prog w G Z k env ρ (exec st env) (Mut env) fun X h r => f.Is X h r ∧ Fok G Z X h env ρ'
noncomputable abbrev ExsS (prog : Program) (w : World) (G : Heap → Prop) (Z : Addr → Prop) (k : Nat) (env : Env) (ρ : Rho) (st : List Stmt) (f : Fl) (ρ' : Rho) : Prop := Tree prog w G Z k env ρ (execs st env) (Mut env) fun X h r => f.Is X h r ∧ Fok G Z X h env ρ'
section
variable {k : Nat} {env : Env} {ρ : Rho} {α : Type} {t : Sem α} {S : Addr → Prop} {R : (Addr → Prop) → Heap → α → Prop}
theorem Tree.use (H : Tree prog w G Z k env ρ t S R) {A : Around} (hA : Bud k A) {X h g dr tk o} (F : Fok G Z X h env ρ) {Q : α → Shared → Prop}
    (q : ∀ h' t' v, Grow S h h' → R X h' v → Q v ⟨h', g, dr, t', o⟩) : wpJ (model prog w) A t Q ⟨h, g, dr, tk, o⟩ :=
  wpJ_mono (H A hA X h g dr tk o F) fun v s' ⟨h', t', e, gr, r⟩ => e ▸ q h' t' v gr r
end
theorem ev_local {k env} {ρ : Rho} {x pos d} (e : ρ x = some d) (hl : env.kindOf x = some .local := by rfl) (hf : env.scope.kind = .function := by rfl) (hd : (x == ("__debug__" : Str)) = false := by decide) : EvS prog w G Z k env ρ (.Name x pos) d := by
  intro A hA X h g dr tk o F
  obtain ⟨m, n, q⟩ := F.loc
  obtain ⟨v, hv, r⟩ := q x d e hl
  exact wpJ.of <| wpAny_Name (wpAny_loadName_local hf hl n hv ⟨h, tk, rfl, .refl _ _, r⟩) hd
theorem ev_cell {k env} {ρ : Rho} {x pos d} (e : ρ x = some d) (hl : env.kindOf x = some .cell := by rfl) (hf : env.scope.kind = .function := by rfl) (hd : (x == ("__debug__" : Str)) = false := by decide) : EvS prog w G Z k env ρ (.Name x pos) d := by
  intro A hA X h g dr tk o F
  obtain ⟨c, v, hc, i, r⟩ := F.cel x d e (by rw [hl]; intro q; cases q)
  exact wpJ.of <| wpAny_Name (wpAny_loadName_cell hf hl hc i ⟨h, tk, rfl, .refl _ _, r⟩) hd
theorem ev_free {k env} {ρ : Rho} {x pos d} (e : ρ x = some d) (hl : env.kindOf x = some .free := by rfl) (hf : env.scope.kind = .function := by rfl) (hd : (x == ("__debug__" : Str)) = false := by decide) (hn : (x == ("__classdict__" : Str)) = false := by decide) : EvS prog w G Z k env ρ (.Name x pos) d := by
  intro A hA X h g dr tk o F
  obtain ⟨c, v, hc, i, r⟩ := F.cel x d e (by rw [hl]; intro q; cases q)
  exact wpJ.of <| wpAny_Name (wpAny_loadName_free hf hl hc i ⟨h, tk, rfl, .refl _ _, r⟩ hn) hd
/-- a global name, or a built-in one -/
noncomputable def GV (G : Heap → Prop) (x : Str) (v : Value) : Prop := ∀ h, G h → (∃ mg, h.Ns mainGlobals mg ∧ mg x = some v) ∨ ∃ mg mb, h.Ns mainGlobals mg ∧ mg x = none ∧ h.Ns builtinsNs mb ∧ mb x = some v
theorem ev_global {k env} {ρ : Rho} {x pos v} (e : GV G x v) (hl : env.kindOf x = some .globalImplicit := by rfl) (hf : env.scope.kind = .function := by rfl) (hg : env.globals = mainGlobals := by rfl) (hb : env.builtins = builtinsNs := by rfl) (hd : (x == ("__debug__" : Str)) = false := by decide) : EvS prog w G Z k env ρ (.Name x pos) (.val v) := by
  intro A hA X h g dr tk o F
  rcases e h F.g with ⟨mg, n, q⟩ | ⟨mg, mb, n, q, nb, qb⟩
  · exact wpJ.of <| Calls.Name_function_global hf hl (Calls.loadGlobal_global (env := env) (by rw [hg]; exact n) q ⟨h, tk, rfl, .refl _ _, rfl⟩) hd
  · exact wpJ.of <| Calls.Name_function_global hf hl (Calls.loadGlobal_builtin (env := env) (by rw [hg]; exact n) q (by rw [hb]; exact nb) qb ⟨h, tk, rfl, .refl _ _, rfl⟩) hd
theorem ev_int {k env} {ρ : Rho} {i c pos} : EvS prog w G Z k env ρ (.Constant (.int i) c pos) (.int i) := fun A hA X h g dr tk o F => wpJ.of <| wpAny_Constant_int ⟨h, tk + 1, rfl, .refl _ _, _, rfl⟩
theorem ev_bool {k env} {ρ : Rho} {i c pos} : EvS prog w G Z k env ρ (.Constant (.bool i) c pos) (.bool i) := fun A hA X h g dr tk o F => by
  rw [eval_Constant]; exact fun _ _ _ _ => ⟨h, tk, rfl, .refl _ _, rfl⟩
end Mine
end
noncomputable section
open PySem PySem.W PyProof.Rows
set_option Elab.async false
set_option linter.unusedVariables false
namespace Mine
variable {prog : Program} {w : World} {G : Heap → Prop} {Z : Addr → Prop}
/-- an operation upon two values -/
noncomputable def Op2 (prog : Program) (w : World) (G : Heap → Prop) (t : Value → Value → Sem Value) (d₁ d₂ d : D) : Prop :=
  ∀ A, Bud 4 A → ∀ X h g dr tk o v₁ v₂, G h → Alive X h → Rep h X d₁ v₁ → Rep h X d₂ v₂ → wpJ (model prog w) A (t v₁ v₂) (Post g dr o no h fun h' v => Rep h' X d v) ⟨h, g, dr, tk, o⟩
noncomputable abbrev BinS (prog : Program) (w : World) (G : Heap → Prop) (op : Operator) (d₁ d₂ d : D) : Prop := Op2 prog w G (binaryOp op) d₁ d₂ d
noncomputable abbrev CmpS (prog : Program) (w : World) (G : Heap → Prop) (op : CmpOp) (d₁ d₂ : D) (b : Bool) : Prop := Op2 prog w G (compareOp op) d₁ d₂ (.bool b)
theorem Op2.use {t : Value → Value → Sem Value} {d₁ d₂ d : D} (H : Op2 prog w G t d₁ d₂ d) {A : Around} (hA : Bud 4 A) {X h g dr tk o v₁ v₂} (hg : G h) (hx : Alive X h) (r₁ : Rep h X d₁ v₁) (r₂ : Rep h X d₂ v₂)
    {Q : Value → Shared → Prop} (q : ∀ h' t' v, Le h h' → Rep h' X d v → Q v ⟨h', g, dr, t', o⟩) : wpJ (model prog w) A (t v₁ v₂) Q ⟨h, g, dr, tk, o⟩ :=
  wpJ_mono (H A hA X h g dr tk o v₁ v₂ hg hx r₁ r₂) fun v s' ⟨h', t', e, gr, r⟩ => e ▸ q h' t' v gr r
section
variable {k : Nat} {env : Env} {ρ : Rho}
theorem ev_bin (W : Glob G Z) {l op r pos d₁ d₂ d} (h₁ : EvS prog w G Z k env ρ l d₁) (h₂ : EvS prog w G Z k env ρ r d₂) (hb : BinS prog w G op d₁ d₂ d) (hk : 4 ≤ k := by omega) : EvS prog w G Z k env ρ (.BinOp l op r pos) d := by
  intro A hA X h g dr tk o F
  refine jBinOp (h₁.use hA F fun h' t' v g₁ r₁ => h₂.use hA (F.le W g₁) fun h'' t'' v' g₂ r₂ => ?_)
  have F' := (F.le W g₁).le W g₂
  exact hb.use (hA.mono hk) F'.g F'.xs (r₁.le g₂) r₂ fun h3 t3 v3 g₃ r₃ => ⟨h3, t3, rfl, (g₁.trans g₂).trans g₃, r₃⟩
theorem ev_cmp (W : Glob G Z) {l op r pos d₁ d₂ b} (h₁ : EvS prog w G Z k env ρ l d₁) (h₂ : EvS prog w G Z k env ρ r d₂) (hb : CmpS prog w G op d₁ d₂ b) (hm : behindInMarks op r = false := by with_unfolding_all rfl) (hk : 4 ≤ k := by omega) : EvS prog w G Z k env ρ (.Compare l [op] [r] pos) (.bool b) := by
  intro A hA X h g dr tk o F
  refine jCompare (h₁.use hA F fun h' t' v g₁ r₁ => h₂.use hA (F.le W g₁) fun h'' t'' v' g₂ r₂ => ?_) hm
  have F' := (F.le W g₁).le W g₂
  exact hb.use (hA.mono hk) F'.g F'.xs (r₁.le g₂) r₂ fun h3 t3 v3 g₃ r₃ => ⟨h3, t3, rfl, (g₁.trans g₂).trans g₃, r₃⟩
theorem test_cmp (W : Glob G Z) {l op r pos d₁ d₂ b} (h₁ : EvS prog w G Z k env ρ l d₁) (h₂ : EvS prog w G Z k env ρ r d₂) (hb : CmpS prog w G op d₁ d₂ b) (hm : behindInMarks op r = false := by with_unfolding_all rfl) (hk : 4 ≤ k := by omega) : TestS prog w G Z k env ρ (.Compare l [op] [r] pos) b := by
  intro A hA X h g dr tk o F
  refine jTestCompare (h₁.use hA F fun h' t' v g₁ r₁ => h₂.use hA (F.le W g₁) fun h'' t'' v' g₂ r₂ => ?_) hm
  have F' := (F.le W g₁).le W g₂
  refine hb.use (hA.mono hk) F'.g F'.xs (r₁.le g₂) r₂ fun h3 t3 v3 g₃ r₃ => ?_
  cases r₃
  exact wpJ.of <| wpAny_truthy_bool ⟨h3, t3, rfl, (g₁.trans g₂).trans g₃, rfl⟩
theorem ev_ifexp (W : Glob G Z) {test body orelse pos b d} (h₁ : TestS prog w G Z k env ρ test b) (h₂ : b = true → EvS prog w G Z k env ρ body d) (h₃ : b = false → EvS prog w G Z k env ρ orelse d) : EvS prog w G Z k env ρ (.IfExp test body orelse pos) d := by
  intro A hA X h g dr tk o F
  refine jIfExp (h₁.use hA F fun h' t' v g₁ r₁ => ?_)
  subst r₁
  cases v with
  | true => rw [if_pos rfl]; exact (h₂ rfl).use hA (F.le W g₁) fun h3 t3 v3 g₃ r₃ => ⟨h3, t3, rfl, g₁.trans g₃, r₃⟩
  | false => rw [if_neg Bool.false_ne_true]; exact (h₃ rfl).use hA (F.le W g₁) fun h3 t3 v3 g₃ r₃ => ⟨h3, t3, rfl, g₁.trans g₃, r₃⟩
theorem ev_neg (W : Glob G Z) {e pos i} (h₁ : EvS prog w G Z k env ρ e (.int i)) : EvS prog w G Z k env ρ (.UnaryOp .USub e pos) (.int (-i)) := by
  intro A hA X h g dr tk o F
  refine jUnary (h₁.use hA F fun h' t' v g₁ r₁ => ?_)
  obtain ⟨t, rfl⟩ := r₁
  exact wpJ.of <| neg_int ⟨h', t' + 1, rfl, g₁, _, rfl⟩
/-- the truth of a bool, an int -/
theorem test_bool (W : Glob G Z) {e : Expr} {b : Bool} (h₁ : EvS prog w G Z k env ρ e (.bool b)) (he : ∀ whole, PySem.isTrue e env whole = (do let v ← whole; standAt e.pos; holding [v] (truthy v)) := by intro _; rfl) : TestS prog w G Z k env ρ e b := by
  intro A hA X h g dr tk o F
  refine jTestPlain (h₁.use hA F fun h' t' v g₁ r₁ => ?_) (he _)
  cases r₁
  exact wpJ.of <| wpAny_truthy_bool ⟨h', t', rfl, g₁, rfl⟩
/-- arguments, items -/
noncomputable abbrev EvsS (prog : Program) (w : World) (G : Heap → Prop) (Z : Addr → Prop) (k : Nat) (env : Env) (ρ : Rho) (es : List Expr) (ds : List D) : Prop := ∀ pos, Tree prog w G Z k env ρ (spliced (backTo pos (starEach es env))) no fun X h vs => Reps h X ds vs
theorem evs_nil : EvsS prog w G Z k env ρ [] [] := fun pos A hA X h g dr tk o F => wpJ.of <| args_nil ⟨h, tk, rfl, .refl _ _, rfl⟩
theorem evs_cons (W : Glob G Z) {e es d ds} (h₁ : EvS prog w G Z k env ρ e d) (h₂ : EvsS prog w G Z k env ρ es ds) (hs : starEach (e :: es) env = (false, eval e env) :: starEach es env := by rfl) : EvsS prog w G Z k env ρ (e :: es) (d :: ds) := by
  intro pos A hA X h g dr tk o F
  rw [hs]
  show wpJ _ _ (spliced ((false, eval e env) :: backTo pos (starEach es env))) _ _
  exact jSpliced_cons (h₁.use hA F fun h' t' v g₁ r₁ => (h₂ pos).use hA (F.le W g₁) fun h3 t3 vs g₃ r₃ => ⟨h3, t3, rfl, g₁.trans g₃, v, vs, rfl, r₁.le g₃, r₃⟩)
theorem rep_tup {X : Addr → Prop} {h : Heap} {ds : List D} {vs : List Value} (hx : Alive X h) (r : Reps h X ds vs) : Rep (h.push { cls := .type "tuple", data := .seq vs.toArray }) X (.tup ds) (.ref h.objs.size) :=
  ⟨_, vs, rfl, hx.new, ⟨_, Heap.get?_push_size _ rfl, rfl, _, rfl⟩, r.le (.push _ _)⟩
theorem rep_lst {X : Addr → Prop} {h : Heap} {ds : List D} {vs : List Value} (hx : Alive X h) (r : Reps h X ds vs) : Rep (h.push { cls := .type "list", data := .seq vs.toArray }) X (.lst ds) (.ref h.objs.size) :=
  ⟨_, vs, rfl, hx.new, ⟨_, Heap.get?_push_size _ rfl, rfl, _, rfl⟩, r.le (.push _ _)⟩
theorem fits_len {ds : List D} {vs : List Value} {X : Addr → Prop} {h : Heap} (r : Reps h X ds vs) (hz : Nat.ble ds.length 16777216 = true) : vs.toArray.size ≤ sizeLine := by
  rw [List.size_toArray, r.length]; exact Nat.le_of_ble_eq_true hz
theorem ev_tuple (W : Glob G Z) {es c pos ds} (h₁ : EvsS prog w G Z k env ρ es ds) (hz : Nat.ble ds.length 16777216 = true := by rfl) : EvS prog w G Z k env ρ (.Tuple es c pos) (.tup ds) := by
  intro A hA X h g dr tk o F
  refine jTuple ((h₁ pos).use hA F fun h' t' vs g₁ r₁ => ?_)
  exact wpJ.of <| wpAny_newObj_type ⟨_, _, rfl, g₁.trans (.push _ _), rep_tup (F.le W g₁).xs r₁⟩ (fits_len r₁ hz)
theorem ev_list (W : Glob G Z) {es pos ds} (h₁ : EvsS prog w G Z k env ρ es ds) (hz : Nat.ble ds.length 16777216 = true := by rfl) : EvS prog w G Z k env ρ (.List es pos) (.lst ds) := by
  intro A hA X h g dr tk o F
  refine jList ((h₁ pos).use hA F fun h' t' vs g₁ r₁ => ?_)
  exact wpJ.of <| wpAny_newObj_type ⟨_, _, rfl, g₁.trans (.push _ _), rep_lst (F.le W g₁).xs r₁⟩ (fits_len r₁ hz)
end
/-- a call -/
noncomputable def CallS (prog : Program) (w : World) (G : Heap → Prop) (k : Nat) (f : Value) (ds : List D) (d : D) : Prop :=
  ∀ A, Bud k A → ∀ X h g dr tk o vs, G h → Alive X h → Reps h X ds vs → wpJ (model prog w) A (call f vs) (Post g dr o no h fun h' v => Rep h' X d v) ⟨h, g, dr, tk, o⟩
theorem CallS.use {k : Nat} {f : Value} {ds : List D} {d : D} (H : CallS prog w G k f ds d) {A : Around} (hA : Bud k A) {X h g dr tk o vs} (hg : G h) (hx : Alive X h) (r : Reps h X ds vs)
    {Q : Value → Shared → Prop} (q : ∀ h' t' v, Le h h' → Rep h' X d v → Q v ⟨h', g, dr, t', o⟩) : wpJ (model prog w) A (call f vs) Q ⟨h, g, dr, tk, o⟩ :=
  wpJ_mono (H A hA X h g dr tk o vs hg hx r) fun v s' ⟨h', t', e, gr, r⟩ => e ▸ q h' t' v gr r
/-- what the interpreter looks at ahead of a call: a function of the text, a built-in one, a type -/
noncomputable def Callee (G : Heap → Prop) (f : Value) : Prop := (∃ id, f = .builtin id) ∨ (∃ T, f = .type T) ∨ ∃ a, f = .ref a ∧ ∀ h, G h → (∃ o, h.get? a = some o ∧ ((∃ fd, o.data = .func fd) ∨ ∃ c, o.data = .cls c ∧ o.cls = .type "type"))
section
variable {k : Nat} {env : Env} {ρ : Rho}
/-- the call of a name -/
theorem ev_call (W : Glob G Z) {x p args pos f ds d} {j : Nat} (h₁ : EvS prog w G Z k env ρ (.Name x p) (.val f)) (hc : Callee G f) (h₂ : EvsS prog w G Z k env ρ args ds) (h₃ : CallS prog w G j f ds d) (hj : j ≤ k := by omega) (hs : (starEach args env).any (·.1) = false := by rfl) (hn : Nat.ble (starEach args env).length 30 = true := by rfl) :
    EvS prog w G Z k env ρ (.Call (.Name x p) args [] pos) d := by
  intro A hA X h g dr tk o F
  refine jCall_Name (h₁.use hA F fun h' t' v g₁ r₁ => ?_)
  cases r₁
  refine jCallWith (back_plain hs) (by unfold backTo; rw [List.length_map]; exact Nat.le_of_ble_eq_true hn) ((h₂ pos).use hA (F.le W g₁) fun h'' t'' vs g₂ r₂ => ⟨?_, h₃.use (hA.mono hj) ((F.le W g₁).le W g₂).g ((F.le W g₁).le W g₂).xs r₂ fun h3 t3 v3 g₃ r₃ => ⟨h3, t3, rfl, (g₁.trans g₂).trans g₃, r₃⟩⟩)
  rcases hc with ⟨id, rfl⟩ | ⟨T, rfl⟩ | ⟨a, rfl, ha⟩
  · exact ⟨.machine, .inr rfl, fun q => wpAny_pure q⟩
  · exact ⟨.machine, .inr rfl, fun q => wpAny_pure q⟩
  · obtain ⟨o', ho, ⟨fd, hd⟩ | ⟨c, hd, hc⟩⟩ := ha h'' ((F.le W g₁).le W g₂).g
    · refine ⟨.frame, .inl rfl, fun q => ?_⟩
      unfold keeperOf
      refine wpAny_bind (wpAny_load ho ?_)
      rw [hd]
      exact wpAny_pure q
    · refine ⟨.machine, .inr rfl, fun q => ?_⟩
      unfold keeperOf
      refine wpAny_bind (wpAny_load ho ?_)
      rw [hd]
      exact wpAny_bind (wpAny_specialOf ⟨_, ho, hc⟩ PySem.F.lookup_type_call (wpAny_pure q))
end
/-! statements -/
section
variable {k : Nat} {env : Env} {ρ ρ' ρ'' : Rho}
theorem exs_nil : ExsS prog w G Z k env ρ [] .next ρ := fun A hA X h g dr tk o F => jExecs_nil ⟨h, tk, rfl, .refl _ _, rfl, F⟩
theorem exs_cons {st rest f} (h₁ : ExS prog w G Z k env ρ st .next ρ') (h₂ : ExsS prog w G Z k env ρ' rest f ρ'') : ExsS prog w G Z k env ρ (st :: rest) f ρ'' := by
  intro A hA X h g dr tk o F
  refine jExecs_cons (h₁.use hA F fun h' t' fl g₁ r₁ => ?_)
  obtain ⟨e, F'⟩ := r₁
  cases e
  exact h₂.use hA F' fun h3 t3 v3 g₃ r₃ => ⟨h3, t3, rfl, g₁.trans g₃, r₃⟩
theorem exs_ret {st rest d} (h₁ : ExS prog w G Z k env ρ st (.ret d) ρ') : ExsS prog w G Z k env ρ (st :: rest) (.ret d) ρ' := by
  intro A hA X h g dr tk o F
  refine jExecs_cons (h₁.use hA F fun h' t' fl g₁ r₁ => ?_)
  obtain ⟨⟨v, e, r⟩, F'⟩ := r₁
  cases e
  exact ⟨h', t', rfl, g₁, ⟨v, rfl, r⟩, F'⟩
theorem ex_return (W : Glob G Z) {e pos d} (h₁ : EvS prog w G Z k env ρ e d) : ExS prog w G Z k env ρ (.Return (some e) pos) (.ret d) ρ := by
  intro A hA X h g dr tk o F
  exact jReturn (h₁.use hA F fun h' t' v g₁ r₁ => ⟨h', t', rfl, .any g₁, ⟨v, rfl, r₁⟩, F.le W g₁⟩)
theorem ex_if (W : Glob G Z) {test body orelse pos b f} (h₁ : TestS prog w G Z k env ρ test b) (h₂ : b = true → ExsS prog w G Z k env ρ body f ρ') (h₃ : b = false → ExsS prog w G Z k env ρ orelse f ρ') : ExS prog w G Z k env ρ (.If test body orelse pos) f ρ' := by
  intro A hA X h g dr tk o F
  refine jIf (h₁.use hA F fun h' t' v g₁ r₁ => ?_)
  subst r₁
  cases v with
  | true => rw [if_pos rfl]; exact (h₂ rfl).use hA (F.le W g₁) fun h3 t3 v3 g₃ r₃ => ⟨h3, t3, rfl, (Grow.any g₁).trans g₃, r₃⟩
  | false => rw [if_neg Bool.false_ne_true]; exact (h₃ rfl).use hA (F.le W g₁) fun h3 t3 v3 g₃ r₃ => ⟨h3, t3, rfl, (Grow.any g₁).trans g₃, r₃⟩
/-- a name is stored -/
theorem store_S (W : Glob G Z) {x v d} (hl : env.kindOf x = some .local ∨ env.kindOf x = some .cell) (hf : env.scope.kind = .function) {A : Around} {X h g dr tk o} (F : Fok G Z X h env ρ) (r : Rep h X d v) {Q : Unit → Shared → Prop}
    (q : ∀ h' t', Grow (Mut env) h h' → Fok G Z X h' env (upd ρ x d) → Q () ⟨h', g, dr, t', o⟩) : wpJ (model prog w) A (storeName env x v) Q ⟨h, g, dr, tk, o⟩ := by
  rcases hl with hl | hl
  · obtain ⟨m, n, hm⟩ := F.loc
    exact wpJ.of <| wpAny_storeName_local hl n (fun h' hn hs => q h' _ (.same hs (.inl rfl)) (F.setLocal W hm hn hs r hl)) (by rw [hf]; rfl)
  · obtain ⟨c, ov, hc, hi, hlow⟩ := F.own x hl
    exact wpJ.of <| wpAny_storeName_cell hf hl hc hi fun h' hi' hs => q h' _ (.same hs (.inr ⟨x, hl, hc⟩)) (F.setCell W hc hi hlow hi' hs r hl)
theorem ex_assign (W : Glob G Z) {x p value pos d} (h₁ : EvS prog w G Z k env ρ value d) (hl : env.kindOf x = some .local ∨ env.kindOf x = some .cell := by first | exact .inl rfl | exact .inr rfl) (hf : env.scope.kind = .function := by rfl)
    (hs : swapsWith value (some (.Name x p)) pos.line env = pure false := by rfl) : ExS prog w G Z k env ρ (.Assign [.Name x p] value pos) .next (upd ρ x d) := by
  intro A hA X h g dr tk o F
  refine jAssign (h₁.use hA F fun h' t' v g₁ r₁ => ?_) hs
  exact store_S W hl hf (F.le W g₁) r₁ fun h3 t3 g₃ F₃ => ⟨h3, t3, rfl, (Grow.any g₁).trans g₃, rfl, F₃⟩
theorem ex_aug (W : Glob G Z) {x p op value pos d₀ d₁ d} (h₀ : ∀ pos, EvS prog w G Z k env ρ (.Name x pos) d₀) (h₁ : EvS prog w G Z k env ρ value d₁) (ho : Op2 prog w G (inplaceOp op) d₀ d₁ d) (hl : env.kindOf x = some .local ∨ env.kindOf x = some .cell := by first | exact .inl rfl | exact .inr rfl) (hf : env.scope.kind = .function := by rfl) (hk : 4 ≤ k := by omega)
    (hd : (x == ("__debug__" : Str)) = false := by decide) : ExS prog w G Z k env ρ (.AugAssign (.Name x p) op value pos) .next (upd ρ x d) := by
  intro A hA X h g dr tk o F
  refine jAug ?_
  have q' : wpJ (model prog w) A (loadName env x) (Post g dr o no h fun h' v => Rep h' X d₀ v) ⟨h, g, dr, tk, o⟩ := by
    intro Γ p' hΓ j
    have q := h₀ p' A hA X h g dr tk o F
    rw [eval_Name env x p' hd] at q
    have q2 := q Γ p' hΓ j
    simp only [Sem.wp_bind', Sem.wp_cmd_standAt] at q2
    exact q2
  refine wpJ_mono q' fun v s' hv => ?_
  obtain ⟨h', t', rfl, g₁, r₁⟩ := hv
  refine h₁.use hA (F.le W g₁) fun h2 t2 v2 g₂ r₂ => ?_
  have F' := (F.le W g₁).le W g₂
  refine ho.use (hA.mono hk) F'.g F'.xs (r₁.le g₂) r₂ fun h3 t3 v3 g₃ r₃ => ?_
  exact store_S W hl hf (F'.le W g₃) r₃ fun h4 t4 g₄ F₄ => ⟨h4, t4, rfl, (Grow.any ((g₁.trans g₂).trans g₃)).trans g₄, rfl, F₄⟩
end
/-! ints -/
section
variable {a b : Int}
theorem bin_add : BinS prog w G .Add (.int a) (.int b) (.int (a + b)) := by
  rintro A hA X h g dr tk o _ _ hg hx ⟨t, rfl⟩ ⟨u, rfl⟩; exact wpJ.of <| add_int ⟨h, tk + 1, rfl, .refl _ _, _, rfl⟩
theorem bin_sub : BinS prog w G .Sub (.int a) (.int b) (.int (a - b)) := by
  rintro A hA X h g dr tk o _ _ hg hx ⟨t, rfl⟩ ⟨u, rfl⟩; exact wpJ.of <| sub_int ⟨h, tk + 1, rfl, .refl _ _, _, rfl⟩
theorem bin_mod (hb : b ≠ 0) : BinS prog w G .Mod (.int a) (.int b) (.int (a.fmod b)) := by
  rintro A hA X h g dr tk o _ _ hg hx ⟨t, rfl⟩ ⟨u, rfl⟩; exact wpJ.of <| mod_int' hb ⟨h, tk + 1, rfl, .refl _ _, _, rfl⟩
theorem bin_div (hb : b ≠ 0) (hl : b.natAbs.log2 < 9000) : BinS prog w G .FloorDiv (.int a) (.int b) (.int (a.fdiv b)) := by
  rintro A hA X h g dr tk o _ _ hg hx ⟨t, rfl⟩ ⟨u, rfl⟩; exact wpJ.of <| floordiv_int hb ⟨h, tk + 1, rfl, .refl _ _, _, rfl⟩ (.inl (PyProof.noPylong_of_log2 hl))
theorem inp_add : Op2 prog w G (inplaceOp .Add) (.int a) (.int b) (.int (a + b)) := by
  rintro A hA X h g dr tk o _ _ hg hx ⟨t, rfl⟩ ⟨u, rfl⟩; exact wpJ.of <| iadd_int ⟨h, tk + 1, rfl, .refl _ _, _, rfl⟩
theorem cmp_lt : CmpS prog w G .Lt (.int a) (.int b) (decide (a < b)) := by
  rintro A hA X h g dr tk o _ _ hg hx ⟨t, rfl⟩ ⟨u, rfl⟩; exact wpJ.of <| lt_int ⟨h, tk, rfl, .refl _ _, rfl⟩
theorem cmp_le : CmpS prog w G .LtE (.int a) (.int b) (decide (a ≤ b)) := by
  rintro A hA X h g dr tk o _ _ hg hx ⟨t, rfl⟩ ⟨u, rfl⟩; exact wpJ.of <| le_int ⟨h, tk, rfl, .refl _ _, rfl⟩
theorem cmp_gt : CmpS prog w G .Gt (.int a) (.int b) (decide (b < a)) := by
  rintro A hA X h g dr tk o _ _ hg hx ⟨t, rfl⟩ ⟨u, rfl⟩; exact wpJ.of <| gt_int ⟨h, tk, rfl, .refl _ _, rfl⟩
theorem cmp_ge : CmpS prog w G .GtE (.int a) (.int b) (decide (b ≤ a)) := by
  rintro A hA X h g dr tk o _ _ hg hx ⟨t, rfl⟩ ⟨u, rfl⟩; exact wpJ.of <| ge_int ⟨h, tk, rfl, .refl _ _, rfl⟩
theorem cmp_eq : CmpS prog w G .Eq (.int a) (.int b) (a == b) := by
  rintro A hA X h g dr tk o _ _ hg hx ⟨t, rfl⟩ ⟨u, rfl⟩; exact wpJ.of <| eq_int ⟨h, tk, rfl, .refl _ _, rfl⟩
theorem cmp_ne : CmpS prog w G .NotEq (.int a) (.int b) (a != b) := by
  rintro A hA X h g dr tk o _ _ hg hx ⟨t, rfl⟩ ⟨u, rfl⟩; exact wpJ.of <| ne_int ⟨h, tk, rfl, .refl _ _, rfl⟩
end
end Mine
end
noncomputable section
open PySem PySem.W PyProof.Rows
set_option Elab.async false
set_option linter.unusedVariables false
namespace Mine
variable {prog : Program} {w : World} {G : Heap → Prop} {Z : Addr → Prop}
noncomputable def bindR : List Str → List D → Rho → Rho
  | x :: xs, d :: ds, ρ => bindR xs ds (upd ρ x d)
  | _, _, ρ => ρ
theorem cellsFrom_mono (ns : List (Str × NameKind)) : ∀ (n : Nat) (acc : List (Str × Addr)) (x : Str), (acc.lookup x).isSome = true → ((cellsFrom n ns acc).lookup x).isSome = true := by
  induction ns with
  | nil => intro n acc x h; exact h
  | cons p r ih =>
    obtain ⟨y, kd⟩ := p
    intro n acc x h
    unfold cellsFrom
    split
    · apply ih
      rw [List.lookup_cons]
      split
      · rfl
      · exact h
    · exact ih n acc x h
theorem cellsFrom_has (ns : List (Str × NameKind)) : ∀ (n : Nat) (acc : List (Str × Addr)) (x : Str), ns.lookup x = some .cell → ((cellsFrom n ns acc).lookup x).isSome = true := by
  induction ns with
  | nil => intro n acc x h; cases h
  | cons p r ih =>
    obtain ⟨y, kd⟩ := p
    intro n acc x h
    rw [List.lookup_cons] at h
    unfold cellsFrom
    cases hb : x == y with
    | true =>
      rw [hb] at h
      cases h
      rw [if_pos (by decide)]
      exact cellsFrom_mono r _ _ x (by rw [List.lookup_cons, hb]; rfl)
    | false =>
      rw [hb] at h
      split
      · exact ih _ _ x h
      · exact ih _ _ x h
/-- the parameters as they are bound -/
theorem bind_rel {h : Heap} {X : Addr → Prop} {kd : Str → Option NameKind} : ∀ (xs : List Str) (ds : List D) (vs : List Value), Reps h X ds vs → ∀ (m cm : Str → Option Value) (ρ : Rho),
    (∀ x d, ρ x = some d → (kd x = some .local → ∃ v, m x = some v ∧ Rep h X d v) ∧ (kd x ≠ some .local → ∃ v, cm x = some v ∧ Rep h X d v)) →
    ∀ x d, bindR xs ds ρ x = some d → (kd x = some .local → ∃ v, bindL kd (xs.zip vs) m x = some v ∧ Rep h X d v) ∧ (kd x ≠ some .local → ∃ v, bindC kd (xs.zip vs) cm x = some v ∧ Rep h X d v)
  | [], _, _, _, m, cm, ρ, q => by intro x d e; simp only [bindR] at e; simpa [bindL, bindC] using q x d e
  | _ :: _, [], vs, r, m, cm, ρ, q => by
    cases r
    intro x d e; simp only [bindR] at e; simpa [bindL, bindC] using q x d e
  | y :: xs, d₀ :: ds, _, ⟨v₀, vs, rfl, r₀, rs⟩, m, cm, ρ, q => by
    simp only [bindR, List.zip_cons_cons, bindL, bindC]
    apply bind_rel xs ds vs rs
    intro x d e
    unfold upd at e
    by_cases hx : x = y
    · rw [if_pos hx] at e; cases e
      subst hx
      refine ⟨fun k => ?_, fun k => ?_⟩
      · rw [if_pos k]; exact ⟨v₀, if_pos rfl, r₀⟩
      · rw [if_neg k]; exact ⟨v₀, if_pos rfl, r₀⟩
    · rw [if_neg hx] at e
      obtain ⟨q1, q2⟩ := q x d e
      refine ⟨fun k => ?_, fun k => ?_⟩
      · obtain ⟨v, a, b⟩ := q1 k
        split
        · exact ⟨v, by simp [hx, a], b⟩
        · exact ⟨v, a, b⟩
      · obtain ⟨v, a, b⟩ := q2 k
        split
        · exact ⟨v, a, b⟩
        · exact ⟨v, by simp [hx, a], b⟩
theorem bindR_dom : ∀ (xs : List Str) (ds : List D) (ρ : Rho) (x : Str) (d : D), bindR xs ds ρ x = some d → x ∈ xs ∨ ∃ d', ρ x = some d'
  | [], _, ρ, x, d, e => .inr ⟨d, by simpa [bindR] using e⟩
  | _ :: _, [], ρ, x, d, e => .inr ⟨d, by simpa [bindR] using e⟩
  | y :: xs, d₀ :: ds, ρ, x, d, e => by
    simp only [bindR] at e
    rcases bindR_dom xs ds _ x d e with h | ⟨d', h⟩
    · exact .inl (.tail _ h)
    · unfold upd at h
      by_cases hx : x = y
      · exact .inl (hx ▸ .head _)
      · rw [if_neg hx] at h; exact .inr ⟨d', h⟩
/-- a def of the text, no closure, positional arguments: what its body does is what its call does -/
theorem call_fn (W : Glob G Z) {a : Addr} {fd : FuncData} {body : List Stmt} {names : List Str} {ds : List D} {d : D} {ρ' : Rho} {k : Nat}
    (hG : ∀ h, G h → ∃ o, h.get? a = some o ∧ o.data = .func fd ∧ h.CodeRec fd.code fd.qualname)
    (hbody : fd.body = .stmts body) (hclo : fd.closure = [])
    (hbind : ∀ vs : List Value, vs.length = ds.length → bindArgs fd ⟨vs, []⟩ = pure (names.zip vs))
    (hloc : ∀ x ∈ names, fd.scope.names.lookup x = some .local ∨ fd.scope.names.lookup x = some .cell)
    (H : ∀ L, ¬ Z L → ExsS prog w G Z k (callEnvC fd L a) (bindR names ds nil) body (.ret d) ρ')
    (hco : fd.scope.isCoroutine = false := by rfl) (hgen : fd.scope.isGenerator = false := by rfl) (hk : fd.scope.kind = .function := by rfl) : CallS prog w G (k + 1) (.ref a) ds d := by
  intro A hA X h g dr tk o vs hg hx r
  obtain ⟨ob, ho, hd, hcr⟩ := hG h hg
  refine wpJ_call (codeJ_call_cells (binds := names.zip vs) (hA.lt) ho hd (W.lim h hg) hcr hbody (hbind vs r.length) hclo ?_ ?_ hco hgen hk)
  · intro x hm
    have hm1 : x.1 ∈ names := (List.of_mem_zip hm).1
    rcases hloc x.1 hm1 with q | q
    · exact .inl q
    · exact .inr ⟨q, cellsFrom_has _ _ _ _ q⟩
  · intro s₁ x
    generalize hE : callEnvC fd h.objs.size a = env at x
    have henvL : env.locals = h.objs.size := by rw [← hE]; rfl
    have henvS : env.scope = fd.scope := by rw [← hE]; rfl
    have henvC : env.cells = cellsFrom (h.objs.size + 1) fd.scope.names [] := by rw [← hE]; rfl
    obtain ⟨h₁, tk₁, hs₁⟩ := x.toInCall.same
    subst hs₁
    have gr : Le h h₁ := .keeps x.toInCall.keep
    have kk : ∀ y, env.kindOf y = fd.scope.names.lookup y := fun y => by show env.scope.names.lookup y = _; rw [henvS]
    have F : Fok G Z X h₁ env (bindR names ds nil) := by
      have rel := bind_rel (h := h₁) (X := X) (kd := env.kindOf) names ds vs (r.le gr) (fun _ => none) (fun _ => none) nil (fun _ _ e => nomatch e)
      refine ⟨W.grow no h h₁ (fun _ x => x.elim) gr hg, hx.le gr, by rw [henvL]; exact W.fresh h hg _ (Nat.le_refl _), ⟨_, x.toInCall.ns, fun y d' e k' => (rel y d' e).1 k'⟩, fun y d' e k' => ?_, fun y k' => ?_, fun y z c e1 e2 => name_of_addr x.apart (mem_of_lookup e1) (mem_of_lookup e2)⟩
      · obtain ⟨v, e1, r1⟩ := (rel y d' e).2 k'
        have hc : fd.scope.names.lookup y = some .cell := by
          rcases bindR_dom names ds nil y d' e with m | ⟨_, m⟩
          · rcases hloc y m with q | q
            · exact absurd ((kk y).trans q) k'
            · exact q
          · cases m
        have := cellsFrom_has fd.scope.names (h.objs.size + 1) [] y hc
        rw [← henvC] at this
        obtain ⟨c, hc'⟩ := Option.isSome_iff_exists.mp this
        exact ⟨c, v, hc', e1 ▸ x.cell y c hc', r1⟩
      · have hc : fd.scope.names.lookup y = some .cell := (kk y).symm.trans k'
        have := cellsFrom_has fd.scope.names (h.objs.size + 1) [] y hc
        rw [← henvC] at this
        obtain ⟨c, hc'⟩ := Option.isSome_iff_exists.mp this
        refine ⟨c, _, hc', x.cell y c hc', ?_⟩
        have q1 : h.objs.size < c := henvL ▸ x.above y c (mem_of_lookup hc')
        exact W.fresh h hg _ (Nat.le_of_lt q1)
    subst hE
    refine wpJ_mono (H h.objs.size (W.fresh h hg _ (Nat.le_refl _)) (A.deeper _) hA.deeper X h₁ g dr tk₁ o F) fun f s' hf => ?_
    obtain ⟨h', t', rfl, gm, ⟨v, rfl, rv⟩, F'⟩ := hf
    refine ⟨v, rfl, h', t', rfl, ⟨fun b ob' _ e => ?_⟩, rv⟩
    have hlt := Heap.lt_size e
    refine gm.old b ob' (fun mt => ?_) (gr.old b ob' (fun x => x) e)
    rcases mt with q | ⟨y, hk1, hk2⟩
    · rw [q, henvL] at hlt; exact Nat.lt_irrefl _ hlt
    · have q1 : h.objs.size < b := henvL ▸ x.above y b (mem_of_lookup hk2)
      exact Nat.lt_irrefl _ (Nat.lt_trans hlt q1)
end Mine
end
noncomputable section
open PySem PySem.W PyProof.Rows
set_option Elab.async false
set_option linter.unusedVariables false
namespace Mine
variable {prog : Program} {w : World} {G : Heap → Prop} {Z : Addr → Prop}
noncomputable def rangeL (a b c : Int) : List D := (List.range (Builtin.Range.rangeSize a b c).toNat).map fun (i : Nat) => .int (a + (i : Int) * c)
/-- what a loop takes of a datum -/
noncomputable def items : D → List D
  | .lst l => l
  | .bytes b => b.map fun c => .int (c.toNat : Int)
  | .range a b c => rangeL a b c
  | _ => []
theorem items_lst (l : List D) : items (.lst l) = l := rfl
theorem items_bytes (b : List UInt8) : items (.bytes b) = b.map fun c => .int (c.toNat : Int) := rfl
theorem items_range (a b c : Int) : items (.range a b c) = rangeL a b c := rfl
/-- what can be iterated -/
noncomputable def CanIter : D → Prop
  | .lst _ => True
  | .bytes _ => True
  | .range a b c => Builtin.Range.small a b c = true ∧ 0 ≤ Builtin.Range.rangeSize a b c
  | _ => False
theorem walks_range {A : Around} {I : Addr} (hh : A.handled = none) (a c : Int) (n : Nat) :
    Walks prog w A I [I] [I] n (fun i v => i < n ∧ ∃ t, v = .int (a + (i : Int) * c) t) (fun i h => IsRangeIter h I (a + (i : Int) * c) ((n : Int) - (i : Int)) c) := (Walks.range hh I a c n).bound
/-- an iterator has been made: what the loop lives on -/
structure Started (prog : Program) (w : World) (A : Around) (X : Addr → Prop) (h : Heap) (d : D) (fp : List Addr) (P : Nat → Value → Prop) (St : Nat → Heap → Prop) : Prop where
  walks : Walks prog w A h.objs.size fp [h.objs.size] (items d).length P St
  item : ∀ i v, P i v → ∃ e, (items d)[i]? = some e ∧ Rep h X e v
  feet : ∀ b ∈ fp, b = h.objs.size ∨ ((∃ o, h.get? b = some o ∧ ∃ xs n, o.data = .seq xs n) ∧ ¬ X b)
  named : ∀ i H, St i H → ∀ b ∈ fp, ∀ o, H.get? b = some o → o.cls ≠ .none
  bare : ∀ i H, St i H → ∃ o, H.get? h.objs.size = some o ∧ Bare o ∧ (∀ xs n, o.data ≠ .dict xs n) ∧ ∀ v, o.data ≠ .cell v
theorem start_iter {A : Around} (hh : A.handled = none) {X h g dr tk o d v} (hc : CanIter d) (r : Rep h X d v) {Q : Value → Shared → Prop} {E : Value → Shared → Prop}
    (q : ∀ fp P St ob, Started prog w A X h d fp P St → St 0 (h.push ob) → Q (.ref h.objs.size) ⟨h.push ob, g, dr, tk, o⟩) : wpAny (model prog w) A (pyIter v) Q E ⟨h, g, dr, tk, o⟩ := by
  cases d with
  | lst l =>
    obtain ⟨a, vs, rfl, hx, hl, rs⟩ := r
    refine wpAny_pyIter_list (s := ⟨h, g, dr, tk, o⟩) hl ?_
    have hne : a ≠ h.objs.size := Nat.ne_of_lt (let ⟨_, e, _⟩ := hl; Heap.lt_size e)
    refine q [h.objs.size, a] (fun i v => vs.toArray[i]? = some v) (fun i h' => h'.IsListIter h.objs.size a i ∧ h'.IsList a vs.toArray) _ ⟨by rw [show (items (.lst l)).length = vs.toArray.size by simp [items_lst, rs.length]]; exact Walks.list hh h.objs.size a hne vs.toArray, fun i v e => ?_, fun b hb => ?_, fun i H st b hb ob e => ?_, fun i H st => ?_⟩ ⟨⟨_, Heap.get?_push_size _ rfl, rfl, rfl⟩, hl.push _⟩
    · have e' : vs[i]? = some v := by simpa using e
      have hi : i < l.length := by rw [← rs.length]; exact (List.getElem?_eq_some_iff.mp e').1
      obtain ⟨v', e1, r1⟩ := rs.get (i := i) (d := l[i]) (by simp [hi])
      rw [e'] at e1; cases e1
      exact ⟨l[i], by simp [items_lst, hi], r1⟩
    · simp at hb
      rcases hb with rfl | rfl
      · exact .inl rfl
      · obtain ⟨ob, ho, _, n, hd⟩ := hl
        exact .inr ⟨⟨ob, ho, _, n, hd⟩, hx⟩
    · simp at hb
      rcases hb with rfl | rfl
      · obtain ⟨⟨o1, h1, h2, _⟩, _⟩ := st
        rw [h1] at e; cases e; rw [h2]; exact fun q => nomatch q
      · obtain ⟨_, ⟨o1, h1, h2, _⟩⟩ := st
        rw [h1] at e; cases e; rw [h2]; exact fun q => nomatch q
    · obtain ⟨⟨o1, h1, h2, h3⟩, _⟩ := st
      exact ⟨o1, h1, .fields h3 (by rw [h2]; decide), by simp [h3], by simp [h3]⟩
  | bytes b =>
    obtain ⟨t, rfl⟩ := r
    refine KBw.pyIter_bytes (s := ⟨h, g, dr, tk, o⟩) ?_
    refine q [h.objs.size] (fun i v => ∃ c u, b.toArray[i]? = some c ∧ v = .int (c.toNat : Int) u) (fun i h' => KBw.IsBytesIter h' h.objs.size b.toArray t i) _ ⟨by rw [show (items (.bytes b)).length = b.toArray.size by simp [items_bytes]]; exact KBw.walks hh h.objs.size b.toArray t, fun i v e => ?_, fun c hb => ?_, fun i H st c hb ob e => ?_, fun i H st => ?_⟩ ⟨_, Heap.get?_push_size _ rfl, rfl, rfl⟩
    · obtain ⟨c, u, e1, rfl⟩ := e
      exact ⟨.int (c.toNat : Int), by simp at e1; simp [items_bytes, e1], u, rfl⟩
    · simp at hb; exact .inl hb
    · simp at hb; subst hb
      obtain ⟨o1, h1, h2, _⟩ := st
      rw [h1] at e; cases e; rw [h2]; exact fun q => nomatch q
    · obtain ⟨o1, h1, h2, h3⟩ := st
      exact ⟨o1, h1, .fields h3 (by rw [h2]; decide), by simp [h3], by simp [h3]⟩
  | range a b c =>
    obtain ⟨r, t, u, z, rfl, hx, hr⟩ := r
    obtain ⟨hs, hn⟩ := hc
    refine wpAny_pyIter_range (s := ⟨h, g, dr, tk, o⟩) hr hs ?_
    refine q [h.objs.size] (fun i v => i < (Builtin.Range.rangeSize a b c).toNat ∧ ∃ t, v = .int (a + (i : Int) * c) t) (fun i H => IsRangeIter H h.objs.size (a + (i : Int) * c) (((Builtin.Range.rangeSize a b c).toNat : Int) - (i : Int)) c) _ ⟨by rw [show (items (.range a b c)).length = (Builtin.Range.rangeSize a b c).toNat by simp [items_range, rangeL]]; exact walks_range hh a c _, fun i v e => ?_, fun c hb => ?_, fun i H st c hb ob e => ?_, fun i H st => ?_⟩ ?_
    · obtain ⟨hi, t, rfl⟩ := e
      exact ⟨.int (a + (i : Int) * c), by simp [items_range, rangeL, hi], t, rfl⟩
    · simp at hb; exact .inl hb
    · simp at hb; subst hb
      rw [show H.get? h.objs.size = _ from st] at e; cases e; exact fun q => nomatch q
    · exact ⟨_, st, .fields rfl (fun q => by simp at q), by simp, by simp⟩
    · show IsRangeIter _ _ _ _ _
      unfold IsRangeIter
      simp only [Int.toNat_of_nonneg hn, Int.natCast_zero, Int.zero_mul, Int.add_zero, Int.sub_zero]
      exact Heap.get?_push_size _ rfl
  | _ => exact hc.elim
end Mine
end
noncomputable section
open PySem PySem.W PyProof.Rows
set_option Elab.async false
set_option linter.unusedVariables false
namespace Mine
variable {prog : Program} {w : World} {G : Heap → Prop} {Z : Addr → Prop}
/-- a statement that may also turn the objects of O; P says what they hold -/
noncomputable def TrO (prog : Program) (w : World) (G : Heap → Prop) (Z : Addr → Prop) (k : Nat) (env : Env) (O : Addr → Prop) (P : Heap → Prop) (ρ : Rho) (t : Sem Flow) (f : Fl) (ρ' : Rho) (P' : Heap → Prop) : Prop :=
  ∀ A, Bud k A → ∀ X h g dr tk o, (∀ b, O b → X b ∧ ¬ Mut env b) → Fok G Z X h env ρ → P h →
    wpJ (model prog w) A t (Post g dr o (fun b => Mut env b ∨ O b) h fun h' r => f.Is X h' r ∧ Fok G Z X h' env ρ' ∧ P' h') ⟨h, g, dr, tk, o⟩
noncomputable abbrev ExO (prog : Program) (w : World) (G : Heap → Prop) (Z : Addr → Prop) (k : Nat) (env : Env) (O : Addr → Prop) (P : Heap → Prop) (ρ : Rho) (st : Stmt) (f : Fl) (ρ' : Rho) (P' : Heap → Prop) : Prop := TrO prog w G Z k env O P ρ (exec st env) f ρ' P'
noncomputable abbrev ExsO (prog : Program) (w : World) (G : Heap → Prop) (Z : Addr → Prop) (k : Nat) (env : Env) (O : Addr → Prop) (P : Heap → Prop) (ρ : Rho) (st : List Stmt) (f : Fl) (ρ' : Rho) (P' : Heap → Prop) : Prop := TrO prog w G Z k env O P ρ (execs st env) f ρ' P'
noncomputable def Stab (O : Addr → Prop) (P : Heap → Prop) : Prop := ∀ S h h', Grow S h h' → (∀ b, S b → ¬ O b) → P h → P h'
section
variable {k : Nat} {env : Env} {ρ ρ' ρ'' : Rho} {O : Addr → Prop} {P P' P'' : Heap → Prop}
theorem TrO.use {t : Sem Flow} {f : Fl} (H : TrO prog w G Z k env O P ρ t f ρ' P') {A : Around} (hA : Bud k A) {X h g dr tk o} (hO : ∀ b, O b → X b ∧ ¬ Mut env b) (F : Fok G Z X h env ρ) (hP : P h) {Q : Flow → Shared → Prop}
    (q : ∀ h' t' r, Grow (fun b => Mut env b ∨ O b) h h' → f.Is X h' r → Fok G Z X h' env ρ' → P' h' → Q r ⟨h', g, dr, t', o⟩) : wpJ (model prog w) A t Q ⟨h, g, dr, tk, o⟩ :=
  wpJ_mono (H A hA X h g dr tk o hO F hP) fun v s' ⟨h', t', e, gr, r1, r2, r3⟩ => e ▸ q h' t' v gr r1 r2 r3
/-- what touches nothing of O -/
theorem TrO.of {t : Sem Flow} {f : Fl} (hs : Stab O P) (H : Tree prog w G Z k env ρ t (Mut env) fun X h r => f.Is X h r ∧ Fok G Z X h env ρ') : TrO prog w G Z k env O P ρ t f ρ' P := by
  intro A hA X h g dr tk o hO F hP
  exact H.use hA F fun h' t' v gr r => ⟨h', t', rfl, gr.mono fun _ => .inl, r.1, r.2, hs _ _ _ gr (fun b m q => (hO b q).2 m) hP⟩
/-- with nothing to turn -/
theorem TrO.plain {t : Sem Flow} {f : Fl} (H : TrO prog w G Z k env no (fun _ => True) ρ t f ρ' fun _ => True) : Tree prog w G Z k env ρ t (Mut env) fun X h r => f.Is X h r ∧ Fok G Z X h env ρ' := by
  intro A hA X h g dr tk o F
  exact H.use hA (fun _ q => q.elim) F trivial fun h' t' v gr r1 r2 _ => ⟨h', t', rfl, gr.mono fun _ q => q.elim id False.elim, r1, r2⟩
theorem exsO_nil : ExsO prog w G Z k env O P ρ [] .next ρ P := fun A hA X h g dr tk o hO F hP => jExecs_nil ⟨h, tk, rfl, .refl _ _, rfl, F, hP⟩
theorem exsO_cons {st rest f} (h₁ : ExO prog w G Z k env O P ρ st .next ρ' P') (h₂ : ExsO prog w G Z k env O P' ρ' rest f ρ'' P'') : ExsO prog w G Z k env O P ρ (st :: rest) f ρ'' P'' := by
  intro A hA X h g dr tk o hO F hP
  refine jExecs_cons (h₁.use hA hO F hP fun h' t' fl g₁ e F' hP' => ?_)
  cases e
  exact h₂.use hA hO F' hP' fun h3 t3 v3 g₃ r₃ F₃ P₃ => ⟨h3, t3, rfl, g₁.trans g₃, r₃, F₃, P₃⟩
/-- for: what holds after each turn -/
theorem ex_forO (W : Glob G Z) {Ps : Nat → Heap → Prop} {ρs : Nat → Rho} {x : Str} {p : Pos} {iter : Expr} {body : List Stmt} {pos : Pos} {d : D}
    (h₁ : EvS prog w G Z k env (ρs 0) iter d) (hc : CanIter d) (hst : ∀ i, Stab O (Ps i))
    (hb : ∀ i e, (items d)[i]? = some e → ExsO prog w G Z k env O (Ps i) (upd (ρs i) x e) body .next (ρs (i + 1)) (Ps (i + 1)))
    (hl : env.kindOf x = some .local ∨ env.kindOf x = some .cell := by first | exact .inl rfl | exact .inr rfl) (hf : env.scope.kind = .function := by rfl)
    (hs : ∀ v, foldedSetIterable iter env v = pure v := by intro _; rfl) :
    ExO prog w G Z k env O (Ps 0) (ρs 0) (.For (.Name x p) iter body [] pos) .next (ρs (items d).length) (Ps (items d).length) := by
  intro A hA X h g dr tk o hO F hP
  refine jFor (h₁.use hA F fun h1 t1 v g1 r1 => ?_) hs
  have F1 := F.le W g1
  have hP1 : Ps 0 h1 := hst 0 no h h1 g1 (fun _ q => q.elim) hP
  refine wpJ.of <| start_iter hA.handled hc r1 fun fp P' St ob T st => ?_
  have nI : ¬ ∃ o, h1.get? h1.objs.size = some o := fun ⟨_, e⟩ => Nat.lt_irrefl _ (Heap.lt_size e)
  have mI : ¬ Mut env h1.objs.size := fun m => let ⟨o', e, _⟩ := Mut.kind F1 m; nI ⟨o', e⟩
  have xI : ¬ X h1.objs.size := fun q => nI (F1.xs _ q)
  have oI : ¬ O h1.objs.size := fun q => xI (hO _ q).1
  have lowI : ¬ Z h1.objs.size := W.fresh h1 F1.g _ (Nat.le_refl _)
  have ft : ∀ b ∈ fp, ¬ (Mut env b ∨ O b) := fun b hb q => by
    rcases T.feet b hb with rfl | ⟨⟨o', e, xs, n, hd⟩, hx⟩
    · exact q.elim mI oI
    · rcases q with q | q
      · obtain ⟨o2, e2, k2⟩ := Mut.kind F1 q
        rw [e] at e2; cases e2
        rcases k2 with ⟨_, _, k2⟩ | ⟨_, k2⟩ <;> (rw [hd] at k2; cases k2)
      · exact hx (hO b q).1
  refine codeJ_forLoop (fun n s => ∃ i H tk', i ≤ (items d).length ∧ n = (items d).length - i ∧ s = ⟨H, g, dr, tk', o⟩ ∧ St i H ∧ Fok G Z X H env (ρs i) ∧ Ps i H ∧ Grow (fun b => (Mut env b ∨ O b) ∨ b = h1.objs.size) h1 H) ?_ (items d).length
    ⟨0, _, _, Nat.zero_le _, rfl, rfl, st, F1.le W (.push _ _), hst 0 no h1 _ (.push _ _) (fun _ q => q.elim) hP1, .push _ _⟩
  rintro n s ⟨i, H, tk', hi, rfl, rfl, stH, FH, hPH, gH⟩
  have step : ∀ H1, (∀ b o, b ∉ [h1.objs.size] → H.get? b = some o → H1.get? b = some o) → Fok G Z X H1 env (ρs i) ∧ Ps i H1 ∧ Grow (fun b => (Mut env b ∨ O b) ∨ b = h1.objs.size) h1 H1 := fun H1 kp => by
    have gI : Grow (fun b => b = h1.objs.size) H H1 := ⟨fun b o' nb e => kp b o' (by simpa using nb) e⟩
    refine ⟨FH.turn W gI (fun b e => e ▸ lowI) (fun b e q => absurd (e ▸ q) xI) (fun b e => ?_), hst i _ H H1 gI (fun b e q => oI (e ▸ q)) hPH, gH.trans (gI.mono fun b e => .inr e)⟩
    obtain ⟨o', e', b1, b2, b3⟩ := T.bare i H stH
    exact ⟨o', e ▸ e', .inr b1, b2, b3⟩
  by_cases hlt : i < (items d).length
  · refine wpJ.of <| T.walks.item i _ _ _ hlt stH fun v' H1 tk1 hPv stH1 kp => ?_
    obtain ⟨F1', hP1', g1'⟩ := step H1 kp
    obtain ⟨e, he, re⟩ := T.item i v' hPv
    have re' : Rep H1 X e v' := re.grow g1' (fun b q => by
      rcases q with (q | q) | q
      · exact .inr (Mut.noSeq F1 q)
      · exact .inl (hO b q).1
      · exact .inr fun o' e' => absurd ⟨o', q ▸ e'⟩ nI) fun _ _ x => x
    refine jAssignName (store_S W hl hf F1' re' fun H2 t2 g2 F2 => ?_)
    refine (hb i e he).use hA hO F2 (hst i _ H1 H2 g2 (fun b m q => (hO b q).2 m) hP1') fun H3 t3 r g3 er F3 hP3 => ?_
    cases er
    refine ⟨(items d).length - (i + 1), by omega, i + 1, H3, t3, hlt, rfl, rfl, T.walks.frame (i + 1) H1 H3 stH1 fun b hb' o' e' => ?_, F3, hP3, ?_⟩
    · have g23 : Grow (fun b => Mut env b ∨ O b) H1 H3 := (g2.mono fun _ => .inl).trans g3
      exact g23.get (ft b hb') e' (T.named (i + 1) H1 stH1 b hb' o' e')
    · exact g1'.trans (((g2.mono fun _ => .inl).trans g3).mono fun b q => .inl q)
  · have hi' : i = (items d).length := by omega
    refine wpJ.of <| T.walks.done _ _ _ (hi' ▸ stH) fun H1 tk1 kp => ?_
    obtain ⟨F1', hP1', g1'⟩ := step H1 kp
    refine jExecs_nil ⟨H1, tk1, rfl, ?_, rfl, hi' ▸ F1', hi' ▸ hP1'⟩
    refine ⟨fun b o' nb e => ?_⟩
    have e1 := g1.old b o' (fun x => x) e
    exact g1'.old b o' (fun q => q.elim nb fun q => nI ⟨o', q ▸ e1⟩) e1
end
end Mine
end
noncomputable section
open PySem PySem.W PyProof.Rows
set_option Elab.async false
set_option linter.unusedVariables false
namespace Mine
theorem guards_nil : ∀ {l : List (Code × Pos)}, guardsOf l = [] → ∀ c ∈ l, c.1.isGuard = false
  | [], _, _, hc => nomatch hc
  | (c, p) :: l, h, x, hx => by
    rw [guardsOf_cons] at h
    obtain ⟨h1, h2⟩ := List.append_eq_nil_iff.mp h
    rcases List.mem_cons.mp hx with rfl | hx
    · show c.isGuard = false
      cases q : c.isGuard with
      | false => rfl
      | true => simp [Code.guards, q] at h1
    · exact guards_nil h2 x hx
theorem exported_J {M : Model} {A : Around} {a : Addr} {Q : Bool → Shared → Prop} {s : Shared} (hg : A.guards = some []) (hu : A.units < 5000) (h : Q false s) : wpJ M A (Builtin.Bytes.exported (.ref a)) Q s := by
  intro Γ p hΓ j
  replace j := j hu
  have key : ∀ b : Bool, b = false → Q b s := fun b e => e ▸ h
  show Q (List.any ((Γ.code, p) :: Γ.below) _) s
  refine key _ ?_
  rw [List.any_eq_false]
  intro x hx
  have gs := hΓ.2.2.2.1 [] hg
  have hgx : x.1.isGuard = false := guards_nil (l := (Γ.code, p) :: Γ.below) (by rw [guardsOf_cons]; exact gs) x hx
  have hall : holdsIt x.1 = false := by
    rcases List.mem_cons.mp hx with rfl | hx
    · exact j.1
    · exact j.2 x hx
  obtain ⟨c, q⟩ := x
  rw [Bool.not_eq_true]
  have low : ∀ {b c : Bool}, c = false → (b && c) = false := fun e => by rw [e, Bool.and_false]
  have dn : ∀ {p : Prop} [Decidable p] {t : p → Bool} {e : ¬ p → Bool} (n : ¬ p), e n = false → dite p t e = false := fun n q => by rw [dif_neg n]; exact q
  cases c with
  | builtin id args =>
    obtain ⟨pos, kw⟩ := args
    have ne : ∀ i, (Code.builtin i ⟨pos, kw⟩).isGuard = true → ¬ id = i := fun i e z => by rw [z, e] at hgx; cases hgx
    delta PySem.Builtin.Bytes.exported.match_1
    dsimp only
    delta PySem.Builtin.Bytes.exported._sparseCasesOn_1
    dsimp only
    rw [dif_neg (ne "bytearray.__contains__" (by kernel_rfl))]
    rw [dif_neg (ne "bytearray.__mod__" (by kernel_rfl))]
    rw [dif_neg (ne "bytearray.__rmod__" (by kernel_rfl))]
    rw [dif_neg (ne "_struct.pack_into.held" (by kernel_rfl))]
    rw [dif_neg (ne "bytearray.find.held" (by kernel_rfl))]
    cases pos with
    | nil => rfl
    | cons v r => exact low hall
  | _ => rfl
/-- a built-in called where the stack is clean -/
theorem codeJ_builtin {prog : Program} {w : World} {A : Around} {s : Shared} {Q : Flow → Shared → Prop} {id : String} {args : Args} {b : Builtin} (hq : plainId id = true) (hh : holdsIt (.builtin id args) = false) (hb : entryFor table id = some b)
    (h : wpJ (model prog w) A.in1 (b args) (fun fin s' => match fin with | .done f => Q f s' | .again c' => c'.quiet = true ∧ holdsIt c' = false ∧ codeJ (model prog w) A c' Q s') s) : codeJ (model prog w) A (.builtin id args) Q s := by
  refine codeJ_of_tree ?_
  rw [Around.under_plainId hq args]
  show wpJ _ _ (match entryFor table id with | some b => b args | none => unsupported ((withoutEnding? id "#data").getD id)) _ s
  rw [hb]; exact h
theorem codeJ_call_builtin {prog : Program} {w : World} {A : Around} {s : Shared} {Q : Flow → Shared → Prop} {id : String} {args : Args} {b : Builtin} (hq : plainId id = true) (hh : holdsIt (.builtin id args) = false) (hb : entryFor table id = some b)
    (h : wpAny (model prog w) A.in1 (checkBuiltinCall id args) (fun _ s₁ => wpJ (model prog w) A.in1 (b args) (fun fin s' => match fin with | .done f => Q f s' | .again c' => c'.quiet = true ∧ holdsIt c' = false ∧ codeJ (model prog w) A c' Q s') s₁) noE s) : codeJ (model prog w) A (.call (.builtin id) args) Q s := by
  refine codeJ_of_tree ?_
  show wpJ _ A.in1 (do checkBuiltinCall id args; again (.builtin id args)) _ s
  exact wpJ_bind (wpJ.of (wpAny_mono h (fun _ s₁ h₁ => wpJ_pure ⟨plainId_quiet hq args, hh, codeJ_builtin hq hh hb h₁⟩) fun _ _ x => x))
end Mine
end
noncomputable section
open PySem PySem.W PyProof.Rows
set_option Elab.async false
set_option linter.unusedVariables false
set_option maxRecDepth 100000
namespace Mine
theorem ba_mro : mroOf (.type "bytearray") = pure [.type "bytearray", .type "object"] := by rw [mroOf_type]; kernel_rfl
theorem ba_lookup_new : typeLookup (.type "bytearray") "__new__" = pure (some (.builtin "bytearray.__new__")) := by rw [typeLookup_type, builtinLookup_eq_fast]; kernel_rfl
theorem ba_slot_init : Slot "bytearray" "__init__" "bytearray.__init__" :=
  .of (owner := "bytearray") (n := "__init__") (by rw [typeLookup_type, builtinLookup_eq_fast]; kernel_rfl) (by decide +kernel) (by decide +kernel) (by decide +kernel)
    (by first | exact .inl (by decide +kernel) | exact .inr (by decide +kernel)) (by rw [isSubtype_type]; kernel_rfl)
theorem ba_called : TypeCalled "bytearray" "bytearray.__new__" "bytearray.__init__" :=
  ⟨by decide +kernel, by decide +kernel, ⟨_, _, ba_mro⟩, madeBy_type ba_mro ba_lookup_new (by decide +kernel), by decide +kernel, by rw [isSubtype_type]; kernel_rfl, ba_slot_init⟩
theorem ba_typeCall (a : Value) : checkTypeCall "bytearray" ⟨[a], []⟩ = pure () := by kernel_rfl
theorem ba_newCall (a : Value) : checkBuiltinCall "bytearray.__new__" ⟨[.type "bytearray", a], []⟩ = pure () := by kernel_rfl
theorem ba_entry_new : entryFor table "bytearray.__new__" = some Builtin.«list.__new__» := entryFor_alias (id' := "list.__new__") (by kernel_rfl) rfl (by decide +kernel) (by kernel_rfl)
theorem ba_entry_init : entryFor table "bytearray.__init__" = some Builtin.«bytearray.__init__» := by first | exact entryFor_of_fast (by kernel_rfl) | exact entryFor_of_tree (by kernel_rfl)
theorem ba_bind (v : Value) : Builtin.Bytes.bindOptional "bytearray.__init__" "bytearray" ["source", "encoding", "errors"] [v] [] = pure [some v, none, none] := by kernel_rfl
theorem ba_args_init (a b : Value) : argsOk "bytearray.__init__" ⟨[a, b], []⟩ := by unfold argsOk; kernel_rfl
theorem ba_sub : isSubtype (.type "bytearray") (.type "bytearray") = pure true := by rw [isSubtype_type]; kernel_rfl
theorem ba_owner : ("bytearray.__new__".splitOn ".__new__").headD "" = "bytearray" := by simp +decide [String.splitOn, String.splitOnAux]
theorem ba_release : typeLookup (.type "bytearray") "__release_buffer__" = pure (some (.builtin "bytearray.__release_buffer__")) := by rw [typeLookup_type, builtinLookup_eq_fast]; kernel_rfl
theorem jIf_false {α : Type} {M : Model} {A : Around} {s : Shared} {c : Bool} {a b : Sem α} {Q : α → Shared → Prop} (hc : c = false) (h : wpJ M A b Q s) : wpJ M A (if c = true then a else b) Q s := by rw [hc]; exact h
theorem jIf_true {α : Type} {M : Model} {A : Around} {s : Shared} {c : Bool} {a b : Sem α} {Q : α → Shared → Prop} (hc : c = true) (h : wpJ M A a Q s) : wpJ M A (if c = true then a else b) Q s := by rw [hc]; exact h
theorem jEq {α : Type} {M : Model} {A : Around} {s : Shared} {t : Sem α} {a : α} {Q : α → Shared → Prop} (e : t = pure a) (h : Q a s) : wpJ M A t Q s := by rw [e]; exact wpJ_pure h
variable {prog : Program} {w : World}
theorem codeJ_builtin_at {A : Around} {s : Shared} {Q : Flow → Shared → Prop} {id : String} {args : Args} {b : Builtin} (hb : entryFor table id = some b)
    (h : wpJ (model prog w) (A.under (.builtin id args)) (b args) (fun fin s' => match fin with | .done f => Q f s' | .again c' => c'.quiet = true ∧ holdsIt c' = false ∧ codeJ (model prog w) A c' Q s') s) : codeJ (model prog w) A (.builtin id args) Q s := by
  refine codeJ_of_tree ?_
  show wpJ _ _ (match entryFor table id with | some b => b args | none => unsupported ((withoutEnding? id "#data").getD id)) _ s
  rw [hb]; exact h
/-- a type called whose __init__ looks at the stack -/
theorem jType {T newId initId : String} {A : Around} {s : Shared} {args : List Value} {Q : Value → Shared → Prop} (ft : TypeCalled T newId initId) (hct : checkTypeCall T ⟨args, []⟩ = pure ())
    (h : wpJ (model prog w) A.in1 (call (.builtin newId) (.type T :: args)) (fun obj s₁ => s₁.TypeIs obj T ∧ wpJ (model prog w) A.in1 (call (.builtin initId) (obj :: args)) (fun r s₂ => r = .none ∧ Q obj s₂) s₁) s) : wpJ (model prog w) A (call (.type T) args) Q s := by
  refine wpJ_call (codeJ_of_tree ?_)
  show wpJ _ A.in1 (callAny (.type T) ⟨args, []⟩) _ s
  show wpJ _ A.in1 (pure (Fin.again (.builtin "type.__call__" ⟨.type T :: args, []⟩))) _ s
  refine wpJ_pure (And.intro (Code.quiet_builtin _ (by decide +kernel)) (And.intro rfl (codeJ_builtin_at F.entry_type_call ?_)))
  rw [Around.under_plain (weight_type_call_type T args []) (units_type_call_type T args [])]
  obtain ⟨c, tl, hmro⟩ := ft.mro
  unfold Builtin.«type.__call__»
  dsimp only
  refine jIf_false ft.notType ?_
  refine jIf_false ft.canCreate ?_
  refine wpJ_bind (jEq hct ?_)
  refine wpJ_bind (jEq hmro ?_)
  refine jIf_false rfl ?_
  refine wpJ_bind (jEq ft.made ?_)
  dsimp only
  refine wpJ_bind (wpJ_pure ?_)
  refine wpJ_bind (wpJ_holding (wpJ_mono h fun obj s₁ h₁ => ?_))
  obtain ⟨hT, h₂⟩ := h₁
  refine wpJ_bind (wpJ.of (wpAny_isInstance hT ft.sub ?_))
  refine jIf_false rfl ?_
  refine wpJ_bind (wpJ_holding ?_)
  unfold callSpecial?
  refine wpJ_bind (wpJ.of (wpAny_specialOf hT ft.init.lookup ?_))
  dsimp only
  refine wpJ_holding (wpJ_bind (jEq (ft.init.bind obj) (wpJ_bind (wpJ_mono h₂ fun r s₂ h₃ => wpJ_pure ?_))))
  obtain ⟨rfl, hq⟩ := h₃
  exact jIf_false rfl (wpJ_pure ⟨obj, rfl, hq⟩)
theorem codeJ_of_own {A : Around} {s : Shared} {c : Code} {Q : Flow → Shared → Prop}
    (h : ∀ Γ p, Γ.code = c → Γ.In (A.under c) → Ja A Γ → Sem.wp (model prog w) Γ (denote table c) (fun fin _ s' => match fin with | .done f => Q f s' | .again c' => c'.quiet = true ∧ holdsIt c' = false ∧ codeJ (model prog w) A c' Q s') (fun _ _ _ => False) p s) : codeJ (model prog w) A c Q s := fun Γ p hc hΓ j => by
  rw [wpCode_iff_wp, hc]
  refine Sem.wp_mono _ Γ _ (fun fin p' s' h' => ?_) (fun _ _ _ h' => h'.elim) p s (h Γ p hc (hc ▸ hΓ.in) j)
  cases fin with
  | done f => exact h'
  | again c' => exact ⟨h'.1, h'.2.2 (Γ.goto c') p' rfl (hΓ.goto c') (j.goto h'.2.1)⟩
theorem den_builtin {id : String} {args : Args} {b : Builtin} (hb : entryFor table id = some b) : denote table (.builtin id args) = b args := by
  show (match entryFor table id with | some b => b args | none => unsupported ((withoutEnding? id "#data").getD id)) = _
  rw [hb]
theorem ba_new {A : Around} {h : Heap} {g dr tk o} {a : Value} {Q : Value → Shared → Prop} (q : Q (.ref h.objs.size) ⟨h.push { cls := .type "bytearray", data := .bytearray #[] }, g, dr, tk, o⟩) :
    wpJ (model prog w) A (call (.builtin "bytearray.__new__") [.type "bytearray", a]) Q ⟨h, g, dr, tk, o⟩ := by
  refine wpJ_call (codeJ_of_tree ?_)
  show wpJ _ A.in1 (do checkBuiltinCall "bytearray.__new__" ⟨[.type "bytearray", a], []⟩; again (.builtin "bytearray.__new__" ⟨[.type "bytearray", a], []⟩)) _ _
  refine wpJ_bind (jEq (ba_newCall _) (wpJ_pure (And.intro (plainId_quiet ba_called.plain _) (And.intro rfl (codeJ_of_own fun Γ p hc hΓ j => ?_)))))
  rw [den_builtin ba_entry_new]
  unfold Builtin.«list.__new__»
  simp only [Sem.wp_bind', stack, Sem.wp_stack, Sem.wp_pure]
  rw [hc]
  refine Sem.wp_mono _ Γ _ (fun fin p' s' h' => ?_) (fun _ _ _ x => x.elim) p _ ((?z : wpAny (model prog w) (A.under (.builtin "bytearray.__new__" ⟨[.type "bytearray", a], []⟩)) _ (fun fin s' => ∃ v, fin = .done (.ret v) ∧ Q v s') noE _) Γ p hΓ)
  · obtain ⟨v, rfl, hq⟩ := h'
    exact ⟨v, rfl, hq⟩
  · dsimp only
    rw [ba_owner]
    refine wpAny_bind (wpAny_of_eq (a := true) rfl ?_)
    refine bm_if_false rfl ?_
    refine wpAny_bind (wpAny_of_eq ba_sub ?_)
    refine bm_if_false rfl ?_
    refine wpAny_bind (wpAny_pure ?_)
    refine bm_if_true rfl ?_
    exact wpAny_bind (wpAny_newObj_type (wpAny_pure ⟨_, rfl, q⟩) (Nat.zero_le _))
theorem ba_write {M : Model} {A : Around} {s : Shared} {a : Addr} {b : Array UInt8} {f : Array UInt8 → Array UInt8} {Q : Unit → Shared → Prop} (ha : s.heap.get? a = some { cls := .type "bytearray", data := .bytearray b }) (hz : (f b).size ≤ sizeLine)
    (q : ∀ h', Heap.SameBut a s.heap h' → h'.get? a = some { cls := .type "bytearray", data := .bytearray (f b) } → Q () { s with heap := h' }) : wpAny M A (Builtin.Bytes.write (.ref a) f) Q noE s := by
  show wpAny _ _ (updateBytearray a f) _ _ _
  unfold updateBytearray
  refine wpAny_bind (wpAny_load ha ?_)
  show wpAny _ _ (update a (Obj.mapBytearray f) >>= fun _ => lookBehind a) _ _ _
  refine wpAny_bind (wpAny_update ha ?_)
  have h2 : (s.heap.update a (Obj.mapBytearray f)).get? a = some { cls := .type "bytearray", data := .bytearray (f b) } := Heap.get?_update_self (Obj.mapBytearray f) ha rfl
  refine wpAny_lookBehind h2 ?_ (q _ (Heap.SameBut.update ..) h2)
  show (if (f b).size > sizeLine then some "bytearray:memory" else none) = none
  rw [if_neg (Nat.not_lt.mpr hz)]
theorem ba_ownRelease {M : Model} {A : Around} {s : Shared} {a : Value} {Q : Bool → Shared → Prop} (hT : s.TypeIs a "bytearray") (q : Q false s) : wpAny M A (Builtin.Bytes.ownRelease a) Q noE s := by
  unfold Builtin.Bytes.ownRelease Builtin.Bytes.slotIsOwn
  refine wpAny_bind (wpAny_bind (wpAny_specialOf hT ba_release ?_))
  dsimp only
  refine bm_if_false (by decide +kernel) ?_
  rw [show ("bytearray.__release_buffer__".dropRight ("__release_buffer__".length + 1)) = "bytearray" by decide +kernel]
  exact wpAny_isInstance hT ba_sub (wpAny_pure q)
theorem int_index : typeLookup (.type "int") "__index__" = pure (some (.builtin "int.__index__")) := by rw [typeLookup_type, builtinLookup_eq_fast]; kernel_rfl
/-- bytearray(n) -/
theorem call_bytearray {A : Around} (hA : Bud 500 A) {h : Heap} {g dr tk o} {n : Int} {t : Tok} (hn : 0 ≤ n) (hn2 : n < 100000) {Q : Value → Shared → Prop}
    (q : ∀ h' tk', Heap.SameBut h.objs.size (h.push { cls := .type "bytearray", data := .bytearray #[] }) h' → h'.get? h.objs.size = some { cls := .type "bytearray", data := .bytearray (Array.replicate n.toNat 0) } → Q (.ref h.objs.size) ⟨h', g, dr, tk', o⟩) :
    wpJ (model prog w) A (call (.type "bytearray") [.int n t]) Q ⟨h, g, dr, tk, o⟩ := by
  refine jType ba_called (ba_typeCall _) (ba_new ⟨⟨_, Heap.get?_push_size _ rfl, rfl⟩, ?_⟩)
  generalize hH : h.push { cls := .type "bytearray", data := .bytearray #[] } = H at q ⊢
  have hHa : H.get? h.objs.size = some { cls := .type "bytearray", data := .bytearray #[] } := by rw [← hH]; exact Heap.get?_push_size _ rfl
  have hT : (⟨H, g, dr, tk, o⟩ : Shared).TypeIs (.ref h.objs.size) "bytearray" := ⟨_, hHa, rfl⟩
  refine wpJ_call (codeJ_call_builtin ba_slot_init.plain rfl ba_entry_init (ba_slot_init.check _ _ _ _ _ _ _ _ hT ?_ ?_))
  · exact ba_args_init _ _
  unfold Builtin.«bytearray.__init__»
  dsimp only
  refine wpJ_bind (wpJ.of (ba_ownRelease hT ?_))
  refine jIf_false rfl ?_
  refine wpJ_bind (jEq (ba_bind _) ?_)
  dsimp only
  refine wpJ_bind (jEq rfl ?_)
  refine wpJ_bind (jEq rfl ?_)
  refine wpJ_bind ?_
  unfold orM
  refine wpJ_bind (exported_J (show (A.in1.in1).guards = some [] from hA.guards) (show A.units + 1 + 1 < 5000 by have := hA.units; omega) ?_)
  show wpJ _ _ (Builtin.Bytes.exportsOf (.ref h.objs.size) >>= fun n => pure (decide (n > 0))) _ _
  refine wpJ_bind (wpJ.of ?_)
  unfold Builtin.Bytes.exportsOf
  refine wpAny_bind (wpAny_load hHa (wpAny_pure (wpJ_pure ?_)))
  refine jIf_false rfl ?_
  refine wpJ_bind (wpJ.of (ba_write hHa (Nat.zero_le _) fun h1 s1 e1 => ?_))
  refine wpJ_bind (jEq (a := none) rfl ?_)
  dsimp only
  refine wpJ_bind (jEq rfl ?_)
  refine wpJ_bind (wpJ.of (wpAny_specialOf (typeIs_int _ n t) int_index ?_))
  refine jIf_true rfl ?_
  refine wpJ_bind (wpJ_attempt (jEq (rfl : asIndex (.int n t) = pure n) ?_))
  dsimp only
  refine jIf_false (by simp [Builtin.Bytes.fitsIndex]; omega) ?_
  rw [if_neg (by omega)]
  refine jIf_false (by simp; omega) ?_
  refine jIf_false (by simp [Builtin.Bytes.tooLong, sizeLine]; omega) ?_
  refine wpJ_bind (wpJ.of (wpAny_rule ?_))
  by_cases hp : n > 0
  · rw [if_pos hp]
    refine wpJ_bind (wpJ.of (ba_write e1 (by simp [sizeLine]; omega) fun h2 s2 e2 => ?_))
    exact wpJ_pure ⟨_, rfl, rfl, q h2 tk (s1.trans s2) e2⟩
  · rw [if_neg hp]
    have : n = 0 := by omega
    subst this
    exact wpJ_pure ⟨_, rfl, rfl, q h1 tk s1 e1⟩
end Mine
end
noncomputable section
open PySem PySem.W PyProof.Rows
set_option Elab.async false
set_option linter.unusedVariables false
set_option maxRecDepth 100000
namespace Mine
variable {prog : Program} {w : World}
theorem ba_slot_setitem : Slot "bytearray" "__setitem__" "bytearray.__setitem__" :=
  .of (owner := "bytearray") (n := "__setitem__") (by rw [typeLookup_type, builtinLookup_eq_fast]; kernel_rfl) (by decide +kernel) (by decide +kernel) (by decide +kernel)
    (by first | exact .inl (by decide +kernel) | exact .inr (by decide +kernel)) (by rw [isSubtype_type]; kernel_rfl)
theorem ba_entry_setitem : entryFor table "bytearray.__setitem__" = some Builtin.«bytearray.__setitem__» := by first | exact entryFor_of_fast (by kernel_rfl) | exact entryFor_of_tree (by kernel_rfl)
theorem ba_args_setitem (a b c : Value) : argsOk "bytearray.__setitem__" ⟨[a, b, c], []⟩ := by unfold argsOk; kernel_rfl
noncomputable abbrev baObj (b : Array UInt8) : Obj := { cls := .type "bytearray", data := .bytearray b }
theorem ba_setItem {A : Around} {E : Value → Shared → Prop} {s : Shared} {a : Addr} {b : Array UInt8} {k v : Int} {t u : Tok} {Q : Unit → Shared → Prop} (ha : s.heap.get? a = some (baObj b)) (hz : b.size ≤ 100000)
    (h0 : 0 ≤ k) (h1 : k < b.size) (v0 : 0 ≤ v) (v1 : v < 256)
    (q : ∀ h', Heap.SameBut a s.heap h' → h'.get? a = some (baObj (b.setIfInBounds k.toNat v.toNat.toUInt8)) → Q () { s with heap := h' }) : wpAny (model prog w) A (setItem (.ref a) (.int k t) (.int v u)) Q E s := by
  have hT : s.TypeIs (.ref a) "bytearray" := ⟨_, ha, rfl⟩
  unfold setItem
  try with_reducible refine wpAny_holding ?_
  first | refine wpAny_bind (wpAny_pure ?_) | skip
  refine wpAny_bind (wpAny_sequenceKey hT (by decide) ?_)
  refine wpAny_bind (wpAny_callSpecial?_slot (name := Str.ofString "__setitem__") hT ba_slot_setitem
    (wpAny_call_entry ba_slot_setitem hT ba_entry_setitem ?_ (ba_args_setitem _ _ _)))
  unfold Builtin.«bytearray.__setitem__»
  dsimp only
  refine bm_if_false rfl ?_
  unfold Builtin.Bytes.subscript?
  refine wpAny_bind (wpAny_bind (wpAny_specialOf (typeIs_int _ k t) int_index ?_))
  refine bm_if_false rfl ?_
  refine wpAny_bind (wpAny_of_eq (rfl : asIndex (.int k t) = pure k) ?_)
  refine bm_if_false (by simp [Builtin.Bytes.fitsIndex]; omega) ?_
  refine wpAny_pure ?_
  dsimp only
  unfold Builtin.Bytes.byteValue
  refine wpAny_bind (wpAny_bind (wpAny_of_eq (rfl : asIndex (.int v u) = pure v) ?_))
  refine bm_if_false (by simp; omega) ?_
  refine wpAny_pure ?_
  unfold Builtin.Bytes.payload Builtin.Bytes.payload?
  refine wpAny_bind (wpAny_bind (wpAny_bind (wpAny_load ha (wpAny_pure (wpAny_pure ?_)))))
  dsimp only
  have hk : seqIndex? k b.size = some k.toNat := by
    unfold seqIndex?
    first | (simp only [if_neg (show ¬ k < 0 by omega)]; rw [if_pos (by omega)]) | (simp; omega)
  rw [hk]
  dsimp only
  refine wpAny_bind (wpAny_mono (ba_write ha (by simp [sizeLine]; omega) q) (fun _ _ z => ?_) fun _ _ z => z.elim)
  exact wpAny_pure ⟨.none, rfl, wpAny_pure z⟩
theorem ba_no_bytes : typeLookup (.type "bytearray") "__bytes__" = pure none := by rw [typeLookup_type, builtinLookup_eq_fast]; kernel_rfl
theorem ba_no_index : typeLookup (.type "bytearray") "__index__" = pure none := by rw [typeLookup_type, builtinLookup_eq_fast]; kernel_rfl
theorem ba_buffer : typeLookup (.type "bytearray") "__buffer__" = pure (some (.builtin "bytearray.__buffer__")) := by rw [typeLookup_type, builtinLookup_eq_fast]; kernel_rfl
theorem ba_ownBuffer {M : Model} {A : Around} {E : Value → Shared → Prop} {s : Shared} {a : Value} {Q : Bool → Shared → Prop} (hT : s.TypeIs a "bytearray") (q : Q true s) : wpAny M A (Builtin.Bytes.slotIsOwn a "__buffer__") Q E s := by
  unfold Builtin.Bytes.slotIsOwn
  refine wpAny_bind (wpAny_specialOf hT ba_buffer ?_)
  dsimp only
  refine bm_if_false (by decide +kernel) ?_
  rw [show ("bytearray.__buffer__".dropRight ("__buffer__".length + 1)) = "bytearray" by decide +kernel]
  exact wpAny_isInstance hT ba_sub q
/-- bytes(x) of a bytearray -/
theorem call_bytes_ba {A : Around} {E : Value → Shared → Prop} {s : Shared} {a : Addr} {b : Array UInt8} {Q : Value → Shared → Prop} (ha : s.heap.get? a = some (baObj b)) (hz : b.size ≤ 100000)
    (q : ∀ t k, Q (.bytes b t) { s with toks := k }) : wpAny (model prog w) A (call (.type "bytes") [.ref a]) Q E s := by
  have hT : s.TypeIs (.ref a) "bytearray" := ⟨_, ha, rfl⟩
  refine callType_codes (Q₁ := fun obj s₁ => s₁.TypeIs obj "bytes" ∧ Q obj s₁) F.bm_called (F.bm_typeCall _) F.entry_object_init ?_ fun obj s₁ h₁ => ?_
  · refine codeAny_of_tree ?_
    show wpAny _ A.in1.in1 (do checkBuiltinCall "bytes.__new__" ⟨[.type "bytes", .ref a], []⟩; again (.builtin "bytes.__new__" ⟨[.type "bytes", .ref a], []⟩)) _ _ s
    refine wpAny_bind (wpAny_of_eq (F.bm_newCall _) (wpAny_pure ⟨plainId_quiet F.bm_plain _, codeAny_builtin F.bm_entry ?_⟩))
    rw [Around.under_plainId F.bm_plain _]
    unfold Builtin.«bytes.__new__»
    refine wpAny_bind (wpAny_of_eq (a := true) rfl ?_)
    refine bm_if_false rfl ?_
    refine wpAny_bind (wpAny_of_eq F.bm_sub ?_)
    refine bm_if_false rfl ?_
    refine wpAny_bind (wpAny_of_eq (F.bm_bind _) ?_)
    refine wpAny_bind (wpAny_of_eq (a := ()) rfl ?_)
    refine wpAny_bind (wpAny_of_eq (a := ()) rfl ?_)
    refine bm_if_false rfl ?_
    refine wpAny_bind (wpAny_specialOf hT ba_no_bytes ?_)
    refine wpAny_bind (wpAny_bind ?_)
    show wpAny _ _ (load a >>= _) _ _ _
    refine wpAny_bind (wpAny_load ha ?_)
    refine wpAny_pure (wpAny_pure ?_)
    refine bm_if_false rfl ?_
    refine wpAny_bind (wpAny_specialOf hT ba_no_index ?_)
    refine bm_if_true rfl ?_
    first
      | show wpAny _ _ (Builtin.Bytes.buffer? "bytes.__new__" (.ref a) true >>= _) _ _ _
      | (refine wpAny_bind ?_; show wpAny _ _ (Builtin.Bytes.buffer? "bytes.__new__" (.ref a) true >>= _) _ _ _)
    refine wpAny_bind ?_
    unfold Builtin.Bytes.buffer?
    refine wpAny_bind (wpAny_specialOf hT ba_buffer ?_)
    refine wpAny_bind (ba_ownBuffer hT ?_)
    refine bm_if_false rfl ?_
    refine wpAny_bind (wpAny_specialOf hT ba_buffer ?_)
    (try dsimp only)
    refine wpAny_bind (wpAny_mono (ba_ownRelease hT (Q := fun b' s' => b' = false ∧ s' = s) ⟨rfl, rfl⟩) (fun b' s' z => ?_) fun _ _ z => z.elim)
    obtain ⟨rfl, rfl⟩ := z
    refine bm_if_false rfl ?_
    unfold Builtin.Bytes.payload Builtin.Bytes.payload?
    refine wpAny_bind (wpAny_bind (wpAny_bind (wpAny_load ha (wpAny_pure (wpAny_pure (wpAny_pure ?_))))))
    refine wpAny_bind (wpAny_rule ?_)
    refine wpAny_bind (wpAny_mkBytes ?_ (by simp only [sizeLine]; omega))
    show wpAny _ _ (if (Value.type "bytes" == Value.type "bytes") = true then _ else _) _ _ _
    refine bm_if_true (by decide) ?_
    first
      | exact wpAny_pure ⟨PySem.W.typeIs_bytes _ _ _, q _ _⟩
      | exact wpAny_bind (wpAny_pure (wpAny_pure ⟨PySem.W.typeIs_bytes _ _ _, q _ _⟩))
  · exact ⟨h₁.1, F.args_object_init_2 obj _, object_init_meets F.bm_called.init.lookup F.bm_called.made (by decide) prog w A.in1 _ s₁ ⟨h₁.1, rfl, h₁.2⟩⟩
end Mine
end
noncomputable section
open PySem PySem.W PyProof.Rows
set_option Elab.async false
set_option linter.unusedVariables false
set_option maxRecDepth 100000
namespace Mine
variable {prog : Program} {w : World} {G : Heap → Prop} {Z : Addr → Prop}
section
variable {k : Nat} {env : Env} {ρ : Rho}
/-- an item, a cut: what is behind both parts -/
theorem ev_sub (W : Glob G Z) {value slice pos d₁ d₂ d} (h₁ : EvS prog w G Z k env ρ value d₁) (h₂ : EvS prog w G Z k env ρ slice d₂) (hb : Op2 prog w G (subscriptTail value slice) d₁ d₂ d) (hk : 4 ≤ k := by omega) : EvS prog w G Z k env ρ (.Subscript value slice pos) d := by
  intro A hA X h g dr tk o F
  refine jSubscript (h₁.use hA F fun h' t' v g₁ r₁ => h₂.use hA (F.le W g₁) fun h'' t'' v' g₂ r₂ => ?_)
  have F' := (F.le W g₁).le W g₂
  exact hb.use (hA.mono hk) F'.g F'.xs (r₁.le g₂) r₂ fun h3 t3 v3 g₃ r₃ => ⟨h3, t3, rfl, (g₁.trans g₂).trans g₃, r₃⟩
end
/-- how the text's bracket reads an item of such a kind -/
noncomputable def PlainSub (value slice : Expr) : Prop := (∀ o i, subscripted slice false o i = operate [o, i] (getItem o i)) 
theorem sub_bytes {value slice : Expr} {b : List UInt8} {i : Int} {c : UInt8} (h0 : 0 ≤ i) (hc : b[i.toNat]? = some c) (hz : b.length ≤ 100000)
    (hs : ∀ o i, subscripted slice false o i = operate [o, i] (getItem o i) := by intro _ _; rfl) (ht : ∀ b t r, letTemporaryGo value (.bytes b t) r = pure () := by intro _ _ _; rfl) : Op2 prog w G (subscriptTail value slice) (.bytes b) (.int i) (.int (c.toNat : Int)) := by
  rintro A hA X h g dr tk o _ _ hg hx ⟨t, rfl⟩ ⟨u, rfl⟩
  have hi : i.toNat < b.length := (List.getElem?_eq_some_iff.mp hc).1
  refine wpJ.of (KBw.item_K (ks := b.map fun c => (c.toNat : Int)) rfl (by rw [List.length_map]; omega) h0 (by rw [List.length_map]; omega) (fun t' k' _ _ => ?_) (hs _ _) (ht _ _))
  refine ⟨h, k', rfl, .refl _ _, t', ?_⟩
  have : (b.map fun c => (c.toNat : Int)).getD i.toNat 0 = (c.toNat : Int) := by
    rw [List.getD_eq_getElem?_getD, List.getElem?_map, hc]; rfl
  rw [this]
theorem call_len_bytes {b : List UInt8} (hz : b.length ≤ 100000) : CallS prog w G 4 (.builtin "len") [.bytes b] (.int (b.length : Int)) := by
  rintro A hA X h g dr tk o _ hg hx ⟨v, vs, rfl, ⟨t, rfl⟩, rfl⟩
  refine wpJ.of (KBw.len_K (ks := b.map fun c => (c.toNat : Int)) rfl (by rw [List.length_map]; omega) ?_)
  rw [List.length_map]
  exact ⟨h, _, rfl, .refl _ _, _, rfl⟩
theorem call_len_list {l : List D} (hz : l.length ≤ 100000) : CallS prog w G 4 (.builtin "len") [.lst l] (.int (l.length : Int)) := by
  rintro A hA X h g dr tk o _ hg hx ⟨v, vs, rfl, ⟨a, us, rfl, hx', hl, rs⟩, rfl⟩
  refine wpJ.of (len_list hl (by rw [List.size_toArray, rs.length]; omega) ?_)
  rw [List.size_toArray, rs.length]
  exact ⟨h, _, rfl, .refl _ _, _, rfl⟩
theorem call_range1 {n : Int} : CallS prog w G 4 (.type "range") [.int n] (.range 0 n 1) := by
  rintro A hA X h g dr tk o _ hg hx ⟨v, vs, rfl, ⟨t, rfl⟩, rfl⟩
  exact wpJ.of (call_range_1 ⟨_, _, rfl, .push _ _, h.objs.size, _, _, _, rfl, hx.new, Heap.get?_push_size _ rfl⟩)
theorem call_range3 {m n c : Int} (hc : c ≠ 0) (hl : c.natAbs.log2 < 9000) : CallS prog w G 4 (.type "range") [.int m, .int n, .int c] (.range m n c) := by
  rintro A hA X h g dr tk o _ hg hx ⟨v, vs, rfl, ⟨t, rfl⟩, ⟨v', vs', rfl, ⟨t', rfl⟩, ⟨v'', vs'', rfl, ⟨t'', rfl⟩, rfl⟩⟩⟩
  exact wpJ.of (call_range_3 hc ⟨_, _, rfl, .push _ _, h.objs.size, _, _, _, rfl, hx.new, Heap.get?_push_size _ rfl⟩ (.inl (PyProof.noPylong_of_log2 hl)))
theorem can_range1 {n : Int} (h0 : 0 ≤ n) (h1 : n < 100000) : CanIter (.range 0 n 1) := ⟨small_one (by omega) (by omega) (by omega) (by omega), by rw [rangeSize_one]; split <;> omega⟩
/-- less is known -/
noncomputable def Sub (ρ' ρ : Rho) : Prop := ∀ x d, ρ' x = some d → ρ x = some d
theorem Sub.refl (ρ : Rho) : Sub ρ ρ := fun _ _ e => e
theorem Sub.upd {ρ ρ' : Rho} {x : Str} {d : D} (s : Sub ρ' ρ) (h : ρ' x = none) : Sub ρ' (upd ρ x d) := fun y e q => by
  unfold Mine.upd
  by_cases hy : y = x
  · rw [hy, h] at q; cases q
  · rw [if_neg hy]; exact s y e q
theorem Fok.sub {X h env} {ρ ρ' : Rho} (F : Fok G Z X h env ρ) (s : Sub ρ' ρ) : Fok G Z X h env ρ' :=
  ⟨F.g, F.xs, F.low, let ⟨m, n, q⟩ := F.loc; ⟨m, n, fun x d e => q x d (s x d e)⟩, fun x d e => F.cel x d (s x d e), F.own, F.apart⟩
theorem TrO.sub {k env O P P' t f} {ρ ρ' ρ'' : Rho} (H : TrO prog w G Z k env O P ρ t f ρ' P') (s : Sub ρ'' ρ') : TrO prog w G Z k env O P ρ t f ρ'' P' := fun A hA X h g dr tk o hO F hP =>
  H.use hA hO F hP fun h' t' r gr r1 F' P' => ⟨h', t', rfl, gr, r1, F'.sub s, P'⟩
theorem Tree.sub {k env} {ρ ρ' ρ'' : Rho} {t : Sem Flow} {f : Fl} {S} (H : Tree prog w G Z k env ρ t S fun X h r => f.Is X h r ∧ Fok G Z X h env ρ') (s : Sub ρ'' ρ') : Tree prog w G Z k env ρ t S fun X h r => f.Is X h r ∧ Fok G Z X h env ρ'' := fun A hA X h g dr tk o F =>
  H.use hA F fun h' t' r gr r1 => ⟨h', t', rfl, gr, r1.1, r1.2.sub s⟩
end Mine
end
noncomputable section
open PySem PySem.W PyProof.Rows
set_option Elab.async false
set_option linter.unusedVariables false
set_option maxRecDepth 100000
namespace Mine
variable {prog : Program} {w : World} {G : Heap → Prop} {Z : Addr → Prop}
theorem jRelease {M : Model} {A : Around} {s : Shared} {vs keep : List Value} {Q : Unit → Shared → Prop} (h : Q () s) : wpJ M A (release vs keep) Q s := fun Γ p _ _ => by rw [Sem.wp_release]; exact h
theorem jAssignSub {M : Model} {A : Around} {s : Shared} {env : Env} {o i pos' value pos} {Q : Flow → Shared → Prop}
    (h : wpJ M A (eval value env) (fun v s₁ => wpJ M A (eval o env) (fun ov s₂ => wpJ M A (eval i env) (fun iv s₃ => wpJ M A (setItem ov iv v) (fun _ => Q .next) s₃) s₂) s₁) s)
    (hs : swapsWith value (some (.Subscript o i pos')) pos.line env = pure false) : wpJ M A (exec (.Assign [.Subscript o i pos'] value pos) env) Q s := by
  rw [exec_Assign_Subscript o i pos' value pos hs]
  refine wpJ_at (wpJ_bind (wpJ_mono h fun v s₁ h₁ => ?_))
  rw [assign_Subscript]
  exact wpJ_bind (wpJ_bind (wpJ_holding (wpJ_mono h₁ fun ov s₂ h₂ => wpJ_bind (wpJ_holding (wpJ_mono h₂ fun iv s₃ h₃ => wpJ_at (wpJ_bind (wpJ_holding (wpJ_mono h₃ fun _ s₄ h₄ => jRelease (wpJ_pure h₄)))))))))
section
variable {k : Nat} {env : Env} {ρ ρ' : Rho}
/-- a byte is laid into the frame's own bytearray -/
theorem ex_set_ba (W : Glob G Z) {o i pos' value pos} {a : Addr} {b : Array UInt8} {n v : Int} (h₀ : EvS prog w G Z k env ρ value (.int v)) (h₁ : EvS prog w G Z k env ρ o (.val (.ref a))) (h₂ : EvS prog w G Z k env ρ i (.int n))
    (hz : b.size ≤ 100000) (n0 : 0 ≤ n) (n1 : n < b.size) (v0 : 0 ≤ v) (v1 : v < 256) (hlow : ¬ Z a) (hs : swapsWith value (some (.Subscript o i pos')) pos.line env = pure false := by rfl) :
    ExO prog w G Z k env (fun c => c = a) (fun h => h.get? a = some (baObj b)) ρ (.Assign [.Subscript o i pos'] value pos) .next ρ (fun h => h.get? a = some (baObj (b.setIfInBounds n.toNat v.toNat.toUInt8))) := by
  intro A hA X h g dr tk oo hO F hP
  refine jAssignSub (h₀.use hA F fun h1 t1 v1' g1 r1 => h₁.use hA (F.le W g1) fun h2 t2 v2 g2 r2 => h₂.use hA ((F.le W g1).le W g2) fun h3 t3 v3 g3 r3 => ?_) hs
  obtain ⟨tv, rfl⟩ := r1
  cases r2
  obtain ⟨tn, rfl⟩ := r3
  have g13 := (g1.trans g2).trans g3
  have ha : h3.get? a = some (baObj b) := g13.get (fun x => x) hP (fun q => nomatch q)
  refine wpJ.of (ba_setItem ha hz n0 n1 v0 v1 fun h4 s4 e4 => ?_)
  have F3 := F.le W g13
  have g4 : Grow (fun c => c = a) h3 h4 := .same s4 rfl
  refine ⟨h4, t3, rfl, (Grow.any g13).trans (g4.mono fun _ => .inr), rfl, F3.turn W g4 (fun c e => e ▸ hlow) (fun c e _ => ⟨_, e ▸ e4⟩) (fun c e => ⟨_, e ▸ ha, .inl (hO c e).1, (fun _ _ q => by cases q), (fun _ q => by cases q)⟩), e4⟩
/-- x = bytearray(n), and what is done with it -/
theorem exs_own_ba (W : Glob G Z) {x p q p' e pos pos' rest} {n : Int} {d : D} (hg : EvS prog w G Z k env ρ (.Name q p') (.val (.type "bytearray"))) (h₁ : EvS prog w G Z k env ρ e (.int n)) (n0 : 0 ≤ n) (n1 : n < 100000)
    (H : ∀ a, ¬ Z a → ExsO prog w G Z k env (fun c => c = a) (fun h => h.get? a = some (baObj (Array.replicate n.toNat 0))) (upd ρ x (.val (.ref a))) rest (.ret d) ρ' (fun _ => True))
    (hk : 500 ≤ k := by omega) (hl : env.kindOf x = some .local ∨ env.kindOf x = some .cell := by first | exact .inl rfl | exact .inr rfl) (hf : env.scope.kind = .function := by rfl)
    (hse : starEach [e] env = [(false, eval e env)] := by rfl)
    (hs : swapsWith (.Call (.Name q p') [e] [] pos') (some (.Name x p)) pos.line env = pure false := by rfl) : ExsS prog w G Z k env ρ (.Assign [.Name x p] (.Call (.Name q p') [e] [] pos') pos :: rest) (.ret d) ρ' := by
  intro A hA X h g dr tk o F
  refine jExecs_cons (jAssign (jCall_Name (hg.use hA F fun h0 t0 v0 g0 r0 => ?_)) hs)
  cases r0
  rw [hse]
  refine jCallWith rfl (Nat.le_of_ble_eq_true rfl) (jSpliced_cons (h₁.use hA (F.le W g0) fun h1 t1 v g1 r1 => jSpliced_nil ⟨⟨.machine, .inr rfl, fun q => wpAny_pure q⟩, ?_⟩))
  obtain ⟨t, rfl⟩ := r1
  have F1 := (F.le W g0).le W g1
  refine call_bytearray (hA.mono (by omega)) n0 n1 fun h2 t2 s2 e2 => ?_
  have g2 : Le h1 h2 := ⟨fun b ob _ eb => (s2.2 b (Nat.ne_of_lt (Heap.lt_size eb))).trans (Heap.get?_push_of_some _ eb)⟩
  have F2 : Fok G Z (fun b => X b ∨ b = h1.objs.size) h2 env ρ := F1.more W g2 (fun b hb q => q.elim id fun q => absurd hb (by rw [q]; exact Nat.lt_irrefl _)) (fun b q => q.elim (fun q => (F1.xs.le g2) b q) fun q => ⟨_, q ▸ e2⟩)
  have low : ¬ Z h1.objs.size := W.fresh h1 F1.g _ (Nat.le_refl _)
  have nal : ¬ ∃ o, h1.get? h1.objs.size = some o := fun ⟨_, e⟩ => Nat.lt_irrefl _ (Heap.lt_size e)
  have nM : ¬ Mut env h1.objs.size := fun m => let ⟨o', e, _⟩ := Mut.kind F1 m; nal ⟨o', e⟩
  refine store_S W hl hf F2 (d := .val (.ref h1.objs.size)) rfl fun h3 t3 g3 F3 => ?_
  have e3 : h3.get? h1.objs.size = some (baObj (Array.replicate n.toNat 0)) := g3.get nM e2 (fun q => nomatch q)
  refine (H _ low).use hA (fun b q => ⟨.inr q, q ▸ nM⟩) F3 e3 fun h4 t4 r g4 fr F4 _ => ?_
  obtain ⟨v, rfl, rv⟩ := fr
  refine ⟨h4, t4, rfl, ⟨fun b ob nb eb => ?_⟩, ⟨v, rfl, rv.grow (.refl no _) (fun _ q => q.elim) fun _ _ q => .inl q⟩, F4.more W (.refl _ _) (fun _ _ q => .inl q) fun b q => F4.xs b (.inl q)⟩
  have g01 := g0.trans g1
  have g34 : Grow (fun b => Mut env b ∨ b = h1.objs.size) h2 h4 := (g3.mono fun _ => .inl).trans g4
  have g14 : Grow (fun b => Mut env b ∨ b = h1.objs.size) h1 h4 := (Grow.any g2).trans g34
  have g04 : Grow (fun b => Mut env b ∨ b = h1.objs.size) h h4 := (Grow.any g01).trans g14
  refine g04.old b ob (fun q => q.elim nb fun q => ?_) eb
  have := g01.alive (fun x => x) ⟨ob, eb⟩
  exact nal (q ▸ this)
/-- return bytes(x) of the frame's own bytearray -/
theorem exs_ret_ba (W : Glob G Z) {q p' e pos pos'} {a : Addr} {b : Array UInt8} (hg : EvS prog w G Z k env ρ (.Name q p') (.val (.type "bytes"))) (h₁ : EvS prog w G Z k env ρ e (.val (.ref a))) (hz : b.size ≤ 100000) (hse : starEach [e] env = [(false, eval e env)] := by rfl) :
    ExsO prog w G Z k env (fun c => c = a) (fun h => h.get? a = some (baObj b)) ρ [.Return (some (.Call (.Name q p') [e] [] pos')) pos] (.ret (.bytes b.toList)) ρ (fun _ => True) := by
  intro A hA X h g dr tk o hO F hP
  refine jExecs_cons (jReturn (jCall_Name (hg.use hA F fun h0 t0 v0 g0 r0 => ?_)))
  cases r0
  rw [hse]
  refine jCallWith rfl (Nat.le_of_ble_eq_true rfl) (jSpliced_cons (h₁.use hA (F.le W g0) fun h1 t1 v g1 r1 => jSpliced_nil ⟨⟨.machine, .inr rfl, fun q => wpAny_pure q⟩, ?_⟩))
  cases r1
  have g01 := g0.trans g1
  refine wpJ.of (call_bytes_ba (g01.get (fun x => x) hP (fun q => nomatch q)) hz fun t' k' => ?_)
  exact ⟨h1, k', rfl, .any g01, ⟨_, rfl, t', by rw [Array.toArray_toList]⟩, F.le W g01, trivial⟩
theorem ex_forN (W : Glob G Z) {O : Addr → Prop} {Ps : Nat → Heap → Prop} {ρs : Nat → Rho} {x : Str} {p : Pos} {iter : Expr} {body : List Stmt} {pos : Pos} {d : D} {N : Nat} (hN : (items d).length = N)
    (h₁ : EvS prog w G Z k env (ρs 0) iter d) (hc : CanIter d) (hst : ∀ i, Stab O (Ps i))
    (hb : ∀ i e, (items d)[i]? = some e → ExsO prog w G Z k env O (Ps i) (upd (ρs i) x e) body .next (ρs (i + 1)) (Ps (i + 1)))
    (hl : env.kindOf x = some .local ∨ env.kindOf x = some .cell := by first | exact .inl rfl | exact .inr rfl) (hf : env.scope.kind = .function := by rfl)
    (hs : ∀ v, foldedSetIterable iter env v = pure v := by intro _; rfl) :
    ExO prog w G Z k env O (Ps 0) (ρs 0) (.For (.Name x p) iter body [] pos) .next (ρs N) (Ps N) := hN ▸ ex_forO W h₁ hc hst hb hl hf hs
theorem ex_set_ba' (W : Glob G Z) {o i pos' value pos} {a : Addr} {b : Array UInt8} {n v : Int} {n' : Nat} {v' : UInt8} (en : n = (n' : Int)) (ev : v = (v'.toNat : Int)) (h₀ : EvS prog w G Z k env ρ value (.int v)) (h₁ : EvS prog w G Z k env ρ o (.val (.ref a))) (h₂ : EvS prog w G Z k env ρ i (.int n))
    (hz : b.size ≤ 100000) (n1 : n' < b.size) (hlow : ¬ Z a) (hs : swapsWith value (some (.Subscript o i pos')) pos.line env = pure false := by rfl) :
    ExO prog w G Z k env (fun c => c = a) (fun h => h.get? a = some (baObj b)) ρ (.Assign [.Subscript o i pos'] value pos) .next ρ (fun h => h.get? a = some (baObj (b.setIfInBounds n' v'))) := by
  subst en ev
  have := ex_set_ba (b := b) W h₀ h₁ h₂ hz (by omega) (by omega) (by omega) (by have := v'.toNat_lt; omega) hlow hs
  simpa using this
end
end Mine
end
noncomputable section
open PySem PySem.W PyProof.Rows
set_option Elab.async false
set_option linter.unusedVariables false
set_option maxRecDepth 100000
namespace Mine
variable {prog : Program} {w : World} {G : Heap → Prop} {Z : Addr → Prop}
/-- a cut -/
noncomputable def cutL {α : Type} (l : List α) (lo hi : Option Int) : List α := (l.drop (lo.elim 0 (clipAt l.length))).take (hi.elim l.length (clipAt l.length) - lo.elim 0 (clipAt l.length))
theorem jSlice {M : Model} {A : Around} {s : Shared} {env : Env} {l u st p} {Q : Value → Shared → Prop}
    (h : wpJ M A (valueOrNone (evalOpt l env)) (fun vl s₁ => wpJ M A (valueOrNone (evalOpt u env)) (fun vu s₂ => wpJ M A (valueOrNone (evalOpt st env)) (fun vs s₃ => wpJ M A (newFields "slice" [vl, vu, vs]) Q s₃) s₂) s₁) s) : wpJ M A (eval (.Slice l u st p) env) Q s := by
  show wpJ M A (do
    let l ← valueOrNone (evalOpt l env)
    let u ← holding [l] (valueOrNone (evalOpt u env))
    let s ← holding [l, u] (valueOrNone (evalOpt st env))
    newFields "slice" [l, u, s]) Q s
  exact wpJ_bind (wpJ_mono h fun vl s₁ h₁ => wpJ_bind (wpJ_holding (wpJ_mono h₁ fun vu s₂ h₂ => wpJ_bind (wpJ_holding h₂))))
section
variable {k : Nat} {env : Env} {ρ : Rho}
noncomputable abbrev PartS (prog : Program) (w : World) (G : Heap → Prop) (Z : Addr → Prop) (k : Nat) (env : Env) (ρ : Rho) (e : Option Expr) (i : Option Int) : Prop := Tree prog w G Z k env ρ (valueOrNone (evalOpt e env)) no fun _ _ v => IsPart v i
theorem part_none : PartS prog w G Z k env ρ none none := fun A hA X h g dr tk o F => wpJ_pure ⟨h, tk, rfl, .refl _ _, .none⟩
theorem part_some {e i} (h₁ : EvS prog w G Z k env ρ e (.int i)) : PartS prog w G Z k env ρ (some e) (some i) := fun A hA X h g dr tk o F =>
  h₁.use hA F fun h' t' v g₁ r₁ => by obtain ⟨t, rfl⟩ := r₁; exact ⟨h', t', rfl, g₁, .int i t⟩
theorem ev_cut_list (W : Glob G Z) {value lo hi p pos l i j} (h₁ : EvS prog w G Z k env ρ value (.lst l)) (h₂ : PartS prog w G Z k env ρ lo i) (h₃ : PartS prog w G Z k env ρ hi j) (hz : l.length ≤ 100000) : EvS prog w G Z k env ρ (.Subscript value (.Slice lo hi none p) pos) (.lst (cutL l i j)) := by
  intro A hA X h g dr tk o F
  refine jSubscript (h₁.use hA F fun h1 t1 v g1 r1 => jSlice (h₂.use hA (F.le W g1) fun h2 t2 vl g2 pl => h₃.use hA ((F.le W g1).le W g2) fun h3 t3 vu g3 pu => ?_))
  obtain ⟨a, vs, rfl, hx, hl, rs⟩ := r1.le (g2.trans g3)
  have F3 := ((F.le W g1).le W g2).le W g3
  refine wpJ_pure (wpJ.of (wpAny_newObj_type ?_ (by size_fits)))
  refine wpJ.of (tail_any (Heap.IsList.typeIs (s := ⟨h3.push _, g, dr, t3, o⟩) (hl.push _)) list_getitem_lookup (wpAny_getItem_list_slice (hl.push _) (Heap.IsSliceOf.new ..) pl pu .none (by simp) ?_ (by rw [List.size_toArray, rs.length]; simp only [sizeLine]; omega)) rfl)
  refine ⟨_, _, rfl, ((g1.trans g2).trans g3).trans ((Grow.push _ _).trans (.push _ _)), ?_⟩
  rw [slicePick_plain]
  have hn : vs.toArray.size = l.length := by rw [List.size_toArray, rs.length]
  rw [hn]
  exact rep_lst (F3.le W (.push _ _)).xs ((rs.le (.push _ _)).drop _ |>.take _)
theorem ev_rev_list (W : Glob G Z) {value e p pos l} (h₁ : EvS prog w G Z k env ρ value (.lst l)) (h₂ : EvS prog w G Z k env ρ e (.int (-1))) (hz : l.length ≤ 100000) : EvS prog w G Z k env ρ (.Subscript value (.Slice none none (some e) p) pos) (.lst l.reverse) := by
  intro A hA X h g dr tk o F
  refine jSubscript (h₁.use hA F fun h1 t1 v g1 r1 => jSlice (part_none.use hA (F.le W g1) fun h2 t2 vl g2 pl => part_none.use hA ((F.le W g1).le W g2) fun h3 t3 vu g3 pu => (part_some h₂).use hA (((F.le W g1).le W g2).le W g3) fun h4 t4 vs4 g4 ps => ?_))
  obtain ⟨a, vs, rfl, hx, hl, rs⟩ := r1.le ((g2.trans g3).trans g4)
  have F4 := (((F.le W g1).le W g2).le W g3).le W g4
  refine wpJ.of (wpAny_newObj_type ?_ (by size_fits))
  refine wpJ.of (tail_any (Heap.IsList.typeIs (s := ⟨h4.push _, g, dr, t4, o⟩) (hl.push _)) list_getitem_lookup (wpAny_getItem_list_slice (hl.push _) (Heap.IsSliceOf.new ..) pl pu ps (by simp) ?_ (by rw [List.size_toArray, rs.length]; simp only [sizeLine]; omega)) rfl)
  refine ⟨_, _, rfl, (((g1.trans g2).trans g3).trans g4).trans ((Grow.push _ _).trans (.push _ _)), ?_⟩
  rw [krv_pick]
  exact rep_lst (F4.le W (.push _ _)).xs (rs.le (.push _ _)).reverse
theorem ev_cut_bytes (W : Glob G Z) {value lo hi p pos b i j} (h₁ : EvS prog w G Z k env ρ value (.bytes b)) (h₂ : PartS prog w G Z k env ρ lo i) (h₃ : PartS prog w G Z k env ρ hi j) (hz : b.length ≤ 100000) : EvS prog w G Z k env ρ (.Subscript value (.Slice lo hi none p) pos) (.bytes (cutL b i j)) := by
  intro A hA X h g dr tk o F
  refine jSubscript (h₁.use hA F fun h1 t1 v g1 r1 => jSlice (h₂.use hA (F.le W g1) fun h2 t2 vl g2 pl => h₃.use hA ((F.le W g1).le W g2) fun h3 t3 vu g3 pu => ?_))
  obtain ⟨tb, rfl⟩ := r1
  refine wpJ_pure (wpJ.of (wpAny_newObj_type ?_ (by size_fits)))
  refine wpJ.of (tail_any (typeIs_bytes _ _ _) FB.slot_bytes_getitem.lookup (getItem_meets (typeIs_bytes _ _ _) (by decide) FB.slot_bytes_getitem FB.entry_bytes_getitem (FB.args_bytes_getitem_2 _ _) (KBc.meets_slice2 b.toArray tb _ pl pu)
    ⟨Heap.IsSliceOf.new _ _ _ _, Nat.le_trans (KBc.size_picked_le b.toArray i j) (by rw [List.size_toArray, sizeLine_eq]; omega), fun t' k' => ?_⟩) rfl)
  refine ⟨_, _, rfl, ((g1.trans g2).trans g3).trans (.push _ _), t', ?_⟩
  rw [KBc.picked_eq]
  simp [cutL]
end
theorem bin_bytes {b c : List UInt8} (hz : b.length + c.length ≤ 100000) : BinS prog w G .Add (.bytes b) (.bytes c) (.bytes (b ++ c)) := by
  rintro A hA X h g dr tk o _ _ hg hx ⟨t, rfl⟩ ⟨u, rfl⟩
  exact wpJ.of (KBy.add_bytes (by simp; omega) fun t' k' => ⟨h, k', rfl, .refl _ _, t', by simp⟩)
end Mine
end
noncomputable section
open PySem PySem.W PyProof.Rows
set_option Elab.async false
set_option linter.unusedVariables false
set_option maxRecDepth 100000
namespace Mine
variable {prog : Program} {w : World} {G : Heap → Prop} {Z : Addr → Prop}
theorem bin_list {l m : List D} (hz : l.length + m.length ≤ 100000) : BinS prog w G .Add (.lst l) (.lst m) (.lst (l ++ m)) := by
  rintro A hA X h g dr tk o _ _ hg hx ⟨a, vs, rfl, hxa, hl, rs⟩ ⟨b, ws, rfl, hxb, hm, rt⟩
  obtain ⟨⟨cls, dd, data, sl⟩, ho, hc, n, hd⟩ := id hl
  obtain ⟨⟨cls2, dd2, data2, sl2⟩, ho2, hc2, n2, hd2⟩ := id hm
  simp only at hc hd hc2 hd2
  subst hc hd hc2 hd2
  have e : vs.toArray ++ ws.toArray = (vs ++ ws).toArray := by simp
  refine wpJ.of (concat_meets ⟨_, ho, rfl⟩ ⟨_, ho2, rfl⟩ noFill_list_add seq_list_add PySem.F.slot_list_add PySem.F.entry_list_add (PySem.F.args_list_add_2 _ _) (list_addW a b vs.toArray ws.toArray n n2 dd dd2 sl sl2 (by simp only [List.size_toArray, rs.length, rt.length, sizeLine]; omega)) ⟨ho, ho2, ?_⟩)
  rw [e]
  exact ⟨_, _, rfl, .push _ _, rep_lst hx (rs.append rt)⟩
theorem sub_list {value slice : Expr} {l : List D} {i : Int} {d : D} (h0 : 0 ≤ i) (hd : l[i.toNat]? = some d) (hz : l.length ≤ 100000)
    (hs : ∀ o i, subscripted slice false o i = operate [o, i] (getItem o i) := by intro _ _; rfl) : Op2 prog w G (subscriptTail value slice) (.lst l) (.int i) d := by
  rintro A hA X h g dr tk o _ _ hg hx ⟨a, vs, rfl, hxa, hl, rs⟩ ⟨u, rfl⟩
  have hi : i.toNat < l.length := (List.getElem?_eq_some_iff.mp hd).1
  obtain ⟨v, hv, r⟩ := rs.get hd
  exact wpJ.of (tail_any (Heap.IsList.typeIs (s := ⟨h, g, dr, tk, o⟩) hl) list_getitem_lookup (wpAny_getItem_list hl h0 (by omega) (by simpa using hv) ⟨h, tk, rfl, .refl _ _, r⟩) (hs _ _))
theorem sub_tup {value slice : Expr} {l : List D} {i : Int} {d : D} (h0 : 0 ≤ i) (hd : l[i.toNat]? = some d) (hz : l.length ≤ 100000)
    (hs : ∀ o i, subscripted slice false o i = operate [o, i] (getItem o i) := by intro _ _; rfl) : Op2 prog w G (subscriptTail value slice) (.tup l) (.int i) d := by
  rintro A hA X h g dr tk o _ _ hg hx ⟨a, vs, rfl, hxa, hl, rs⟩ ⟨u, rfl⟩
  have hi : i.toNat < l.length := (List.getElem?_eq_some_iff.mp hd).1
  obtain ⟨v, hv, r⟩ := rs.get hd
  have e : seqIndex? i vs.length = some i.toNat := by
    unfold seqIndex?
    rw [rs.length]
    simp only [if_neg (Int.not_lt.mpr h0)]
    rw [if_pos (by simp only [Bool.and_eq_true, decide_eq_true_eq]; omega)]
  exact wpJ.of (item_tupleT hl (by omega) (by omega) e hv ⟨h, tk, rfl, .refl _ _, r⟩ (hs _ _))
theorem cmp_ne_bool {a b : Bool} : CmpS prog w G .NotEq (.bool a) (.bool b) (a != b) := by
  rintro A hA X h g dr tk o _ _ hg hx rfl rfl; exact wpJ.of <| ne_bool ⟨h, tk, rfl, .refl _ _, rfl⟩
theorem cmp_ne_bytes {b c : List UInt8} : CmpS prog w G .NotEq (.bytes b) (.bytes c) (b != c) := by
  rintro A hA X h g dr tk o _ _ hg hx ⟨t, rfl⟩ ⟨u, rfl⟩
  exact wpJ.of (ne_bytes ⟨h, tk, rfl, .refl _ _, by show (Value.bool _ : Value) = Value.bool _; simp⟩)
theorem call_bytes_list {ns : List Int} (hr : ∀ n ∈ ns, 0 ≤ n ∧ n < 256) (hz : ns.length ≤ 100000) : CallS prog w G 4 (.type "bytes") [.lst (ns.map D.int)] (.bytes (ns.map fun n => n.toNat.toUInt8)) := by
  rintro A hA X h g dr tk o _ hg hx ⟨v, vs, rfl, ⟨a, us, rfl, hx', hl, rs⟩, rfl⟩
  have hn : us.length = ns.length := by rw [rs.length, List.length_map]
  exact wpJ.of (call_bytes_ints hl rs.ints hr (by simp only [hn, sizeLine]; omega) hA.handled fun h' t k' hk => ⟨h', k', rfl, .keeps hk, t, rfl⟩)
section
variable {k : Nat} {env : Env} {ρ : Rho}
theorem test_list (W : Glob G Z) {e : Expr} {l : List D} (h₁ : EvS prog w G Z k env ρ e (.lst l)) (hz : l.length ≤ 100000) (he : ∀ whole, PySem.isTrue e env whole = (do let v ← whole; standAt e.pos; holding [v] (truthy v)) := by intro _; rfl) : TestS prog w G Z k env ρ e (!l.isEmpty) := by
  intro A hA X h g dr tk o F
  refine jTestPlain (h₁.use hA F fun h' t' v g₁ r₁ => ?_) (he _)
  obtain ⟨a, vs, rfl, hx, hl, rs⟩ := r₁
  refine wpJ.of (wpAny_truthy_list hl (by rw [List.size_toArray, rs.length]; omega) ⟨h', _, rfl, g₁, ?_⟩)
  cases l with
  | nil => cases rs; rfl
  | cons d ds => obtain ⟨v, vs', rfl, _⟩ := rs; rfl
/-- stores, one behind another -/
inductive Tgt (env : Env) : List (Value → Sem Unit) → List Str → Prop
  | nil : Tgt env [] []
  | bind {x ts xs} : Tgt env ts xs → Tgt env ((fun v => bindName env x v) :: ts) (x :: xs)
  | name {x pos ts xs} : Tgt env ts xs → Tgt env (assign (.Name x pos) env :: ts) (x :: xs)
noncomputable def upds : Rho → List Str → List D → Rho
  | ρ, x :: xs, d :: ds => upds (upd ρ x d) xs ds
  | ρ, _, _ => ρ
theorem stores (W : Glob G Z) {A : Around} (hf : env.scope.kind = .function) {g dr o} {X : Addr → Prop} {ts : List (Value → Sem Unit)} {xs : List Str} (T : Tgt env ts xs) (hl : ∀ x ∈ xs, env.kindOf x = some .local ∨ env.kindOf x = some .cell) :
    ∀ {ρ : Rho} {ds : List D} {vs : List Value} {h : Heap} {tk : Nat}, Fok G Z X h env ρ → Reps h X ds vs → ds.length = xs.length → ∀ {Q : Unit → Shared → Prop}, (∀ h' t', Grow (Mut env) h h' → Fok G Z X h' env (upds ρ xs ds) → Q () ⟨h', g, dr, t', o⟩) → wpJ (model prog w) A (assignInOrder ts vs) Q ⟨h, g, dr, tk, o⟩ := by
  induction T with
  | nil => intro ρ ds vs h tk F r e Q q; exact wpJ_pure (q h tk (.refl _ _) (by cases ds <;> exact F))
  | @bind x ts xs T ih =>
    intro ρ ds vs h tk F r e Q q
    cases ds with
    | nil => cases e
    | cons d ds =>
      obtain ⟨v, vs, rfl, r₁, rs⟩ := r
      refine wpJ_bind (wpJ_holding (jBindName (store_S W (hl x (by simp)) hf F r₁ fun h' t' g₁ F₁ => ?_)))
      exact ih (fun y hy => hl y (by simp [hy])) F₁ (rs.grow g₁ (fun b m => .inr (Mut.noSeq F m)) fun _ _ q => q) (by simpa using e) fun h2 t2 g₂ F₂ => q h2 t2 (g₁.trans g₂) F₂
  | @name x pos ts xs T ih =>
    intro ρ ds vs h tk F r e Q q
    cases ds with
    | nil => cases e
    | cons d ds =>
      obtain ⟨v, vs, rfl, r₁, rs⟩ := r
      refine wpJ_bind (wpJ_holding (jAssignName (store_S W (hl x (by simp)) hf F r₁ fun h' t' g₁ F₁ => ?_)))
      exact ih (fun y hy => hl y (by simp [hy])) F₁ (rs.grow g₁ (fun b m => .inr (Mut.noSeq F m)) fun _ _ q => q) (by simpa using e) fun h2 t2 g₂ F₂ => q h2 t2 (g₁.trans g₂) F₂
theorem Le.extBut {h h' : Heap} (e : Heap.ExtBut h.objs.size h h') : Le h h' := .keeps fun b o q => e b o (Nat.ne_of_lt (Heap.lt_size q)) q
/-- a, b = value -/
theorem ex_unpack (W : Glob G Z) {elts n tpos value pos ds xs} (h₁ : EvS prog w G Z k env ρ value (.tup ds)) (T : Tgt env ((assignEach elts env).map (·.2)) xs) (hn : ds.length = xs.length) (hl : ∀ x ∈ xs, env.kindOf x = some .local ∨ env.kindOf x = some .cell) (hf : env.scope.kind = .function := by rfl)
    (hN : (assignEach elts env).length = xs.length := by rfl) (hstar : (assignEach elts env).findIdx? (·.1) = none := by rfl)
    (hs : swapsWithSole [.Tuple elts n tpos] value pos.line env = pure false := by rfl) (hw : swappedStores [.Tuple elts n tpos] value env = pure none := by rfl) :
    ExS prog w G Z k env ρ (.Assign [.Tuple elts n tpos] value pos) .next (upds ρ xs ds) := by
  intro A hA X h g dr tk o F
  rw [exec_Assign]
  refine wpJ_at ?_
  rw [hs]
  refine wpJ_bind (wpJ_pure ?_)
  rw [if_neg (by decide)]
  refine wpJ_bind (h₁.use hA F fun h1 t1 v g₁ r₁ => ?_)
  rw [hw]
  refine wpJ_bind (wpJ_pure ?_)
  show wpJ _ A (do assignAll v [assign (.Tuple elts n tpos) env]; pure Flow.next) _ _
  refine wpJ_bind ?_
  show wpJ _ A (assign (.Tuple elts n tpos) env v) _ _
  rw [PyProof.Rows.assign_Tuple]
  refine wpJ_at ?_
  obtain ⟨a, vs, rfl, hx, ht, rs⟩ := r₁
  unfold unpack
  rw [hstar, hN, show xs.length = vs.toArray.size by rw [List.size_toArray, rs.length, hn]]
  refine wpJ_bind (wpJ_holding (wpJ.of (unpackItems_tuple hA.handled ht fun h2 e2 => ?_)))
  have g₂ : Le h1 h2 := Le.extBut e2
  exact stores W hf T hl ((F.le W g₁).le W g₂) (rs.le g₂) hn fun h3 t3 g₃ F₃ => wpJ_pure ⟨h3, t3, rfl, (Grow.any (g₁.trans g₂)).trans g₃, rfl, F₃⟩
/-- a, b = (x, y): the stores run from behind -/
theorem ex_unpack_swap (W : Glob G Z) {elts n tpos value pos ds} {xs : List Str} (h₁ : EvS prog w G Z k env ρ value (.tup ds)) (hw : swappedStores [.Tuple elts n tpos] value env = pure (some xs)) (T : Tgt env (xs.reverse.map fun n => bindName env n) xs.reverse) (hn : ds.length = xs.length) (hl : ∀ x ∈ xs, env.kindOf x = some .local ∨ env.kindOf x = some .cell) (hf : env.scope.kind = .function := by rfl)
    (hs : swapsWithSole [.Tuple elts n tpos] value pos.line env = pure false := by rfl) :
    ExS prog w G Z k env ρ (.Assign [.Tuple elts n tpos] value pos) .next (upds ρ xs.reverse ds.reverse) := by
  intro A hA X h g dr tk o F
  rw [exec_Assign]
  refine wpJ_at ?_
  rw [hs]
  refine wpJ_bind (wpJ_pure ?_)
  rw [if_neg (by decide)]
  refine wpJ_bind (h₁.use hA F fun h1 t1 v g₁ r₁ => ?_)
  rw [hw]
  refine wpJ_bind (wpJ_pure ?_)
  show wpJ _ A (do rule "assign.swapped-stores"; let items ← unpackItems v xs.length none; assignInOrder (xs.reverse.map fun n => bindName env n) items.reverse; pure Flow.next) _ _
  refine wpJ_bind (wpJ.of (wpAny_rule (wpJ_bind ?_)))
  obtain ⟨a, vs, rfl, hx, ht, rs⟩ := r₁
  rw [show xs.length = vs.toArray.size by rw [List.size_toArray, rs.length, hn]]
  refine wpJ.of (unpackItems_tuple hA.handled ht fun h2 e2 => ?_)
  have g₂ : Le h1 h2 := Le.extBut e2
  refine wpJ_bind (stores W hf T (fun x hx => hl x (by simpa using hx)) ((F.le W g₁).le W g₂) (rs.le g₂).reverse (by simpa using hn) fun h3 t3 g₃ F₃ => wpJ_pure ⟨h3, t3, rfl, (Grow.any (g₁.trans g₂)).trans g₃, rfl, F₃⟩)
end
end Mine
end
noncomputable section
open PySem PySem.W PyProof.Rows
set_option Elab.async false
set_option linter.unusedVariables false
set_option maxRecDepth 100000
namespace Mine
variable {prog : Program} {w : World} {G : Heap → Prop} {Z : Addr → Prop}
noncomputable abbrev tests (ifs : List Expr) (env : Env) : Sem Bool := forIn ifs true fun c r => if r = true then do let ok ← isTrue c env (eval c env); pure (ForInStep.yield ok) else pure (ForInStep.yield r)
section
variable {A : Around} {s : Shared} {env : Env}
theorem jTests_nil {M : Model} {Q : Bool → Shared → Prop} (h : Q true s) : wpJ M A (tests [] env) Q s := wpJ_pure h
theorem codeJ_compLoop {elt target iter : Expr} {ifs : List Expr} {gens : List Comprehension} {depth : Nat} {scope : Scope} {pos : Pos} {it acc : Value} {Q : Flow → Shared → Prop} (hg : gens[depth]? = some ⟨target, iter, ifs, 0⟩) (I : Nat → Shared → Prop)
    (turn : ∀ n s, I n s → wpJ (model prog w) A (pyNext it) (fun r s₁ => match r with
      | none => Q .next s₁
      | some v => wpJ (model prog w) A (assign target env v) (fun _ s₂ => wpJ (model prog w) A (tests ifs env) (fun ok s₃ =>
          if ok = true then
            match gens[depth + 1]? with
            | none => wpJ (model prog w) A (eval elt env) (fun x s₄ => wpJ (model prog w) A (call (.builtin "list.append") [acc, x]) (fun _ s₅ => ∃ m, m < n ∧ I m s₅) s₄) s₃
            | some g' => g'.is_async = 0 ∧ (∀ x, foldedSetIterable g'.iter env x = pure x) ∧ wpJ (model prog w) A (eval g'.iter env) (fun x s₄ => wpJ (model prog w) A (pyIter x) (fun it' s₅ => codeJ (model prog w) A (.compStart (.ListComp elt gens scope pos) (depth + 1) it' acc env) (fun _ s₆ => ∃ m, m < n ∧ I m s₆) s₅) s₄) s₃
          else ∃ m, m < n ∧ I m s₃) s₂) s₁) s)
    (n : Nat) (h : I n s) (ht : ∀ v, letOwnedTupleGo target it v = pure () := by intro _; rfl) :
    codeJ (model prog w) A (.compLoop (.ListComp elt gens scope pos) depth it acc env) Q s := by
  refine codeJ_loop rfl rfl I (fun n s hI => ?_) n h
  rw [Around.under_of_weight rfl]
  show wpJ _ A ((compTurn (.ListComp elt gens scope pos) depth it acc env).onRaise (fun x => do noteFrame x env; theTreesLotGoes x)) _ s
  refine wpJ_onRaise ?_
  unfold compTurn
  simp only [hg]
  refine wpJ_at ?_
  simp only [bne_self_eq_false, Bool.false_eq_true, if_false]
  refine wpJ_bind (wpJ_mono (turn n s hI) fun r s₁ h₁ => ?_)
  cases r with
  | none => exact wpJ_pure h₁
  | some v =>
    dsimp only
    rw [ht v]
    refine wpJ_bind (wpJ_pure (wpJ_bind (wpJ_mono h₁ fun _ s₂ h₂ => wpJ_bind (wpJ_mono h₂ fun ok s₃ h₃ => ?_))))
    cases ok with
    | false => exact wpJ_pure (.inl ⟨rfl, h₃⟩)
    | true =>
      simp only [if_true] at h₃ ⊢
      cases hn : gens[depth + 1]? with
      | none =>
        simp only [hn] at h₃
        exact wpJ_bind (wpJ_bind (wpJ_mono h₃ fun x s₄ h₄ => wpJ_bind (wpJ_mono h₄ fun _ s₅ h₅ => wpJ_pure (wpJ_pure (.inl ⟨rfl, h₅⟩)))))
      | some g' =>
        simp only [hn] at h₃
        obtain ⟨ha, hf, h₃⟩ := h₃
        refine wpJ_bind (wpJ_mono h₃ fun x s₄ h₄ => wpJ_at ?_)
        simp only [ha, bne_self_eq_false, Bool.false_eq_true, if_false, hf]
        refine wpJ_bind (wpJ_pure (wpJ_bind (wpJ_holding (wpJ_mono h₄ fun it' s₅ h₅ => wpJ_bind (wpJ_runOwn rfl (codeJ_mono h₅ fun _ s₆ h₆ => wpJ_pure (.inl ⟨rfl, h₆⟩)))))))
theorem codeJ_compStart {elt : Expr} {gens : List Comprehension} {g : Comprehension} {depth : Nat} {scope : Scope} {pos : Pos} {it acc : Value} {Q : Flow → Shared → Prop} (hg : gens[depth]? = some g) (ha : g.is_async = 0)
    (h0 : codeJ (model prog w) A (.compLoop (.ListComp elt gens scope pos) depth it acc env) Q s)
    (h : wpJ (model prog w) A (pyIter it) (fun it' s' => codeJ (model prog w) A (.compLoop (.ListComp elt gens scope pos) depth it' acc env) Q s') s) :
    codeJ (model prog w) A (.compStart (.ListComp elt gens scope pos) depth it acc env) Q s := by
  refine codeJ_of_tree ?_
  rw [Around.under_of_weight rfl]
  show wpJ _ _ ((compStart (.ListComp elt gens scope pos) depth it acc env).onRaise (fun x => do noteFrame x env; standAt theWindowsPlace)) _ s
  refine wpJ_onRaise ?_
  unfold compStart
  rw [show clausesOf (.ListComp elt gens scope pos) = gens from rfl]
  simp only [hg, Option.elim, ha, bne_self_eq_false, Bool.false_eq_true, if_false]
  refine wpJ_bind (wpJ.of (wpAny_askSetting ?_))
  split
  · exact wpJ_bind (wpJ_pure (wpJ_pure ⟨rfl, rfl, h0⟩))
  · exact wpJ_bind (wpJ.of (wpAny_rule (wpJ_at (wpJ_bind (wpJ_mono h fun it' s' h' => wpJ_pure ⟨rfl, rfl, h'⟩)))))
end
end Mine
end
noncomputable section
open PySem PySem.W PyProof.Rows
set_option Elab.async false
set_option linter.unusedVariables false
set_option maxRecDepth 100000
namespace Mine
variable {prog : Program} {w : World} {G : Heap → Prop} {Z : Addr → Prop}
section
variable {M : Model} {A : Around} {s : Shared} {env : Env}
theorem jStandIf {α : Type} {c : Prop} [Decidable c] {pos : Pos} {k : PUnit → Sem α} {Q : α → Shared → Prop} (h : wpJ M A (k ()) Q s) : wpJ M A (if c then (standAt pos >>= k) else k ()) Q s := by
  split
  · exact wpJ_at h
  · exact h
noncomputable def compPostJ (M : Model) (A : Around) (use : Option (Value → Sem Unit)) (Q : Value → Shared → Prop) (acc : Value) (C : Addr) (s' : Shared) : Prop :=
  match use with
  | none => ∃ m, s'.heap.Ns C m ∧ ∀ h', Heap.SameBut C s'.heap h' → Q acc { s' with heap := h' }
  | some u => wpJ M A (u acc) (fun _ s'' => ∃ m, s''.heap.Ns C m ∧ ∀ h', Heap.SameBut C s''.heap h' → Q .none { s'' with heap := h' }) s'
theorem jComprehension {e : Expr} {scope : Scope} {pos : Pos} {newAcc first : Sem Value} {g : Comprehension} {gs : List Comprehension} {cl : List (Str × Addr)} {use : Option (Value → Sem Unit)}
    {Q : Value → Shared → Prop} (he : holdsIt (.compStart e 0 .none .none env) = false)
    (hcl : clausesOf e = g :: gs) (hs : ∀ x, foldedSetIterable g.iter env x = pure x) (hclos : closureFor scope env = pure cl)
    (hkind : scope.kind = .function) (hnames : ∀ x ∈ scope.names, x.2 = .local → scope.names.lookup x.1 = some .local)
    (h : wpJ M A first (fun x s₁ => wpJ M A (pyIter x) (fun it s₂ => wpJ M A newAcc (fun acc s₃ =>
      wpJ M A (newFunctionEnv scope env.globals cl [] env.qual none .none (some env)) (fun cenv s₄ =>
        codeJ M A (.compStart e 0 it acc { cenv with scope := relabel scope env }) (fun _ s' => compPostJ M A use Q acc cenv.locals s') s₄) s₃) s₂) s₁) s) :
    wpJ M A (comprehension e scope env pos newAcc false first use) Q s := by
  unfold comprehension
  rw [hclos, hcl]
  refine wpJ_bind (wpJ_mono h fun x s₁ h₁ => wpJ_at ?_)
  dsimp only
  rw [hs x]
  refine wpJ_bind (wpJ_pure (wpJ_bind (wpJ_holding (wpJ_mono h₁ fun it s₂ h₂ =>
    jStandIf (wpJ_bind (wpJ_mono h₂ fun acc s₃ h₃ => wpJ_bind (wpJ_pure (wpJ_bind (wpJ_mono h₃ fun cenv s₄ h₄ => ?_)))))))))
  have hv : ∀ x ∈ (scope.names.filter fun x => (x.2 == .local || x.2 == .cell) && x.1 != (".0" : Str)).reverse, x.2 = .local →
      Env.kindOf { cenv with scope := relabel scope env } x.1 = some .local := fun x hx hl => lookup_relabel_local (hnames x (List.mem_filter.mp (List.mem_reverse.mp hx)).1 hl)
  have hv' : ∀ x ∈ (scope.names.filter fun x => (x.2 == .local || x.2 == .cell) && x.1 != (".0" : Str)).reverse.drop 1 ++ (scope.names.filter fun x => (x.2 == .local || x.2 == .cell) && x.1 != (".0" : Str)).reverse.take 1,
      x.2 = .local → Env.kindOf { cenv with scope := relabel scope env } x.1 = some .local := fun x hx hl => by
    rcases List.mem_append.mp hx with h1 | h1
    · exact hv x (List.mem_of_mem_drop h1) hl
    · exact hv x (List.mem_of_mem_take h1) hl
  refine wpJ_holding (wpJ_bind (wpJ_attempt (wpJ_holding (wpJ_run rfl (codeJ_mono h₄ fun r s' hr => ?_)))))
  cases use with
  | none =>
    obtain ⟨m, hn, hr⟩ := hr
    exact wpJ_bind (wpJ_holding (wpJ.of (wpAny_comp_letGo (cenv := { cenv with scope := relabel scope env }) hkind _ s' m hv hn fun h' m' _ hs' => wpJ_pure (hr h' hs'))))
  | some u =>
    refine wpJ_bind (wpJ.of (wpAny_rule (wpJ_bind (wpJ_holding (wpJ_mono hr fun _ s'' hr' => ?_)))))
    obtain ⟨m, hn, hr'⟩ := hr'
    exact wpJ_bind (wpJ.of (wpAny_comp_letGo (cenv := { cenv with scope := relabel scope env }) hkind _ s'' m hv' hn fun h' m' _ hs' => wpJ_pure (hr' h' hs')))
end
/-- what the list in the making holds -/
noncomputable def Acc (h : Heap) (X : Addr → Prop) (a : Addr) (ds : List D) : Prop := ∃ vs, h.IsList a (List.toArray vs) ∧ Reps h X ds vs
noncomputable abbrev TestsS (prog : Program) (w : World) (G : Heap → Prop) (Z : Addr → Prop) (k : Nat) (env : Env) (ρ : Rho) (ifs : List Expr) (b : Bool) : Prop := Tree prog w G Z k env ρ (tests ifs env) no fun _ _ r => r = b
theorem tests_nil {k env} {ρ : Rho} : TestsS prog w G Z k env ρ [] true := fun A hA X h g dr tk o F => jTests_nil ⟨h, tk, rfl, .refl _ _, rfl⟩
/-- what the clauses bring forth -/
inductive Cl (prog : Program) (w : World) (G : Heap → Prop) (Z : Addr → Prop) (k : Nat) (env : Env) (elt : Expr) : List Comprehension → Rho → List D → Prop
  | emit {ρ d} : EvS prog w G Z k env ρ elt d → Cl prog w G Z k env elt [] ρ [d]
  | clause {x px iter ifs rest ρ d} (outs : Nat → List D) (b : Nat → Bool) : EvS prog w G Z k env ρ iter d → CanIter d → ρ x = none → env.kindOf x = some .local → (∀ v, foldedSetIterable iter env v = pure v) →
      (∀ i e, (items d)[i]? = some e → TestsS prog w G Z k env (upd ρ x e) ifs (b i)) → (∀ i e, (items d)[i]? = some e → b i = true → Cl prog w G Z k env elt rest (upd ρ x e) (outs i)) → (∀ i, b i = false → outs i = []) →
      Cl prog w G Z k env elt (⟨.Name x px, iter, ifs, 0⟩ :: rest) ρ ((List.range (items d).length).flatMap outs)
noncomputable def CD (C a : Addr) : Addr → Prop := fun b => b = C ∨ b = a
noncomputable def StepS (prog : Program) (w : World) (G : Heap → Prop) (Z : Addr → Prop) (k : Nat) (env : Env) (elt : Expr) (gens : List Comprehension) (scope : Scope) (pos : Pos) (a : Addr) (depth : Nat) (ρ : Rho) (out : List D) : Prop :=
  ∀ A, Bud k A → ∀ X h g dr tk o ds, X a → ¬ Mut env a → Fok G Z X h env ρ → Acc h X a ds → ds.length + out.length ≤ 100000 → ∀ Q : Shared → Prop,
    (∀ h' t', Grow (CD env.locals a) h h' → Fok G Z X h' env ρ → Acc h' X a (ds ++ out) → Q ⟨h', g, dr, t', o⟩) →
    match gens[depth]? with
    | none => wpJ (model prog w) A (eval elt env) (fun x s₄ => wpJ (model prog w) A (call (.builtin "list.append") [.ref a, x]) (fun _ => Q) s₄) ⟨h, g, dr, tk, o⟩
    | some g' => g'.is_async = 0 ∧ (∀ x, foldedSetIterable g'.iter env x = pure x) ∧ wpJ (model prog w) A (eval g'.iter env) (fun x s₄ => wpJ (model prog w) A (pyIter x) (fun it' s₅ => codeJ (model prog w) A (.compStart (.ListComp elt gens scope pos) depth it' (.ref a) env) (fun _ => Q) s₅) s₄) ⟨h, g, dr, tk, o⟩
section
variable {k : Nat} {env : Env} {ρ : Rho} {elt : Expr} {gens : List Comprehension} {scope : Scope} {pos : Pos} {a : Addr}
theorem range_pre {α : Type} (outs : Nat → List α) {i n : Nat} (h : i < n) : ((List.range i).flatMap outs).length + (outs i).length ≤ ((List.range n).flatMap outs).length := by
  obtain ⟨m, rfl⟩ : ∃ m, n = (i + 1) + m := ⟨n - (i + 1), by omega⟩
  rw [List.range_add, List.range_succ]
  simp only [List.flatMap_append, List.length_append, List.flatMap_cons, List.flatMap_nil, List.append_nil]
  omega
/-- the loop of one clause, its iterator made -/
theorem comp_loop (W : Glob G Z) {x px iter ifs depth d} {outs : Nat → List D} {b : Nat → Bool} {A : Around} (hA : Bud k A) {X X₁ : Addr → Prop} {h1 h g dr tk o ds fp P St} (hg : gens[depth]? = some ⟨.Name x px, iter, ifs, 0⟩)
    (hx : ρ x = none) (hl : env.kindOf x = some .local) (hf : env.scope.kind = .function)
    (ht : ∀ i e, (items d)[i]? = some e → TestsS prog w G Z k env (upd ρ x e) ifs (b i)) (hc : ∀ i e, (items d)[i]? = some e → b i = true → StepS prog w G Z k env elt gens scope pos a (depth + 1) (upd ρ x e) (outs i)) (hn : ∀ i, b i = false → outs i = [])
    (xa : X a) (ma : ¬ Mut env a) (F : Fok G Z X h env ρ) (ac : Acc h X a ds) (hz : ds.length + ((List.range (items d).length).flatMap outs).length ≤ 100000)
    (T : Started prog w A X₁ h1 d fp P St) (st : St 0 h) (mI : ¬ Mut env h1.objs.size) (xI : ¬ X h1.objs.size) (lowI : ¬ Z h1.objs.size) (lowa : ¬ Z a)
    (ft : ∀ b ∈ fp, b ≠ env.locals ∧ b ≠ a)
    (hr : ∀ e v, Rep h1 X₁ e v → Rep h X e v)
    {Q : Shared → Prop} (q : ∀ h' t', Grow (fun b => CD env.locals a b ∨ b = h1.objs.size) h h' → Fok G Z X h' env ρ → Acc h' X a (ds ++ (List.range (items d).length).flatMap outs) → Q ⟨h', g, dr, t', o⟩) :
    codeJ (model prog w) A (.compLoop (.ListComp elt gens scope pos) depth (.ref h1.objs.size) (.ref a) env) (fun _ => Q) ⟨h, g, dr, tk, o⟩ := by
  have ne1 : h1.objs.size ≠ a := fun e => xI (e ▸ xa)
  have ne2 : h1.objs.size ≠ env.locals := fun e => mI (.inl e)
  have na : a ≠ env.locals := fun e => ma (.inl e)
  -- what turns is no frame's datum
  have bare : ∀ c, (CD env.locals a c ∨ c = h1.objs.size) → X c ∨ ∀ o, h.get? c = some o → Bare o := fun c hc => by
    rcases hc with (hc | hc) | hc
    · exact .inr (Mut.noSeq F (.inl hc))
    · exact .inl (hc ▸ xa)
    · obtain ⟨o', e', b1, _⟩ := T.bare 0 h st
      exact .inr fun o2 e2 => by rw [hc, e'] at e2; cases e2; exact b1
  refine codeJ_compLoop hg (fun n s => ∃ i H tk', i ≤ (items d).length ∧ n = (items d).length - i ∧ s = ⟨H, g, dr, tk', o⟩ ∧ St i H ∧ Fok G Z X H env ρ ∧ Acc H X a (ds ++ (List.range i).flatMap outs) ∧ Grow (fun b => CD env.locals a b ∨ b = h1.objs.size) h H) ?_ (items d).length
    ⟨0, h, tk, Nat.zero_le _, rfl, rfl, st, F, by simpa using ac, .refl _ _⟩
  rintro n s ⟨i, H, tk', hi, rfl, rfl, stH, FH, acH, gH⟩
  have step : ∀ H1, (∀ b o, b ∉ [h1.objs.size] → H.get? b = some o → H1.get? b = some o) → Fok G Z X H1 env ρ ∧ Acc H1 X a (ds ++ (List.range i).flatMap outs) ∧ Grow (fun b => CD env.locals a b ∨ b = h1.objs.size) h H1 := fun H1 kp => by
    have gI : Grow (fun b => b = h1.objs.size) H H1 := ⟨fun b o' nb e => kp b o' (by simpa using nb) e⟩
    obtain ⟨o', e', b1, b2, b3⟩ := T.bare i H stH
    refine ⟨FH.turn W gI (fun b e => e ▸ lowI) (fun b e q => absurd (e ▸ q) xI) (fun b e => ⟨o', e ▸ e', .inr b1, b2, b3⟩), ?_, gH.trans (gI.mono fun b e => .inr e)⟩
    obtain ⟨vs, hv, rv⟩ := acH
    exact ⟨vs, gI.list (fun e => ne1 e.symm) hv, rv.grow gI (fun b e => .inr fun o2 e2 => by rw [e, e'] at e2; cases e2; exact b1) fun _ _ q => q⟩
  by_cases hlt : i < (items d).length
  · refine wpJ.of <| T.walks.item i _ _ _ hlt stH fun v' H1 tk1 hPv stH1 kp => ?_
    obtain ⟨F1', ac1', g1'⟩ := step H1 kp
    obtain ⟨e, he, re⟩ := T.item i v' hPv
    have re' : Rep H1 X e v' := (hr e v' re).grow g1' bare fun _ _ x => x
    obtain ⟨m, nm, hm⟩ := F1'.loc
    refine jAssignName (wpJ.of (wpAny_storeName_local hl nm (fun H2 hn2 hs2 => ?_) (by rw [hf]; rfl)))
    have F2 : Fok G Z X H2 env (upd ρ x e) := F1'.setLocal W hm hn2 hs2 re' hl
    have gC : Grow (fun b => b = env.locals) H1 H2 := .same hs2 rfl
    have bC : ∀ c, c = env.locals → X c ∨ ∀ o, H1.get? c = some o → Bare o := fun c e => .inr (Mut.noSeq F1' (.inl e))
    have ac2 : Acc H2 X a (ds ++ (List.range i).flatMap outs) := by
      obtain ⟨vs, hv, rv⟩ := ac1'
      exact ⟨vs, gC.list na hv, rv.grow gC bC fun _ _ q => q⟩
    have g2' : Grow (fun b => CD env.locals a b ∨ b = h1.objs.size) h H2 := g1'.trans (gC.mono fun b e => .inl (.inl e))
    have stH2 : St (i + 1) H2 := T.walks.frame (i + 1) H1 H2 stH1 fun b hb o' e' => gC.get (ft b hb).1 e' (T.named (i + 1) H1 stH1 b hb o' e')
    refine (ht i e he).use hA F2 fun H3 t3 ok g3 r3 => ?_
    subst r3
    have F3 := F2.le W g3
    have ac3 : Acc H3 X a (ds ++ (List.range i).flatMap outs) := by
      obtain ⟨vs, hv, rv⟩ := ac2
      exact ⟨vs, g3.list (fun q => q) hv, rv.le g3⟩
    have stH3 : St (i + 1) H3 := T.walks.frame (i + 1) H2 H3 stH2 fun b hb o' e' => g3.get (fun q => q) e' (T.named (i + 1) H2 stH2 b hb o' e')
    have hsub : Sub ρ (upd ρ x e) := (Sub.refl ρ).upd hx
    cases hb : b i with
    | false =>
      simp only [Bool.false_eq_true, if_false]
      refine ⟨(items d).length - (i + 1), by omega, i + 1, H3, t3, hlt, rfl, rfl, stH3, F3.sub hsub, ?_, g2'.trans (.any g3)⟩
      rw [List.range_succ, List.flatMap_append]
      simpa [hn i hb] using ac3
    | true =>
      simp only [if_true]
      have hlen := range_pre outs hlt
      refine hc i e he hb A hA X H3 g dr t3 o _ xa ma F3 ac3 (by rw [List.length_append]; omega) _ fun H4 t4 g4 F4 ac4 => ?_
      have stH4 : St (i + 1) H4 := T.walks.frame (i + 1) H3 H4 stH3 fun b hb o' e' => g4.get (fun q => q.elim (ft b hb).1 (ft b hb).2) e' (T.named (i + 1) H3 stH3 b hb o' e')
      refine ⟨(items d).length - (i + 1), by omega, i + 1, H4, t4, hlt, rfl, rfl, stH4, F4.sub hsub, ?_, (g2'.trans (.any g3)).trans (g4.mono fun b q => .inl q)⟩
      rw [List.range_succ, List.flatMap_append]
      simpa [List.append_assoc] using ac4
  · have hi' : i = (items d).length := by omega
    refine wpJ.of <| T.walks.done _ _ _ (hi' ▸ stH) fun H1 tk1 kp => ?_
    obtain ⟨F1', ac1', g1'⟩ := step H1 kp
    exact q H1 tk1 g1' F1' (hi' ▸ ac1')
end
end Mine
end
noncomputable section
open PySem PySem.W PyProof.Rows
set_option Elab.async false
set_option linter.unusedVariables false
set_option maxRecDepth 100000
namespace Mine
variable {prog : Program} {w : World} {G : Heap → Prop} {Z : Addr → Prop}
theorem aeq {a b : Addr} (h : a = b) : @Eq Nat a b := h
theorem ane {a b : Addr} (h : ¬ @Eq Nat a b) : a ≠ b := h
theorem alt {h : Heap} {a : Addr} {o : Obj} (e : h.get? a = some o) : @LT.lt Nat _ a h.objs.size := Heap.lt_size e
theorem Grow.cut {S T : Addr → Prop} {h h1 h' : Heap} (g1 : Le h h1) (g2 : Grow (fun b => S b ∨ T b) h1 h') (hT : ∀ b, T b → ¬ ∃ o, h1.get? b = some o) : Grow S h h' :=
  have g : Grow (fun b => S b ∨ T b) h h' := (Grow.any g1).trans g2
  ⟨fun b o ns e => g.old b o (fun q => q.elim ns fun t => hT b t (g1.alive (fun q => q) ⟨o, e⟩)) e⟩
theorem Grow.fresh {T : Addr → Prop} {h h' : Heap} (g : Grow T h h') (hT : ∀ b, T b → ¬ ∃ o, h.get? b = some o) : Le h h' := Grow.cut (.refl _ _) (g.mono fun _ q => .inr q) hT
theorem Fok.other (W : Glob G Z) {S X h h' env} {ρ : Rho} (F : Fok G Z X h env ρ) (g : Grow S h h') (hlow : ∀ b, S b → ¬ Z b)
    (hS : ∀ b, S b → b ≠ env.locals ∧ ¬ X b ∧ ∃ o, h.get? b = some o ∧ Bare o ∧ ∀ v, o.data ≠ .cell v) : Fok G Z X h' env ρ := by
  have rp : ∀ {d v}, Rep h X d v → Rep h' X d v := fun r => r.grow g (fun b s => by
    obtain ⟨_, _, o, ho, q, _⟩ := hS b s
    exact .inr fun o' ho' => by rw [ho] at ho'; cases ho'; exact q) fun _ _ x => x
  have nc : ∀ {b v}, h.IsCell b v → ¬ S b := fun ⟨o, ho, hd⟩ s => by
    obtain ⟨_, _, o', ho', _, q⟩ := hS _ s
    rw [ho] at ho'; cases ho'
    exact q _ hd
  exact {
    g := W.grow S h h' hlow g F.g
    xs := fun a x => g.alive (fun s => (hS a s).2.1 x) (F.xs a x)
    low := F.low
    loc := let ⟨m, n, q⟩ := F.loc; ⟨m, g.ns (fun s => (hS _ s).1 rfl) n, fun x d e k => let ⟨v, a, r⟩ := q x d e k; ⟨v, a, rp r⟩⟩
    cel := fun x d e k => let ⟨c, v, a, i, r⟩ := F.cel x d e k; ⟨c, v, a, g.cell (nc i) i, rp r⟩
    own := fun x k => let ⟨c, v, a, i, r⟩ := F.own x k; ⟨c, v, a, g.cell (nc i) i, r⟩
    apart := F.apart }
theorem drop_some {α : Type} {l : List α} {n : Nat} {x : α} {r : List α} (h : l.drop n = x :: r) : l[n]? = some x ∧ l.drop (n + 1) = r := by
  constructor
  · rw [← List.head?_drop, h]; rfl
  · rw [← List.drop_drop, h]; rfl
section
variable {k : Nat} {env : Env} {ρ : Rho} {elt : Expr} {gens : List Comprehension} {scope : Scope} {pos : Pos} {a : Addr}
theorem step_of (W : Glob G Z) (hf : env.scope.kind = .function) (lowa : ¬ Z a) {rest : List Comprehension} {out : List D} (H : Cl prog w G Z k env elt rest ρ out) : ∀ depth, gens.drop depth = rest → StepS prog w G Z k env elt gens scope pos a depth ρ out := by
  induction H with
  | @emit ρ d he =>
    intro depth hd A hA X h g dr tk o ds xa ma F ac hz Q q
    have e : gens[depth]? = none := by
      rw [List.getElem?_eq_none_iff]; exact List.drop_eq_nil_iff.mp hd
    rw [e]
    refine he.use hA F fun h1 t1 v g1 r1 => ?_
    obtain ⟨vs, hv, rv⟩ := ac
    have hv1 := g1.list (fun q => q) hv
    refine wpJ.of (wpAny_list_append hv1 (fun h2 hl2 hs2 => ?_) (by have := rv.length; simp only [List.size_toArray, sizeLine]; omega))
    have g2 : Grow (fun c => c = a) h1 h2 := .same hs2 rfl
    have F1 := F.le W g1
    obtain ⟨oa, hoa, _, n, hda⟩ := id hv1
    refine q h2 t1 ((Grow.any g1).trans (g2.mono fun _ => .inr)) (F1.turn W g2 (fun c e => e ▸ lowa) (fun c e _ => let ⟨o2, e2, _⟩ := hl2; ⟨o2, e ▸ e2⟩) fun c e => ⟨oa, e ▸ hoa, .inl (e ▸ xa), (fun _ _ q => by rw [hda] at q; cases q), (fun _ q => by rw [hda] at q; cases q)⟩) ⟨vs ++ [v], by simpa using hl2, ?_⟩
    exact ((rv.le g1).append (show Reps h1 X [d] [v] from ⟨v, [], rfl, r1, rfl⟩)).grow g2 (fun c e => .inl (e ▸ xa)) fun _ _ q => q
  | @clause x px iter ifs rest ρ d outs b he hc hx hl hs ht hcl hn ih =>
    intro depth hd A hA X h g dr tk o ds xa ma F ac hz Q q
    obtain ⟨hg, hd'⟩ := drop_some hd
    rw [hg]
    refine ⟨rfl, hs, he.use hA F fun h1 t1 v g1 r1 => ?_⟩
    have F1 := F.le W g1
    refine wpJ.of (start_iter hA.handled hc r1 fun fp P St ob T st => ?_)
    have nI : ¬ ∃ o, h1.get? h1.objs.size = some o := fun ⟨_, e⟩ => Nat.lt_irrefl _ (Heap.lt_size e)
    have mI : ¬ Mut env h1.objs.size := fun m => let ⟨o', e, _⟩ := Mut.kind F1 m; nI ⟨o', e⟩
    have xI : ¬ X h1.objs.size := fun q => nI (F1.xs _ q)
    have ac2 : Acc (h1.push ob) X a ds := let ⟨vs, hv, rv⟩ := ac; ⟨vs, (g1.trans (.push _ _)).list (fun q => q) hv, rv.le (g1.trans (.push _ _))⟩
    have loop := comp_loop (elt := elt) (scope := scope) (pos := pos) (tk := t1) (g := g) (dr := dr) (o := o) (Q := Q) W hA hg hx hl hf ht (fun i e he hb => ih i e he hb (depth + 1) hd') hn xa ma (F1.le W (.push _ _)) ac2 hz T st mI xI (W.fresh h1 F1.g _ (Nat.le_refl _)) lowa
      (fun b hb => by
        rcases T.feet b hb with rfl | ⟨⟨o', e, xs, n, hdo⟩, hnx⟩
        · exact ⟨fun e => mI (.inl e), fun e => xI (e ▸ xa)⟩
        · refine ⟨fun q => ?_, fun q => hnx (q ▸ xa)⟩
          obtain ⟨o2, e2, k2⟩ := Mut.kind F1 (.inl q : Mut env b)
          rw [e] at e2; cases e2
          rcases k2 with ⟨_, _, k2⟩ | ⟨_, k2⟩ <;> (rw [hdo] at k2; cases k2))
      (fun e v r => r.le (.push _ _))
      (fun h' t' gr F' ac' => q h' t' (Grow.cut (g1) ((Grow.any (.push h1 ob)).trans gr) fun b e => e ▸ nI) F' ac')
    exact codeJ_compStart hg rfl loop (wpJ.of (T.walks.self 0 _ _ _ st loop))
/-- everything bound -/
noncomputable def All (ρ : Rho) (P : Str → D → Prop) : Prop := ∀ y e, ρ y = some e → P y e
theorem All.nil {P : Str → D → Prop} : All Mine.nil P := fun y e q => by cases q
theorem All.upd {P : Str → D → Prop} {ρ : Rho} (r : All ρ P) {x d} (h : P x d) : All (upd ρ x d) P := fun y e q => by
  unfold Mine.upd at q
  by_cases hy : y = x
  · rw [if_pos hy] at q; cases q; exact hy ▸ h
  · rw [if_neg hy] at q; exact r y e q
noncomputable def Subs (env : Env) : List (Str × Addr) → Prop
  | [] => True
  | p :: r => env.cells.lookup p.1 = some p.2 ∧ Subs env r
theorem Subs.get {env : Env} : ∀ {cl : List (Str × Addr)} {x c}, Subs env cl → cl.lookup x = some c → env.cells.lookup x = some c
  | [], _, _, _, e => by cases e
  | p :: r, x, c, h, e => by
    obtain ⟨n, v⟩ := p
    rw [List.lookup_cons] at e
    cases hq : x == n with
    | true => rw [hq] at e; cases e; have := eq_of_beq hq; subst this; exact h.1
    | false => rw [hq] at e; exact Subs.get h.2 e
noncomputable def Agree (cl : List (Str × Addr)) (env : Env) : List (Str × NameKind) → Prop
  | [] => True
  | p :: r => (p.2 = .free → cl.lookup p.1 = env.cells.lookup p.1) ∧ Agree cl env r
theorem Agree.get {cl : List (Str × Addr)} {env : Env} : ∀ {l : List (Str × NameKind)} {x}, Agree cl env l → (x, NameKind.free) ∈ l → cl.lookup x = env.cells.lookup x
  | p :: r, x, h, m => by
    rcases List.mem_cons.mp m with rfl | m
    · exact h.1 rfl
    · exact Agree.get h.2 m
theorem relabel_cell {env : Env} : ∀ {names : List (Str × NameKind)} {x : Str}, (∀ y ∈ names, y.2 ≠ .cell) →
    (names.map fun (n, k) => if (k == NameKind.free && env.scope.kind == .function && env.kindOf n == some .cell) then (n, NameKind.cell) else (n, k)).lookup x = some .cell → (x, NameKind.free) ∈ names ∧ env.kindOf x = some .cell
  | [], _, _, h => by simp at h
  | (n, k) :: r, x, hc, h => by
    have ih := @relabel_cell env r x (fun y hy => hc y (List.mem_cons_of_mem _ hy))
    change List.lookup x ((if (k == NameKind.free && env.scope.kind == .function && env.kindOf n == some .cell) = true then (n, NameKind.cell) else (n, k)) :: _) = _ at h
    by_cases hq : (k == NameKind.free && env.scope.kind == .function && env.kindOf n == some .cell) = true
    · rw [if_pos hq] at h
      rw [List.lookup_cons] at h
      cases hx : x == n with
      | true =>
        have := eq_of_beq hx; subst this
        simp only [Bool.and_eq_true] at hq
        exact ⟨by rw [eq_of_beq hq.1.1]; exact List.mem_cons_self, eq_of_beq hq.2⟩
      | false => rw [hx] at h; exact ⟨List.mem_cons_of_mem _ (ih h).1, (ih h).2⟩
    · rw [if_neg hq] at h
      rw [List.lookup_cons] at h
      cases hx : x == n with
      | true => rw [hx] at h; cases h; exact absurd rfl (hc (n, .cell) List.mem_cons_self)
      | false => rw [hx] at h; exact ⟨List.mem_cons_of_mem _ (ih h).1, (ih h).2⟩
/-- what must be known of the scope of a comprehension -/
structure CompOk (scope : Scope) (cl : List (Str × Addr)) (env : Env) (ρ ρc : Rho) : Prop where
  clos : closureFor scope env = pure cl
  cell : ∀ y ∈ scope.names, y.2 ≠ .cell
  kind : scope.kind = .function
  names : ∀ y ∈ scope.names, y.2 = .local → scope.names.lookup y.1 = some .local
  subs : Subs env cl
  agree : Agree cl env scope.names
  all : All ρc fun y e => ρ y = some e ∧ env.kindOf y ≠ some .local ∧ (relabel scope env).names.lookup y ≠ some .local ∧ (cl.lookup y).isSome = true
theorem comp_frame (W : Glob G Z) {cl : List (Str × Addr)} {X X' : Addr → Prop} {h h' C} {ρc : Rho} (K : CompOk scope cl env ρ ρc) (F : Fok G Z X h env ρ) (g : Le h h') (hX : ∀ b, b < h.objs.size → X' b → X b) (xs : Alive X' h') (low : ¬ Z C) {m} (hn : h'.Ns C m) :
    Fok G Z X' h' (compEnvC scope cl C env) ρc where
  g := W.grow no h h' (fun _ x => x.elim) g F.g
  xs := xs
  low := low
  loc := ⟨m, hn, fun x d e kx => absurd kx (K.all x d e).2.2.1⟩
  cel := fun x d e kx => by
    obtain ⟨e1, k1, _, s1⟩ := K.all x d e
    obtain ⟨c, hc⟩ := Option.isSome_iff_exists.mp s1
    obtain ⟨c', v, a, i, r⟩ := F.cel x d e1 k1
    have hh := K.subs.get hc
    rw [a] at hh; cases hh
    exact ⟨c, v, hc, g.cell (fun q => q) i, r.grow g (fun _ q => q.elim) hX⟩
  own := fun x kx => by
    obtain ⟨m1, m2⟩ := relabel_cell K.cell kx
    obtain ⟨c, ov, a, i, l⟩ := F.own x m2
    exact ⟨c, ov, (K.agree.get m1).trans a, g.cell (fun q => q) i, l⟩
  apart := fun x y c hx hy => F.apart x y c (K.subs.get hx) (K.subs.get hy)
theorem comp_mut {cl : List (Str × Addr)} {C : Addr} {ρc : Rho} (K : CompOk scope cl env ρ ρc) {b : Addr} (m : Mut (compEnvC scope cl C env) b) : b = C ∨ Mut env b := by
  rcases m with m | ⟨x, kx, hx⟩
  · exact .inl m
  · exact .inr (.inr ⟨x, (relabel_cell K.cell kx).2, K.subs.get hx⟩)
/-- the run of a comprehension, until its list is made -/
theorem comp_run (W : Glob G Z) {x px iter ifs rest d cl} {ρc : Rho} {outs : Nat → List D} {b : Nat → Bool} (K : CompOk scope cl env ρ ρc) (h₁ : EvS prog w G Z k env ρ iter d) (hc : CanIter d)
    (hx : ρc x = none) (hl : (relabel scope env).names.lookup x = some .local)
    (ht : ∀ C i e, (items d)[i]? = some e → TestsS prog w G Z k (compEnvC scope cl C env) (upd ρc x e) ifs (b i)) (hcl : ∀ C i e, (items d)[i]? = some e → b i = true → Cl prog w G Z k (compEnvC scope cl C env) elt rest (upd ρc x e) (outs i)) (hn : ∀ i, b i = false → outs i = [])
    (hz : ((List.range (items d).length).flatMap outs).length ≤ 100000)
    (hs : ∀ v, foldedSetIterable iter env v = pure v) {use : Option (Value → Sem Unit)} {cpos : Pos} {A : Around} (hA : Bud k A) {X h g dr tk o} (F : Fok G Z X h env ρ) {Q : Value → Shared → Prop}
    (q : ∀ a C h' t', Le h h' → ¬ Z C → ¬ X a → ¬ X C → a ≠ C → (¬ ∃ o', h.get? C = some o') → C ≠ env.locals → ¬ Mut env C → Rep h' X (.lst ((List.range (items d).length).flatMap outs)) (.ref a) → (∃ m, h'.Ns C m) → (∀ h'', Heap.SameBut C h' h'' → Le h h'') → compPostJ (model prog w) A use Q (.ref a) C ⟨h', g, dr, t', o⟩) :
    wpJ (model prog w) A (comprehension (.ListComp elt (⟨.Name x px, iter, ifs, 0⟩ :: rest) scope pos) scope env cpos (newList []) false (eval iter env) use) Q ⟨h, g, dr, tk, o⟩ := by
  refine jComprehension rfl rfl hs K.clos K.kind K.names (h₁.use hA F fun h1 t1 v g1 r1 => wpJ.of (start_iter hA.handled hc r1 fun fp P St ob T st => ?_))
  have F1 := F.le W g1
  have lowI := W.fresh h1 F1.g _ (Nat.le_refl _)
  refine wpJ.of (wpAny_newObj_type ?_ (by size_fits))
  refine wpJ.of (wpAny_newFunctionEnv K.cell (by intro y hy; simp at hy) (fun h4 hns hsb => ?_) K.kind)
  dsimp only at hns hsb ⊢
  generalize hH3 : (h1.push ob).push { cls := .type "list", dict := none, data := .seq ([] : List Value).toArray } = H3 at hns hsb ⊢
  have sI : (h1.push ob).objs.size = h1.objs.size + 1 := Heap.size_push _ _
  have sC : H3.objs.size = h1.objs.size + 2 := by rw [← hH3, Heap.size_push, sI]
  rw [sI]
  have old : ∀ c o', c ≠ H3.objs.size → H3.get? c = some o' → h4.get? c = some o' := fun c o' hne e => hsb.extBut c o' hne (Heap.get?_push_of_some _ e)
  have g14 : Le h1 h4 := .keeps fun c o' e => old c o' (ane (by have := alt e; omega)) (hH3 ▸ Heap.get?_push_of_some _ (Heap.get?_push_of_some _ e))
  have hD : h4.get? (h1.objs.size + 1) = some { cls := .type "list", dict := none, data := .seq ([] : List Value).toArray } := old _ _ (ane (by omega)) (by rw [← hH3, ← sI]; exact Heap.get?_push_size _ rfl)
  have new : ∀ c, h1.objs.size ≤ c → ¬ ∃ o', h1.get? c = some o' := fun c hle ⟨o', e⟩ => by have := alt e; omega
  have F4 : Fok G Z (fun c => X c ∨ c = h1.objs.size + 1) h4 (compEnvC scope cl H3.objs.size env) ρc := comp_frame W K F1 g14 (fun c hlt q => q.elim id fun q => by have := aeq q; omega)
    (fun c q => q.elim (fun q => (F1.xs.le g14) c q) fun q => ⟨_, q ▸ hD⟩) (W.fresh h1 F1.g _ (by omega)) hns
  have mN : ∀ c, h1.objs.size ≤ c → c ≠ H3.objs.size → ¬ Mut (compEnvC scope cl H3.objs.size env) c := fun c hle hne m => by
    rcases comp_mut K m with m | m
    · exact hne m
    · obtain ⟨o', e, _⟩ := Mut.kind F1 m; exact new c hle ⟨o', e⟩
  have st4 : St 0 h4 := T.walks.frame 0 _ _ st fun c hb o' e => old c o' (ane (by
    rcases T.feet c hb with rfl | ⟨⟨o2, e2, _⟩, _⟩
    · omega
    · have := alt e2; omega)) (hH3 ▸ Heap.get?_push_of_some _ e)
  have xN : ∀ c, h1.objs.size ≤ c → ¬ X c := fun c hle q => new c hle (F1.xs c q)
  have loop := comp_loop (elt := elt) (scope := scope) (pos := pos) (gens := ⟨.Name x px, iter, ifs, 0⟩ :: rest) (depth := 0) (env := compEnvC scope cl H3.objs.size env) (tk := t1 + ([] : List (Str × Value)).length) (g := g) (dr := dr) (o := o) (ds := [])
    (Q := fun s' => compPostJ (model prog w) A use Q (.ref (h1.objs.size + 1)) H3.objs.size s') (a := h1.objs.size + 1) W hA rfl hx hl K.kind (ht _)
    (fun i e he hb => step_of W K.kind (W.fresh h1 F1.g _ (by omega)) (hcl _ i e he hb) 1 rfl) hn (.inr rfl) (mN _ (by omega) (ane (by omega))) F4 ⟨[], ⟨_, hD, rfl, _, rfl⟩, rfl⟩ (by simpa using hz) T st4 (mN _ (Nat.le_refl _) (ane (by omega)))
    (fun q => q.elim (xN _ (Nat.le_refl _)) fun q => by have := aeq q; omega) lowI (W.fresh h1 F1.g _ (by omega))
    (fun c hb => by
      show c ≠ H3.objs.size ∧ _
      rcases T.feet c hb with rfl | ⟨⟨o2, e2, _⟩, _⟩
      · exact ⟨ane (by omega), ane (by omega)⟩
      · have := alt e2; exact ⟨ane (by omega), ane (by omega)⟩)
    (fun e v r => r.grow g14 (fun _ q => q.elim) fun c hlt q => q.elim id fun q => by have := aeq q; omega)
    (fun h' t' gr F' ac' => by
      have gl : ∀ h'', Grow (fun c => h1.objs.size ≤ c) h4 h'' → Le h h'' := fun h'' g'' => g1.trans (Grow.fresh ((Grow.any g14).trans g'') new)
      have gr' : Grow (fun c => h1.objs.size ≤ c) h4 h' := gr.mono fun c q => by
        rcases q with (q | q) | q
        · have : @Eq Nat c H3.objs.size := q; omega
        · have := aeq q; omega
        · have := aeq q; omega
      obtain ⟨vs, hv, rv⟩ := ac'
      obtain ⟨m', hm', _⟩ := F'.loc
      refine q (h1.objs.size + 1) H3.objs.size h' t' (gl h' gr') (W.fresh h1 F1.g _ (by omega)) (xN _ (by omega)) (xN _ (by omega)) (ane (by omega)) (fun ⟨o', e⟩ => new H3.objs.size (by omega) (g1.alive (fun q => q) ⟨o', e⟩)) (fun e => new H3.objs.size (by omega) (e ▸ let ⟨_, ⟨o', _, _, e', _⟩, _⟩ := F1.loc; ⟨o', e'⟩))
        (fun m => let ⟨o', e, _⟩ := Mut.kind F1 m; new H3.objs.size (by omega) ⟨o', e⟩) ⟨_, vs, rfl, xN _ (by omega), hv, ?_⟩ ⟨m', hm'⟩ (fun h'' hs'' => gl h'' (gr'.trans ((Grow.same hs'' rfl : Grow (fun c => c = H3.objs.size) h' h'').mono fun c e => by have := aeq e; omega)))
      have rv' : Reps h' (fun c => X c ∨ c = h1.objs.size + 1) ((List.range (items d).length).flatMap outs) vs := by simpa using rv
      exact rv'.grow (.refl no _) (fun _ q => q.elim) fun _ _ q => .inl q)
  exact codeJ_compStart rfl rfl loop (wpJ.of (T.walks.self 0 _ _ _ st4 loop))
theorem ev_comp (W : Glob G Z) {x px iter ifs rest d cl out} {ρc : Rho} {outs : Nat → List D} {b : Nat → Bool} (K : CompOk scope cl env ρ ρc) (h₁ : EvS prog w G Z k env ρ iter d) (hc : CanIter d) (hout : (List.range (items d).length).flatMap outs = out) (hz : out.length ≤ 100000)
    (hx : ρc x = none) (hl : (relabel scope env).names.lookup x = some .local)
    (ht : ∀ C i e, (items d)[i]? = some e → TestsS prog w G Z k (compEnvC scope cl C env) (upd ρc x e) ifs (b i)) (hcl : ∀ C i e, (items d)[i]? = some e → b i = true → Cl prog w G Z k (compEnvC scope cl C env) elt rest (upd ρc x e) (outs i)) (hn : ∀ i, b i = false → outs i = [])
    (hs : ∀ v, foldedSetIterable iter env v = pure v := by intro _; rfl) : EvS prog w G Z k env ρ (.ListComp elt (⟨.Name x px, iter, ifs, 0⟩ :: rest) scope pos) (.lst out) := by
  subst hout
  intro A hA X h g dr tk o F
  rw [eval_ListComp]
  refine comp_run W K h₁ hc hx hl ht hcl hn hz hs hA F fun a C h' t' gl lC xa xC ne fr nl mC r hm hq => ?_
  obtain ⟨m, hm⟩ := hm
  refine ⟨m, hm, fun h'' hs'' => ⟨h'', t', rfl, hq h'' hs'', ?_⟩⟩
  obtain ⟨o', es, ep, ho', hd', _⟩ := hm
  exact r.grow (.same hs'' rfl : Grow (fun c => c = C) h' h'') (fun c e => .inr fun o2 e2 => by rw [e, ho'] at e2; cases e2; exact .dict hd') fun _ _ q => q
end
end Mine
end
noncomputable section
open PySem PySem.W PyProof.Rows
set_option Elab.async false
set_option linter.unusedVariables false
set_option maxRecDepth 100000
namespace Mine
variable {prog : Program} {w : World} {G : Heap → Prop} {Z : Addr → Prop}
section
variable {k : Nat} {env : Env} {ρ : Rho}
theorem test_or (W : Glob G Z) {x y pos b c} (h₁ : TestS prog w G Z k env ρ x b) (h₂ : b = false → TestS prog w G Z k env ρ y c) : TestS prog w G Z k env ρ (.BoolOp .Or [x, y] pos) (b || c) := by
  intro A hA X h g dr tk o F
  rw [arm_isTrue_BoolOp]
  unfold allTrue
  refine wpJ_bind (h₁.use hA F fun h' t' v g₁ r₁ => ?_)
  subst r₁
  cases v with
  | true => exact wpJ_pure ⟨h', t', rfl, g₁, rfl⟩
  | false =>
    show wpJ _ A (allTrue .Or [y] env) _ _
    unfold allTrue
    refine wpJ_bind ((h₂ rfl).use hA (F.le W g₁) fun h3 t3 v3 g₃ r₃ => ?_)
    subst r₃
    cases v3 with
    | true => exact wpJ_pure ⟨h3, t3, rfl, g₁.trans g₃, rfl⟩
    | false => exact wpJ_pure ⟨h3, t3, rfl, g₁.trans g₃, rfl⟩
theorem test_and (W : Glob G Z) {x y pos b c} (h₁ : TestS prog w G Z k env ρ x b) (h₂ : b = true → TestS prog w G Z k env ρ y c) : TestS prog w G Z k env ρ (.BoolOp .And [x, y] pos) (b && c) := by
  intro A hA X h g dr tk o F
  rw [arm_isTrue_BoolOp]
  unfold allTrue
  refine wpJ_bind (h₁.use hA F fun h' t' v g₁ r₁ => ?_)
  subst r₁
  cases v with
  | false => exact wpJ_pure ⟨h', t', rfl, g₁, rfl⟩
  | true =>
    show wpJ _ A (allTrue .And [y] env) _ _
    unfold allTrue
    refine wpJ_bind ((h₂ rfl).use hA (F.le W g₁) fun h3 t3 v3 g₃ r₃ => ?_)
    subst r₃
    cases v3 with
    | true => exact wpJ_pure ⟨h3, t3, rfl, g₁.trans g₃, rfl⟩
    | false => exact wpJ_pure ⟨h3, t3, rfl, g₁.trans g₃, rfl⟩
/-- x = [.. for ..]: the store comes ahead of the letting go -/
theorem ex_comp (W : Glob G Z) {elt scope pos x px iter ifs rest d cl out y py spos} {ρc : Rho} {outs : Nat → List D} {b : Nat → Bool} (K : CompOk scope cl env ρ ρc) (h₁ : EvS prog w G Z k env ρ iter d) (hc : CanIter d) (hout : (List.range (items d).length).flatMap outs = out) (hz : out.length ≤ 100000)
    (hx : ρc x = none) (hl : (relabel scope env).names.lookup x = some .local)
    (ht : ∀ C i e, (items d)[i]? = some e → TestsS prog w G Z k (compEnvC scope cl C env) (upd ρc x e) ifs (b i)) (hcl : ∀ C i e, (items d)[i]? = some e → b i = true → Cl prog w G Z k (compEnvC scope cl C env) elt rest (upd ρc x e) (outs i)) (hn : ∀ i, b i = false → outs i = [])
    (hy : env.kindOf y = some .local := by rfl) (hf : env.scope.kind = .function := by rfl)
    (hsw : swapsWith (.ListComp elt (⟨.Name x px, iter, ifs, 0⟩ :: rest) scope pos) (some (.Name y py)) spos.line env = pure true := by rfl)
    (hs : ∀ v, foldedSetIterable iter env v = pure v := by intro _; rfl) : ExS prog w G Z k env ρ (.Assign [.Name y py] (.ListComp elt (⟨.Name x px, iter, ifs, 0⟩ :: rest) scope pos) spos) .next (upd ρ y (.lst out)) := by
  subst hout
  intro A hA X h g dr tk o F
  rw [exec_Assign_Name_used _ _ _ _ hsw]
  refine wpJ_at (wpJ_bind ?_)
  show wpJ _ A (do let _ ← comprehension (.ListComp elt (⟨.Name x px, iter, ifs, 0⟩ :: rest) scope pos) scope env _ (newList []) false (eval iter env) (some (assign (.Name y py) env))) _ _
  refine wpJ_bind (wpJ_mono (Q := fun _ s' => Post g dr o (Mut env) h (fun h r => Fl.Is X h .next r ∧ Fok G Z X h env (upd ρ y (.lst ((List.range (items d).length).flatMap outs)))) .next s') (comp_run W K h₁ hc hx hl ht hcl hn hz hs hA F fun a C h' t' gl lC xa xC ne fr nl mC r hm hq => ?_) fun _ s' q => wpJ_pure (wpJ_pure q))
  obtain ⟨m, hm⟩ := hm
  show wpJ _ A (assign (.Name y py) env (.ref a)) _ _
  have F1 := F.le W gl
  refine jAssignName (store_S W (.inl hy) hf F1 r fun h2 t2 g2 F2 => ?_)
  have hm2 := g2.ns mC hm
  refine ⟨m, hm2, fun h3 hs3 => ?_⟩
  obtain ⟨o', es, ep, ho', hd', _⟩ := hm2
  have g3 : Grow (fun c => c = C) h2 h3 := .same hs3 rfl
  refine ⟨h3, t2, rfl, ?_, rfl, F2.other W g3 (fun c e => e ▸ lC) fun c e => ⟨e ▸ nl, e ▸ xC, o', e ▸ ho', .dict hd', fun v q => by rw [hd'] at q; cases q⟩⟩
  exact Grow.cut (.refl no h) (((Grow.any gl).trans (g2.mono fun _ => .inl)).trans (g3.mono fun _ => .inr)) fun c e => e ▸ fr
end
end Mine
end
noncomputable section
open PySem PySem.W PyProof.Rows
set_option Elab.async false
set_option linter.unusedVariables false
set_option maxRecDepth 100000
namespace Mine
variable {prog : Program} {w : World} {G : Heap → Prop} {Z : Addr → Prop}
/-- from here on all that is there stays as it is, but for E -/
theorem Glob.freeze (W : Glob G Z) (E : Addr → Prop) (h : Heap) : Glob (fun h' => G h' ∧ Grow E h h') (fun b => Z b ∨ ((∃ o, h.get? b = some o) ∧ ¬ E b)) where
  grow := fun S h' h'' hS g ⟨hg, g'⟩ => by
    refine ⟨W.grow S h' h'' (fun a s z => hS a s (.inl z)) g hg, ⟨fun b o ne e => ?_⟩⟩
    have nS : ¬ S b := fun s => hS b s (.inr ⟨⟨o, e⟩, ne⟩)
    exact g.old b o nS (g'.old b o ne e)
  lim := fun h' g => W.lim h' g.1
  fresh := fun h' ⟨hg, g'⟩ a hle q => q.elim (W.fresh h' hg a hle) fun ⟨al, ne⟩ => by
    obtain ⟨o, e⟩ := g'.alive ne al
    have := alt e; omega
section
variable {A : Around} {s : Shared} {env : Env}
theorem codeJ_expr {e : Expr} {Q : Flow → Shared → Prop} (h : wpJ (model prog w) (A.deeper env) (eval e env) (fun v s' => Q (.ret v) s') s) : codeJ (model prog w) A (.expr e env) Q s := by
  refine codeJ_of_tree ?_
  show wpJ _ (A.deeper env) (do point; ret (← (eval e env).onRaise (leaving env))) _ s
  exact wpJ_bind (wpJ.of (wpAny_point (wpJ_bind (wpJ_onRaise (wpJ_mono h fun v s' h' => wpJ_pure h')))))
/-- the frame of a call with a closure and no cells of its own -/
noncomputable abbrev cloEnv (fd : FuncData) (L a : Addr) : Env := newEnv fd.scope L fd.globals fd.closure (fd.qualname ++ ".<locals>.") (some a) fd.code none fd.builtins
theorem codeJ_call_clo {Q : Flow → Shared → Prop} {a : Addr} {o : Obj} {fd : FuncData} {vals : List Value} {binds : List (Str × Value)}
    (hroom : A.depth < recursionLimit) (ho : s.heap.get? a = some o) (hdata : o.data = .func fd) (hlim : s.heap.NoLimit) (hcd : s.heap.CodeRec fd.code fd.qualname)
    (hbind : wpAny (model prog w) A.in1 (bindArgs fd ⟨vals, []⟩) (fun b s' => b = binds ∧ s' = s) noE s) (hcell : ∀ x ∈ fd.scope.names, x.2 ≠ .cell) (hl : ∀ x ∈ binds, fd.scope.names.lookup x.1 = some .local)
    (h : ∀ h', h'.Ns s.heap.objs.size (fun x => binds.reverse.lookup x) → Le s.heap h' → codeJ (model prog w) A (match fd.body with | .stmts b => .func b (cloEnv fd s.heap.objs.size a) | .expr e => .expr e (cloEnv fd s.heap.objs.size a)) Q { s with heap := h', toks := s.toks + binds.length })
    (hco : fd.scope.isCoroutine = false) (hgen : fd.scope.isGenerator = false) (hk : fd.scope.kind = .function) :
    codeJ (model prog w) A (.call (.ref a) ⟨vals, []⟩) Q s := by
  refine codeJ_of_tree ?_
  show wpJ _ A.in1 (callAny (.ref a) ⟨vals, []⟩) _ s
  simp only [callAny]
  refine wpJ_bind (wpJ.of (wpAny_load ho ?_))
  obtain ⟨c, oc, vs, tq, hc, hoc, hdc, hq⟩ := hcd
  simp only [hdata, callFunction, hco, hgen]
  unfold cloEnv at h
  rw [hc] at h ⊢
  refine wpJ_bind (m := field (.ref c) 1) (wpJ.of (wpAny_field hoc hdc hq (wpJ_bind (wpJ_pure ?_))))
  refine wpJ_bind (wpJ_mono (wpJ.of hbind) fun b s' hb => ?_)
  obtain ⟨rfl, rfl⟩ := hb
  refine wpJ_bind (wpJ.of (wpAny_newFunctionEnv hcell hl (fun h' hn hs => ?_) hk))
  have g : Le s'.heap h' := .keeps fun b o e => hs.extBut b o (Nat.ne_of_lt (Heap.lt_size e)) (Heap.get?_push_of_some _ e)
  refine wpJ_bind (wpJ.of (wpAny_enterFrame (hlim.keeps fun b o e => hs.extBut b o (Nat.ne_of_lt (Heap.lt_size e)) (Heap.get?_push_of_some _ e)) hroom (wpJ_pure ⟨?_, ?_, h h' hn g⟩)))
  · cases fd.body <;> rfl
  · cases fd.body <;> rfl
end
theorem bind_rev {h : Heap} {X : Addr → Prop} {P : Str → Prop} : ∀ (xs : List Str) (ds : List D) (vs : List Value), Reps h X ds vs → ∀ (acc : List (Str × Value)) (ρ : Rho), (∀ y e, ρ y = some e → P y → ∃ v, acc.lookup y = some v ∧ Rep h X e v) →
    ∀ y e, bindR xs ds ρ y = some e → P y → ∃ v, ((xs.zip vs).reverse ++ acc).lookup y = some v ∧ Rep h X e v
  | [], _, _, _, acc, ρ, q => by intro y e he; simpa [bindR] using q y e he
  | _ :: _, [], vs, r, acc, ρ, q => by cases r; intro y e he; simpa [bindR] using q y e he
  | x :: xs, d :: ds, _, ⟨v, vs, rfl, r, rs⟩, acc, ρ, q => by
    intro y e he py
    have := bind_rev (P := P) xs ds vs rs ((x, v) :: acc) (upd ρ x d) (fun y e hy py => by
      unfold upd at hy
      by_cases hx : y = x
      · rw [if_pos hx] at hy; cases hy; exact ⟨v, by rw [List.lookup_cons, hx]; simp, r⟩
      · rw [if_neg hx] at hy
        obtain ⟨v', h1, h2⟩ := q y e hy py
        exact ⟨v', by rw [List.lookup_cons, beq_false_of_ne hx]; exact h1, h2⟩) y e he py
    simpa using this
theorem bindR_out : ∀ (xs : List Str) (ds : List D) (ρ : Rho) (y : Str), y ∉ xs → bindR xs ds ρ y = ρ y
  | [], _, _, _, _ => by simp [bindR]
  | _ :: _, [], _, _, _ => by simp [bindR]
  | x :: xs, d :: ds, ρ, y, h => by
    simp only [List.mem_cons, not_or] at h
    rw [bindR, bindR_out xs ds _ y h.2]
    unfold upd; rw [if_neg h.1]
/-- a function with a closure: frees in ρ₀ -/
structure Clo (G : Heap → Prop) (a : Addr) (fd : FuncData) (ρ₀ : Rho) : Prop where
  obj : ∀ h, G h → ∃ o, h.get? a = some o ∧ o.data = .func fd ∧ h.CodeRec fd.code fd.qualname
  frees : ∀ y d, ρ₀ y = some d → fd.scope.names.lookup y ≠ some .local ∧ ∃ c, fd.closure.lookup y = some c ∧ ∀ h X, G h → Alive X h → ∃ v, h.IsCell c (some v) ∧ Rep h X d v
  apart : ∀ x y c, fd.closure.lookup x = some c → fd.closure.lookup y = some c → x = y
theorem lookup_cell_none : ∀ {l : List (Str × NameKind)} {x : Str}, (∀ y ∈ l, y.2 ≠ .cell) → l.lookup x ≠ some .cell
  | [], _, _ => nofun
  | (n, k) :: r, x, h => by
    rw [List.lookup_cons]
    cases hx : x == n with
    | true => intro q; cases q; exact h (n, .cell) List.mem_cons_self rfl
    | false => exact lookup_cell_none fun y hy => h y (List.mem_cons_of_mem _ hy)
theorem call_clo (W : Glob G Z) {a : Addr} {fd : FuncData} {names : List Str} {ds : List D} {d : D} {k : Nat} {ρ₀ : Rho} (C : Clo G a fd ρ₀)
    (hbind : ∀ A s (vs : List Value), G s.heap → vs.length = ds.length → wpAny (model prog w) A (bindArgs fd ⟨vs, []⟩) (fun b s' => b = names.zip vs ∧ s' = s) noE s)
    (hloc : ∀ x ∈ names, fd.scope.names.lookup x = some .local) (hcell : ∀ x ∈ fd.scope.names, x.2 ≠ .cell)
    (H : ∀ L, ¬ Z L → match fd.body with
      | .stmts b => ∃ ρ', ExsS prog w G Z k (cloEnv fd L a) (bindR names ds ρ₀) b (.ret d) ρ'
      | .expr e => EvS prog w G Z k (cloEnv fd L a) (bindR names ds ρ₀) e d)
    (hco : fd.scope.isCoroutine = false := by rfl) (hgen : fd.scope.isGenerator = false := by rfl) (hk : fd.scope.kind = .function := by rfl) : CallS prog w G (k + 1) (.ref a) ds d := by
  intro A hA X h g dr tk o vs hg hx r
  obtain ⟨ob, ho, hd, hcr⟩ := C.obj h hg
  refine wpJ_call (codeJ_call_clo (binds := names.zip vs) hA.lt ho hd (W.lim h hg) hcr (hbind _ _ vs hg r.length) hcell (fun x hm => hloc x.1 (List.of_mem_zip hm).1) (fun h' hn gr => ?_) hco hgen hk)
  have hg' := W.grow no h h' (fun _ x => x.elim) gr hg
  have kL : ∀ y, (cloEnv fd h.objs.size a).kindOf y = fd.scope.names.lookup y := fun y => rfl
  have F : Fok G Z X h' (cloEnv fd h.objs.size a) (bindR names ds ρ₀) := by
    refine ⟨hg', hx.le gr, W.fresh h hg _ (Nat.le_refl _), ⟨_, hn, fun y e he ky => ?_⟩, fun y e he ky => ?_, fun y ky => ?_, C.apart⟩
    · have := bind_rev (h := h') (X := X) (P := fun y => fd.scope.names.lookup y = some .local) names ds vs (r.le gr) [] ρ₀ (fun y e hy ky => absurd ky (C.frees y e hy).1) y e he ky
      simpa using this
    · have : y ∉ names := fun m => ky (hloc y m)
      rw [bindR_out names ds ρ₀ y this] at he
      obtain ⟨_, c, hc, hv⟩ := C.frees y e he
      obtain ⟨v, hi, rv⟩ := hv h' X hg' (hx.le gr)
      exact ⟨c, v, hc, hi, rv⟩
    · exact absurd ky (lookup_cell_none hcell)
  have fin : ∀ h'', Grow (Mut (cloEnv fd h.objs.size a)) h' h'' → Le h h'' := fun h'' gm => Grow.cut (S := no) (.refl no h) (((Grow.any gr).trans gm).mono fun b q => .inr q) fun b q => by
    rcases q with q | ⟨y, ky, _⟩
    · have q' : b = h.objs.size := q
      rintro ⟨o', e⟩
      have := alt e; have := aeq q'; omega
    · exact absurd ky (lookup_cell_none hcell)
  have HH := H h.objs.size (W.fresh h hg _ (Nat.le_refl _))
  cases hb : fd.body with
  | stmts b =>
    rw [hb] at HH
    obtain ⟨ρ', HH⟩ := HH
    exact codeJ_func (wpJ_mono (HH _ hA.deeper X h' g dr _ o F) fun f s' ⟨h'', t'', e, gm, ⟨v, hv, rv⟩, F'⟩ => by subst hv; exact ⟨v, rfl, h'', t'', e, fin h'' gm, rv⟩)
  | expr e =>
    rw [hb] at HH
    exact codeJ_expr (wpJ_mono (HH _ hA.deeper X h' g dr _ o F) fun v s' ⟨h'', t'', e, gm, rv⟩ => ⟨v, rfl, h'', t'', e, gr.trans gm, rv⟩)
end Mine
end
noncomputable section
open PySem PySem.W PySem.Calls PyProof.Rows
set_option Elab.async false
set_option linter.unusedVariables false
set_option maxRecDepth 100000
namespace Mine
variable {prog : Program} {w : World} {G : Heap → Prop} {Z : Addr → Prop}
theorem Started.of_in1 {A : Around} {X h d fp P St} (T : Started prog w A.in1 X h d fp P St) : Started prog w A X h d fp P St := ⟨T.walks.of_in1, T.item, T.feet, T.named, T.bare⟩
theorem call_iter {A : Around} (hh : A.handled = none) {X h g dr tk o d v} (hc : CanIter d) (r : Rep h X d v) {Q : Value → Shared → Prop} {E : Value → Shared → Prop}
    (q : ∀ fp P St ob, Started prog w A X h d fp P St → St 0 (h.push ob) → Q (.ref h.objs.size) ⟨h.push ob, g, dr, tk, o⟩) : wpAny (model prog w) A (call (.builtin "iter") [v]) Q E ⟨h, g, dr, tk, o⟩ := by
  refine call_function_entry (by decide +kernel) (by decide +kernel) kdk_entry_iter (kdk_args_iter _) ?_
  unfold Builtin.«iter»
  refine wpAny_bind (m := someArgs "iter" 1 2 _) (wpAny_of_eq (a := [v]) (by first | rfl | kernel_rfl!) ?_)
  show wpAny _ _ (pyIter v >>= _) _ _ _
  exact wpAny_bind (start_iter (A := A.in1) hh hc r fun fp P St ob T st => wpAny_pure ⟨_, rfl, q fp P St ob T.of_in1 st⟩)
section
variable {k : Nat} {env : Env} {ρ ρ' : Rho}
/-- x = iter(e); mid; for y in x: ..; what follows -/
theorem exs_iter_for (W : Glob G Z) {x px q p' e pos pos' mid y py pxx body fpos rest d dd} {ρs : Addr → Nat → Rho} {N : Nat} (hN : (items d).length = N)
    (hg : EvS prog w G Z k env ρ (.Name q p') (.val (.builtin "iter"))) (h₁ : EvS prog w G Z k env ρ e d) (hc : CanIter d)
    (hmid : ∀ I, ExS prog w G Z k env (upd ρ x (.val (.ref I))) mid .next (ρs I 0)) (hx : ∀ I, EvS prog w G Z k env (ρs I 0) (.Name x pxx) (.val (.ref I)))
    (hb : ∀ I i e, (items d)[i]? = some e → ExsS prog w G Z k env (upd (ρs I i) y e) body .next (ρs I (i + 1)))
    (hr : ∀ I, ExsS prog w G Z k env (ρs I N) rest (.ret dd) ρ')
    (hl : env.kindOf x = some .local ∨ env.kindOf x = some .cell := by first | exact .inl rfl | exact .inr rfl) (hly : env.kindOf y = some .local ∨ env.kindOf y = some .cell := by first | exact .inl rfl | exact .inr rfl) (hf : env.scope.kind = .function := by rfl)
    (hse : starEach [e] env = [(false, eval e env)] := by rfl)
    (hs : swapsWith (.Call (.Name q p') [e] [] pos') (some (.Name x px)) pos.line env = pure false := by rfl)
    (hs' : ∀ v, foldedSetIterable (.Name x pxx) env v = pure v := by intro _; rfl) :
    ExsS prog w G Z k env ρ (.Assign [.Name x px] (.Call (.Name q p') [e] [] pos') pos :: mid :: .For (.Name y py) (.Name x pxx) body [] fpos :: rest) (.ret dd) ρ' := by
  subst hN
  intro A hA X h g dr tk o F
  refine jExecs_cons (jAssign (jCall_Name (hg.use hA F fun h0 t0 v0 g0 r0 => ?_)) hs)
  cases r0
  rw [hse]
  refine jCallWith rfl (Nat.le_of_ble_eq_true rfl) (jSpliced_cons (h₁.use hA (F.le W g0) fun h1 t1 v g01 r1 => jSpliced_nil ⟨⟨.machine, .inr rfl, fun q => wpAny_pure q⟩, ?_⟩))
  have g1 := g0.trans g01
  have F1 := F.le W g1
  refine wpJ.of (call_iter hA.handled hc r1 fun fp P' St ob T st => ?_)
  have nI : ¬ ∃ o, h1.get? h1.objs.size = some o := fun ⟨_, e⟩ => Nat.lt_irrefl _ (Heap.lt_size e)
  have mI : ¬ Mut env h1.objs.size := fun m => let ⟨o', e, _⟩ := Mut.kind F1 m; nI ⟨o', e⟩
  have xI : ¬ X h1.objs.size := fun q => nI (F1.xs _ q)
  have lowI : ¬ Z h1.objs.size := W.fresh h1 F1.g _ (Nat.le_refl _)
  have ft : ∀ b ∈ fp, ¬ Mut env b := fun b hb q => by
    rcases T.feet b hb with rfl | ⟨⟨o', e, xs, n, hd⟩, hx⟩
    · exact mI q
    · obtain ⟨o2, e2, k2⟩ := Mut.kind F1 q
      rw [e] at e2; cases e2
      rcases k2 with ⟨_, _, k2⟩ | ⟨_, k2⟩ <;> (rw [hd] at k2; cases k2)
  have keep : ∀ {i H H'}, St i H → Grow (Mut env) H H' → St i H' := fun {i H H'} st gr => T.walks.frame i H H' st fun b hb o' e' => gr.get (ft b hb) e' (T.named i H st b hb o' e')
  refine store_S W hl hf (F1.le W (.push _ _)) (d := .val (.ref h1.objs.size)) rfl fun h3 t3 g3 F3 => ?_
  have st3 := keep st g3
  refine jExecs_cons ((hmid h1.objs.size).use hA F3 fun h4 t4 fl g4 r4 => ?_)
  obtain ⟨rfl, F4⟩ := r4
  have st4 := keep st3 g4
  refine jExecs_cons (jFor ((hx h1.objs.size).use hA F4 fun h5 t5 v5 g5 r5 => ?_) hs')
  cases r5
  have F5 := F4.le W g5
  have st5 := keep st4 (.any g5)
  refine wpJ.of (T.walks.self 0 _ _ _ st5 ?_)
  have g15 : Grow (fun b => Mut env b ∨ b = h1.objs.size) h1 h5 := (((Grow.any (.push h1 ob)).trans g3).trans (g4.trans (.any g5))).mono fun _ => .inl
  refine codeJ_forLoop (fun n s => ∃ i H tk', i ≤ (items d).length ∧ n = (items d).length - i ∧ s = ⟨H, g, dr, tk', o⟩ ∧ St i H ∧ Fok G Z X H env (ρs h1.objs.size i) ∧ Grow (fun b => Mut env b ∨ b = h1.objs.size) h1 H) ?_ (items d).length
    ⟨0, _, _, Nat.zero_le _, rfl, rfl, st5, F5, g15⟩
  rintro n s ⟨i, H, tk', hi, rfl, rfl, stH, FH, gH⟩
  have step : ∀ H1, (∀ b o, b ∉ [h1.objs.size] → H.get? b = some o → H1.get? b = some o) → Fok G Z X H1 env (ρs h1.objs.size i) ∧ Grow (fun b => Mut env b ∨ b = h1.objs.size) h1 H1 := fun H1 kp => by
    have gI : Grow (fun b => b = h1.objs.size) H H1 := ⟨fun b o' nb e => kp b o' (by simpa using nb) e⟩
    refine ⟨FH.turn W gI (fun b e => e ▸ lowI) (fun b e q => absurd (e ▸ q) xI) (fun b e => ?_), gH.trans (gI.mono fun b e => .inr e)⟩
    obtain ⟨o', e', b1, b2, b3⟩ := T.bare i H stH
    exact ⟨o', e ▸ e', .inr b1, b2, b3⟩
  by_cases hlt : i < (items d).length
  · refine wpJ.of <| T.walks.item i _ _ _ hlt stH fun v' H1 tk1 hPv stH1 kp => ?_
    obtain ⟨F1', g1'⟩ := step H1 kp
    obtain ⟨e, he, re⟩ := T.item i v' hPv
    have re' : Rep H1 X e v' := re.grow g1' (fun b q => by
      rcases q with q | q
      · exact .inr (Mut.noSeq F1 q)
      · exact .inr fun o' e' => absurd ⟨o', q ▸ e'⟩ nI) fun _ _ x => x
    refine jAssignName (store_S W hly hf F1' re' fun H2 t2 g2 F2 => ?_)
    refine (hb _ i e he).use hA F2 fun H3 t3 r g3 er => ?_
    obtain ⟨rfl, F3⟩ := er
    exact ⟨(items d).length - (i + 1), by omega, i + 1, H3, t3, hlt, rfl, rfl, keep stH1 (g2.trans g3), F3, g1'.trans ((g2.trans g3).mono fun b q => .inl q)⟩
  · have hi' : i = (items d).length := by omega
    refine wpJ.of <| T.walks.done _ _ _ (hi' ▸ stH) fun H1 tk1 kp => ?_
    obtain ⟨F1', g1'⟩ := step H1 kp
    refine jExecs_nil ((hr h1.objs.size).use hA (hi' ▸ F1') fun h6 t6 r6 g6 q6 => ?_)
    obtain ⟨⟨v6, rfl, rv6⟩, F6⟩ := q6
    exact ⟨h6, t6, rfl, Grow.cut g1 (g1'.trans (g6.mono fun _ => .inl)) fun b e => e ▸ nI, ⟨v6, rfl, rv6⟩, F6⟩
end
/-- no datum of ours is that object -/
theorem cmp_is_obj {d : D} {m : Addr} (ho : ∀ h, G h → ∃ o, h.get? m = some o ∧ o.cls = .type "object") (hd : (∃ l, d = .lst l) ∨ (∃ l, d = .tup l) ∨ ∃ b, d = .bytes b) : CmpS prog w G .Is d (.val (.ref m)) false := by
  rintro A hA X h g dr tk o v _ hg hx r rfl
  obtain ⟨⟨mc, md, mdt, ms⟩, hm, hmc⟩ := ho h hg
  simp only at hmc
  subst hmc
  refine wpJ.of ?_
  show wpAny _ A (do return Value.bool (← isSame v (.ref m))) _ _ _
  refine wpAny_bind ?_
  have fin : Post g dr o no h (fun h' v => Rep h' X (.bool false) v) (Value.bool false) ⟨h, g, dr, tk, o⟩ := ⟨h, tk, rfl, .refl _ _, rfl⟩
  have refc : ∀ {a : Addr} {cl : String} {oa : Obj}, h.get? a = some oa → oa.cls = .type cl → cl ≠ "object" → wpAny (model prog w) A (isSame (.ref a) (.ref m)) (fun b s' => wpAny (model prog w) A (pure (Value.bool b)) (Post g dr o no h fun h' v => Rep h' X (.bool false) v) noE s') noE ⟨h, g, dr, tk, o⟩ := fun {a cl oa} hoa hca hne => by
    have hn : (a == m) = false := beq_false_of_ne fun e => by subst e; rw [hm] at hoa; cases hoa; simp only at hca; injection hca with q; exact hne q.symm
    unfold isSame
    simp only [hn, Bool.false_eq_true, if_false]
    refine wpAny_bind (wpAny_load hoa (wpAny_bind (wpAny_load hm ?_)))
    dsimp only
    split
    · exact absurd ‹Value.type "object" = Value.type "tuple"› (fun q => by injection q with q; exact absurd q (by decide))
    · exact wpAny_pure (wpAny_pure fin)
  rcases hd with ⟨l, rfl⟩ | ⟨l, rfl⟩ | ⟨b, rfl⟩
  · obtain ⟨a, vs, rfl, _, ⟨oa, hoa, hca, _⟩, _⟩ := r
    exact refc hoa hca (by decide)
  · obtain ⟨a, vs, rfl, _, ⟨oa, hoa, hca, _⟩, _⟩ := r
    exact refc hoa hca (by decide)
  · obtain ⟨t, rfl⟩ := r
    exact wpAny_pure (wpAny_pure fin)
end Mine
end
noncomputable section
open PySem PySem.W PySem.W.X PyProof.Rows
set_option Elab.async false
set_option linter.unusedVariables false
set_option maxRecDepth 100000
namespace Mine
/-- one entry of the ledger is changed -/
inductive Put (a : Addr) (o o' : Obj) : List (Addr × Obj) → List (Addr × Obj) → Prop
  | here {l} : Put a o o' ((a, o) :: l) ((a, o') :: l)
  | there {p l l'} : Put a o o' l l' → Put a o o' (p :: l) (p :: l')
theorem Put.idx {a o o'} : ∀ {l l' : List (Addr × Obj)}, Put a o o' l l' → ∃ i, l[i]? = some (a, o) ∧ l.set i (a, o') = l'
  | _, _, .here => ⟨0, rfl, rfl⟩
  | _, _, .there p => let ⟨i, e1, e2⟩ := p.idx; ⟨i + 1, by simpa using e1, by simp [e2]⟩
section
variable {M : Model} {A : Around} {E : Value → Shared → Prop} {h₀ h : Heap} {g : Array GenState} {d : Drawn} {t : Nat} {os : OsState} {chg news news' : List (Addr × Obj)}
theorem mm_at (D : Mem h₀ h chg news) {a : Addr} {o : Obj} (m : (a, o) ∈ news) : h.get? a = some o := (D.nw _ m).1
theorem mm_old (D : Mem h₀ h [] news) {a : Addr} {o : Obj} (e : h₀.get? a = some o) : h.get? a = some o := D.old a o e (by simp [away])
theorem m_alloc {o : Obj} {Q : Addr → Shared → Prop} (D : Mem h₀ h chg news) (hf : o.isFreed = false) (q : ∀ a h', Mem h₀ h' chg ((a, o) :: news) → Q a ⟨h', g, d, t, os⟩) : wpAny M A (alloc o) Q E ⟨h, g, d, t, os⟩ :=
  wpAny_alloc (q _ _ (D.alloc hf))
theorem m_upd {a : Addr} {o o' : Obj} {f : Obj → Obj} {h'' : Heap} (D : Mem h₀ h chg news) (p : Put a o o' news news') (he : f o = o') (hf : o'.isFreed = false) : Mem h₀ (h.update a f) chg news' := by
  obtain ⟨i, e1, e2⟩ := p.idx
  subst he
  have := D.update (i := i) (f := f) e1 hf
  rw [e2] at this
  exact this
theorem Put.mem {a o o'} : ∀ {l l' : List (Addr × Obj)}, Put a o o' l l' → (a, o) ∈ l
  | _, _, .here => List.mem_cons_self
  | _, _, .there p => List.mem_cons_of_mem _ p.mem
theorem m_update {a : Addr} {o o' : Obj} {f : Obj → Obj} {Q : Unit → Shared → Prop} (D : Mem h₀ h chg news) (p : Put a o o' news news') (he : f o = o') (hf : o'.isFreed = false) (q : ∀ h', Mem h₀ h' chg news' → Q () ⟨h', g, d, t, os⟩) : wpAny M A (update a f) Q E ⟨h, g, d, t, os⟩ :=
  wpAny_update (mm_at D p.mem) (q _ (m_upd (h'' := h) D p he hf))
theorem m_updatePart {a : Addr} {part : Option Value} {o o' : Obj} {f : Obj → Obj} {Q : Unit → Shared → Prop} (D : Mem h₀ h chg news) (p : Put a o o' news news') (he : f o = o') (hf : o'.isFreed = false) (q : ∀ h', Mem h₀ h' chg news' → Q () ⟨h', g, d, t, os⟩) : wpAny M A (updatePart a part f) Q E ⟨h, g, d, t, os⟩ :=
  wpAny_updatePart (mm_at D p.mem) (q _ (m_upd (h'' := h) D p he hf))
theorem small_fits {α : Type} {vs : List α} {k : Nat} (hz : Nat.ble vs.length 1000 = true) : vs.toArray.size ≤ sizeLine + k := by
  have := Nat.le_of_ble_eq_true hz
  rw [List.size_toArray]
  unfold sizeLine
  omega
theorem m_newFields {ty : String} {vs : List Value} {Q : Value → Shared → Prop} (D : Mem h₀ h chg news) (hz : Nat.ble vs.length 1000 = true) (q : ∀ a h', Mem h₀ h' chg ((a, { cls := .type ty, data := .fields vs.toArray }) :: news) → Q (.ref a) ⟨h', g, d, t, os⟩) : wpAny M A (newFields ty vs) Q E ⟨h, g, d, t, os⟩ :=
  wpAny_newObj_type (q _ _ (D.alloc rfl)) (small_fits hz)
/-- a dict of the ledger -/
noncomputable abbrev dobj (es : List DictEntry) (n : Nat) : Obj := { cls := .type "dict", data := .dict es.toArray n }
theorem m_newDict {es : List DictEntry} {n : Nat} {Q : Value → Shared → Prop} (D : Mem h₀ h chg news) (hz : Nat.ble es.length 1000 = true) (q : ∀ a h', Mem h₀ h' chg ((a, dobj es n) :: news) → Q (.ref a) ⟨h', g, d, t, os⟩) : wpAny M A (newObj (.type "dict") (.dict es.toArray n)) Q E ⟨h, g, d, t, os⟩ :=
  wpAny_newObj_type (q _ _ (D.alloc rfl)) (small_fits hz)
theorem m_nsGet {a : Addr} {name : Str} {o : Obj} {r : Option Value} {Q : Option Value → Shared → Prop} (ho : h.get? a = some o) (e : nsLook name o = pure r) (q : Q r ⟨h, g, d, t, os⟩) : wpAny M A (nsGet a name) Q E ⟨h, g, d, t, os⟩ := by
  unfold nsGet
  exact wpAny_bind (wpAny_loadPart ho (wpAny_of_eq e q))
theorem m_nsSet {a : Addr} {name : Str} {v : Value} {es : List DictEntry} {n n' : Nat} {es' : Int → Value → List DictEntry} {news'' : Int → Value → List (Addr × Obj)} {Q : Unit → Shared → Prop} (D : Mem h₀ h chg news) (e1 : aRefKeyMayBeTheName name es.toArray = false)
    (p : ∀ k x, Put a (dobj es n) (dobj (es' k x) n') news (news'' k x)) (e2 : ∀ k x, Obj.putName name k x v (dobj es n) = dobj (es' k x) n')
    (q : ∀ k h', Mem h₀ h' chg (news'' k (.str name t)) → Q () ⟨h', g, d, t + 1, os⟩) : wpAny M A (nsSet a name v) Q E ⟨h, g, d, t, os⟩ := by
  unfold nsSet strHash
  refine wpAny_bind (wpAny_bind (wpAny_askSetting (wpAny_pure ?_)))
  refine wpAny_bind (wpAny_mkText ?_)
  refine wpAny_bind (wpAny_loadPart (mm_at D (p 0 .none).mem) ?_)
  show wpAny M A (if aRefKeyMayBeTheName name es.toArray = true then _ else _) Q E _
  rw [e1]
  exact m_updatePart D (p _ _) (e2 _ _) rfl fun h' D' => q _ h' D'
theorem m_nsDel {a : Addr} {name : Str} {es es' : List DictEntry} {n n' : Nat} {Q : Bool → Shared → Prop} (D : Mem h₀ h chg news) (p : Put a (dobj es n) (dobj es' n') news news') (e1 : nsHas name (dobj es n) = pure true) (e2 : Obj.dropName name (dobj es n) = dobj es' n')
    (q : ∀ h', Mem h₀ h' chg news' → Q true ⟨h', g, d, t, os⟩) : wpAny M A (nsDel a name) Q E ⟨h, g, d, t, os⟩ := by
  unfold nsDel
  refine wpAny_bind (wpAny_loadPart (mm_at D p.mem) (wpAny_bind (wpAny_of_eq e1 ?_)))
  rw [if_pos rfl]
  exact wpAny_bind (m_updatePart D p e2 rfl fun h' D' => wpAny_pure (q h' D'))
theorem m_setSlotAt {a : Addr} {i : Nat} {v : Option Value} {o o' : Obj} {Q : Unit → Shared → Prop} (hi : Nat.ble i 1000 = true) (D : Mem h₀ h chg news) (p : Put a o o' news news') (e : { o with slots := (o.slots ++ Array.replicate (i + 1 - o.slots.size) none).setIfInBounds i v } = o') (hf : o'.isFreed = false)
    (q : ∀ h', Mem h₀ h' chg news' → Q () ⟨h', g, d, t, os⟩) : wpAny M A (setSlotAt a i v) Q E ⟨h, g, d, t, os⟩ := by
  unfold setSlotAt
  have := Nat.le_of_ble_eq_true hi
  rw [if_neg (by simp only [sizeLine]; omega)]
  exact m_updatePart D p e hf q
end
end Mine
end
noncomputable section
open PySem PySem.W PySem.W.X PyProof.Rows
set_option Elab.async false
set_option linter.unusedVariables false
set_option maxRecDepth 100000
namespace Mine
theorem ro_best : Builtin.Slots.bestBase [.type "object"] = pure (.type "object") := by kernel_rfl
theorem ro_names : Builtin.Slots.slotNamesOf (.type "object") = pure [] := by kernel_rfl
theorem ro_dict : Builtin.Slots.givesDict (.type "object") = pure false := by kernel_rfl
theorem ro_weak : Builtin.Slots.givesWeak (.type "object") = pure false := by kernel_rfl
theorem ro_var : Builtin.Slots.varSize (.type "object") = pure false := by kernel_rfl
theorem ro_mangle : Builtin.Slots.mangle (Str.ofString "K") (Str.ofString "obj") = Str.ofString "obj" := by decide +kernel
variable {prog : Program} {w : World} {A : Around} {E : Value → Shared → Prop}
set_option maxHeartbeats 4000000 in
theorem slots_read {s : Shared} {es : Array DictEntry} {e : DictEntry} {sl : Addr} {ol : Obj} {t1 : Tok} {n : Nat} {Q : Builtin.Slots.Plan → Shared → Prop} (he : es.find? (·.key.isStr (Str.ofString "__slots__")) = some e) (hev : e.val = .ref sl)
    (ho : s.heap.get? sl = some ol) (hc : ol.cls = .type "list") (hd : ol.data = .seq #[.str (Str.ofString "obj") t1] n) (hm : es.any (·.key.isStr (Str.ofString "obj")) = false)
    (q : ∀ h', (∀ b o', s.heap.get? b = some o' → h'.get? b = some o') → Q { names := [Str.ofString "obj"], dict := false, weak := false, inherited := [] } { s with heap := h' }) :
    wpAny (model prog w) A (Builtin.Slots.read (Str.ofString "K") [.type "object"] es) Q E s := by
  unfold Builtin.Slots.read
  refine wpAny_bind (wpAny_of_eq ro_best ?_)
  refine wpAny_bind (wpAny_of_eq ro_names ?_)
  refine wpAny_bind (wpAny_of_eq ro_dict ?_)
  refine wpAny_bind (wpAny_of_eq ro_weak ?_)
  refine wpAny_bind (wpAny_of_eq ro_var ?_)
  rw [he]
  dsimp only
  rw [hev]
  refine wpAny_bind (wpAny_rule ?_)
  have ha : ∀ {Q : Option Str → Shared → Prop}, Q none s → wpAny (model prog w) A (asStr? (.ref sl)) Q E s := fun {Q} q => by
    unfold asStr?
    refine wpAny_bind (wpAny_load ho ?_)
    rw [hd]
    exact wpAny_pure q
  refine wpAny_bind (ha ?_)
  refine bm_if_false rfl ?_
  refine wpAny_bind (wpAny_collect_seq sl (.inl rfl) ho hc hd fun h' hk => ?_)
  refine bm_if_true rfl ?_
  refine wpAny_bind (wpAny_of_eq ro_var ?_)
  refine bm_if_false rfl ?_
  refine wpAny_bind (wpAny_of_eq (a := (false, false, #[Str.ofString "obj"], [])) (by kernel_rfl) ?_)
  dsimp only
  rw [← Array.forIn_toList]
  show wpAny _ _ (forIn [Str.ofString "obj"] _ _ >>= _) _ _ _
  rw [List.forIn_cons]
  simp only [List.forIn_nil, ro_mangle, hm, Bool.false_and]
  refine wpAny_bind (wpAny_bind ?_)
  rw [if_neg (by decide +kernel)]
  refine bm_if_false rfl ?_
  refine bm_if_false (by decide +kernel) ?_
  refine wpAny_pure ?_
  dsimp only
  refine wpAny_pure ?_
  refine wpAny_bind (wpAny_of_eq (a := (false, false)) (by kernel_rfl) ?_)
  exact wpAny_pure (q h' hk)
end Mine
end
noncomputable section
open PySem PySem.W PySem.W.X PyProof.Rows
set_option Elab.async false
set_option linter.unusedVariables false
set_option maxRecDepth 100000
namespace Mine
noncomputable def AK : Around := { handled := none, depth := 950, units := 9500, guards := some [], frames := none }
theorem Bud.wk {k : Nat} {A : Around} (b : Bud k A) (hk : 49 ≤ k) {α : Type} {M : Model} {t : Sem α} {Q : α → Shared → Prop} {E : Value → Shared → Prop} {s : Shared} (H : wpAny M AK t Q E s) : wpAny M A t Q E s := fun Γ p hΓ => by
  refine H Γ p ⟨hΓ.1.trans b.handled, ?_, (fun l hl => nomatch hl), (fun g hg => hΓ.2.2.2.1 g (b.guards.trans hg)), ?_⟩
  · have h1 := hΓ.2.1; have := b.depth; show _ ≤ 950; omega
  · have h1 := hΓ.2.2.2.2; have := b.units; show _ ≤ 9500; omega
noncomputable abbrev clsO (a ns : Addr) (sl : Array (Option Value)) : Obj := ⟨.type "type", none, .cls { name := Str.ofString "K", bases := [.type "object"], mro := [.ref a, .type "object"], ns := ns, qualname := Str.ofString "cmp_to_key.<locals>.K", hasDict := false, slotNames := [Str.ofString "obj"] }, sl⟩
section
variable {prog : Program} {w : World} {h : Heap} {g : Array GenState} {d : Drawn} {t : Nat} {os : OsState} {Q : Value → Shared → Prop} {E : Value → Shared → Prop} {a ns : Addr} {sl : Array (Option Value)}
local macro_rules | `(tactic| x_close) => `(tactic| (apply_assumption <;> assumption))
set_option maxHeartbeats 0 in
theorem super_x (hC : h.get? a = some (clsO a ns sl))
   (q : ∀ so h', Mem h h' [] [(so, { cls := .type "super", data := .fields #[.ref a, .ref a, .ref a] })] → Q (.ref so) ⟨h', g, d, t, os⟩) : wpAny (model prog w) AK (call (.type "super") [.ref a, .ref a]) Q E ⟨h, g, d, t, os⟩ := by
  unfold clsO at hC
  x_run
set_option maxHeartbeats 0 in
theorem cmget_x (hC : h.get? a = some (clsO a ns sl))
   (q : ∀ so h', Mem h h' [] [(so, { cls := .type "builtin_function_or_method", data := .fields #[.builtin "object.__init_subclass__", .ref a] })] → Q (.ref so) ⟨h', g, d, t, os⟩) : wpAny (model prog w) AK (call (.builtin "classmethod_descriptor.__get__") [.builtin "object.__init_subclass__", .none, .ref a]) Q E ⟨h, g, d, t, os⟩ := by
  unfold clsO at hC
  x_run
set_option maxHeartbeats 0 in
theorem initsub_x {b : Addr} (hC : h.get? a = some (clsO a ns sl)) (hb : h.get? b = some ⟨.type "builtin_function_or_method", none, .fields #[.builtin "object.__init_subclass__", .ref a], #[]⟩)
   (q : Q .none ⟨h, g, d, t, os⟩) : wpAny (model prog w) AK (call (.ref b) []) Q E ⟨h, g, d, t, os⟩ := by
  unfold clsO at hC
  x_run
end
end Mine
end
noncomputable section
open PySem PySem.W PySem.W.X PyProof.Rows
set_option Elab.async false
set_option linter.unusedVariables false
set_option maxRecDepth 100000
namespace Mine
variable {prog : Program} {w : World} {A : Around} {h : Heap} {g : Array GenState} {d : Drawn} {t : Nat} {os : OsState} {E : Value → Shared → Prop}
theorem is_own : classOwn (.type "object") (Str.ofString "__init_subclass__") = pure (some (.builtin "object.__init_subclass__")) := by kernel_rfl
theorem is_type : typeOf (.builtin "object.__init_subclass__") = pure (.type "classmethod_descriptor") := by kernel_rfl
theorem is_get : typeLookup (.type "classmethod_descriptor") (Str.ofString "__get__") = pure (some (.builtin "classmethod_descriptor.__get__")) := by rw [typeLookup_type, builtinLookup_eq_fast]; kernel_rfl
set_option maxHeartbeats 4000000 in
theorem super_attr {k : Nat} (hA : Bud k A) (hk : 52 ≤ k) {so a ns : Addr} {sl : Array (Option Value)} {oS : Obj} {Q : Value → Shared → Prop} (hso : h.get? so = some { cls := .type "super", data := .fields #[.ref a, .ref a, .ref a] }) (hC : h.get? a = some (clsO a ns sl)) (hS : h.get? cStatics = some oS) (hS1 : nsLook (Str.ofString "thirdparty.any") oS = pure none)
    (q : ∀ b h' t', Mem h h' [] [(b, { cls := .type "builtin_function_or_method", data := .fields #[.builtin "object.__init_subclass__", .ref a] })] → Q (.ref b) ⟨h', g, d, t', os⟩) : wpAny (model prog w) A (getAttr (.ref so) (Str.ofString "__init_subclass__")) Q E ⟨h, g, d, t, os⟩ := by
  have f1 := F.ks_slot_super_ga.lookup
  unfold getAttr getAttrBy
  refine wpAny_bind (wpAny_mkText (wpAny_holding (wpAny_bind (wpAny_typeOf ⟨_, hso, rfl⟩ (wpAny_bind (wpAny_of_eq f1 ?_))))))
  repeat wp_delta
  refine bm_if_false (by decide +kernel) ?_
  unfold getAttrByItsOwn
  repeat wp_step
  refine wpAny_of_eq (F.ks_slot_super_ga.bind (.ref so)) ?_
  wp_delta
  refine wpAny_call_entry F.ks_slot_super_ga ⟨_, hso, rfl⟩ F.ks_entry_super_ga ?_ (F.ks_gaArgs_super _ _)
  unfold Builtin.«super.__getattribute__»
  refine wpAny_bind (wpAny_of_eq (a := some (Str.ofString "__init_subclass__")) rfl ?_)
  refine bm_if_false rfl ?_
  refine wpAny_bind (wpAny_of_eq (a := some (Str.ofString "__init_subclass__")) rfl ?_)
  repeat wp_delta
  refine wpAny_bind (wpAny_field hso rfl (x := .ref a) rfl ?_)
  refine wpAny_bind (wpAny_field hso rfl (x := .ref a) rfl ?_)
  refine wpAny_bind (wpAny_field hso rfl (x := .ref a) rfl ?_)
  refine bm_if_false (by kernel_rfl) ?_
  refine wpAny_bind ?_
  unfold notOfAnOpaqueClass opaqueClassAbove anyOpaqueLoaded
  refine wpAny_bind (wpAny_bind (wpAny_bind (m_nsGet hS hS1 (wpAny_pure ?_))))
  refine bm_if_true rfl ?_
  refine wpAny_pure ?_
  refine wpAny_pure ?_
  refine bm_if_false (by kernel_rfl) ?_
  refine wpAny_bind ?_
  unfold mroOf classData
  refine wpAny_bind (wpAny_bind (wpAny_load hC (wpAny_pure (wpAny_pure ?_))))
  rw [show List.drop 1 (List.dropWhile (fun x => x != Value.ref a) [Value.ref a, Value.type "object"]) = [Value.type "object"] by simp]
  wp_delta
  refine wpAny_bind ?_
  rw [List.forIn_cons, show (if (Value.ref a == Value.ref a) = true then Value.none else Value.ref a) = .none by simp]
  refine wpAny_bind (wpAny_bind (wpAny_of_eq is_own ?_))
  refine wpAny_bind (wpAny_of_eq is_type ?_)
  refine wpAny_bind (wpAny_of_eq is_get ?_)
  refine wpAny_bind (wpAny_holding (Bud.wk (k := 51) (hA.mono hk).in1 (by decide) (cmget_x hC fun so h' D => ?_)))
  refine wpAny_bind (wpAny_pure ?_)
  refine wpAny_pure ?_
  refine wpAny_pure ?_
  refine wpAny_pure ?_
  refine ⟨_, rfl, ?_⟩
  exact wpAny_pure (q so h' _ D)
end Mine
end
noncomputable section
open PySem PySem.W PySem.W.X PyProof.Rows
set_option Elab.async false
set_option linter.unusedVariables false
set_option maxRecDepth 100000
namespace Mine
noncomputable def kEnt (hs : Nat → Int) (ts : Nat → Nat) (m0 : Str) (ln : Int) (sl : Addr) (fs : Nat → Addr) (st : Addr) : List DictEntry :=
  [⟨hs 0, .str (Str.ofString "__module__") (ts 0), .str m0 (ts 20)⟩, ⟨hs 1, .str (Str.ofString "__qualname__") (ts 1), .str (Str.ofString "cmp_to_key.<locals>.K") (ts 21)⟩, ⟨hs 2, .str (Str.ofString "__firstlineno__") (ts 2), .int ln (ts 22)⟩, ⟨hs 3, .str (Str.ofString "__slots__") (ts 3), .ref sl⟩,
   ⟨hs 4, .str (Str.ofString "__init__") (ts 4), .ref (fs 4)⟩, ⟨hs 5, .str (Str.ofString "__lt__") (ts 5), .ref (fs 5)⟩, ⟨hs 6, .str (Str.ofString "__gt__") (ts 6), .ref (fs 6)⟩, ⟨hs 7, .str (Str.ofString "__eq__") (ts 7), .ref (fs 7)⟩, ⟨hs 8, .str (Str.ofString "__le__") (ts 8), .ref (fs 8)⟩, ⟨hs 9, .str (Str.ofString "__ge__") (ts 9), .ref (fs 9)⟩,
   ⟨hs 10, .str (Str.ofString "__hash__") (ts 10), .none⟩, ⟨hs 11, .str (Str.ofString "__static_attributes__") (ts 11), .ref st⟩]
variable {prog : Program} {w : World} {A : Around} {h : Heap} {g : Array GenState} {d : Drawn} {t : Nat} {os : OsState} {E : Value → Shared → Prop}
theorem ty_sub1 : isSubtype (.type "tuple") (.type "tuple") = pure true := by kernel_rfl
theorem ty_sub2 : isSubtype (.type "dict") (.type "dict") = pure true := by kernel_rfl
theorem ty_sub3 : isSubtype (.type "type") (.type "type") = pure true := by kernel_rfl
theorem ty_ext : Builtin.extendedBase [.type "object"] = pure (.type "object") := by kernel_rfl
theorem ty_turn : Builtin.notOverATurnedClass [.type "object"] = pure () := by kernel_rfl
theorem ty_typeOf : typeOf (.type "object") = pure (.type "type") := by kernel_rfl
theorem ty_dictIter : typeLookup (.type "dict") (Str.ofString "__iter__") = pure (some (.builtin "dict.__iter__")) := by rw [typeLookup_type, builtinLookup_eq_fast]; kernel_rfl
theorem loop_all {α : Type} {M : Model} {s : Shared} {l : List α} {f : α → PUnit → Sem (ForInStep PUnit)} {Q : PUnit → Shared → Prop} (H : ∀ x ∈ l, ∀ {Q : ForInStep PUnit → Shared → Prop}, Q (.yield ()) s → wpAny M A (f x ()) Q E s) (q : Q () s) : wpAny M A (forIn l PUnit.unit f) Q E s := by
  refine wpAny_forIn_list f (fun r _ s' => s' = s ∧ ∀ x ∈ r, x ∈ l) Q ?_ ?_ l () ⟨rfl, fun _ h => h⟩
  · rintro x rest ⟨⟩ _ ⟨rfl, hm⟩
    exact H x (hm x (.head _)) ⟨rfl, fun y hy => hm y (.tail _ hy)⟩
  · rintro ⟨⟩ _ ⟨rfl, _⟩; exact q
theorem sn_str : typeLookup (.type "str") (Str.ofString "__set_name__") = pure none := by rw [typeLookup_type, builtinLookup_eq_fast]; kernel_rfl
theorem sn_int : typeLookup (.type "int") (Str.ofString "__set_name__") = pure none := by rw [typeLookup_type, builtinLookup_eq_fast]; kernel_rfl
theorem sn_list : typeLookup (.type "list") (Str.ofString "__set_name__") = pure none := by rw [typeLookup_type, builtinLookup_eq_fast]; kernel_rfl
theorem sn_fun : typeLookup (.type "function") (Str.ofString "__set_name__") = pure none := by rw [typeLookup_type, builtinLookup_eq_fast]; kernel_rfl
theorem sn_none : typeLookup (.type "NoneType") (Str.ofString "__set_name__") = pure none := by rw [typeLookup_type, builtinLookup_eq_fast]; kernel_rfl
theorem sn_tup : typeLookup (.type "tuple") (Str.ofString "__set_name__") = pure none := by rw [typeLookup_type, builtinLookup_eq_fast]; kernel_rfl
theorem sn_mem : typeLookup (.type "member_descriptor") (Str.ofString "__set_name__") = pure none := by rw [typeLookup_type, builtinLookup_eq_fast]; kernel_rfl
noncomputable def cd0 (ns : Addr) : ClassData := { name := Str.ofString "K", bases := [.type "object"], mro := [], ns := ns, qualname := Str.ofString "cmp_to_key.<locals>.K" }
noncomputable def co (cd : ClassData) (sl : Array (Option Value)) : Obj := { cls := .type "type", data := .cls cd, slots := sl }
theorem ty_mroHook : Builtin.mroHook? (.type "type") = pure none := by kernel_rfl
theorem ty_lin : Builtin.linearize [.type "object"] mroOf = pure [.type "object"] := by kernel_rfl
theorem ty_made : Bind.madeBy (.type "object") = pure (some "object.__new__") := by kernel_rfl
theorem m_updateCls {M : Model} {h₀ : Heap} {chg news news' : List (Addr × Obj)} {a : Addr} {cd cd' : ClassData} {sl : Array (Option Value)} {f : ClassData → ClassData} {Q : Unit → Shared → Prop} (D : Mem h₀ h chg news) (p : Put a (co cd sl) (co cd' sl) news news') (e : f cd = cd') (hp : (Data.cls cd').pastItsLine = none)
    (q : ∀ h', Mem h₀ h' chg news' → Q () ⟨h', g, d, t, os⟩) (m' : (a, co cd' sl) ∈ news') : wpAny M A (updateCls a f) Q E ⟨h, g, d, t, os⟩ := by
  subst e
  unfold updateCls
  refine wpAny_bind (wpAny_load (mm_at D p.mem) ?_)
  show wpAny M A (update a (Obj.mapCls f) >>= fun _ => lookBehind a) Q E _
  exact wpAny_bind (m_update D p rfl rfl fun h' D' => wpAny_lookBehind (mm_at D' m') hp (q h' D'))
theorem look_own {M : Model} {s : Shared} {a : Addr} {cd : ClassData} {sl : Array (Option Value)} {o : Obj} {name : Str} {r : Option Value} {Q : Option Value → Shared → Prop} (hC : s.heap.get? a = some (co cd sl)) (hm : cd.mro = [.ref a, .type "object"]) (hn : s.heap.get? cd.ns = some o) (e : nsLook name o = pure none) (eo : builtinOwn "object" name = r)
    (q : Q r s) : wpAny M A (typeLookup (.ref a) name) Q E s := by
  unfold typeLookup mroOf classData
  refine wpAny_bind (wpAny_bind (wpAny_bind (wpAny_load hC (wpAny_pure (wpAny_pure ?_)))))
  rw [hm, List.forIn_cons]
  unfold classOwn classData nsGet
  repeat (with_reducible refine wpAny_bind ?_)
  refine wpAny_load hC (wpAny_pure ?_)
  repeat (with_reducible refine wpAny_bind ?_)
  refine wpAny_loadPart hn (wpAny_of_eq e ?_)
  refine wpAny_pure ?_
  dsimp only
  rw [List.forIn_cons]
  repeat (with_reducible refine wpAny_bind ?_)
  refine wpAny_pure ?_
  rw [eo]
  cases r with
  | none => exact wpAny_pure (by dsimp only; rw [List.forIn_nil]; exact wpAny_pure (wpAny_pure q))
  | some v => exact wpAny_pure (wpAny_pure (wpAny_pure q))
theorem m_nsSetByValue {M : Model} {h₀ : Heap} {chg news : List (Addr × Obj)} {a : Addr} {name : Str} {v : Value} {es : List DictEntry} {n n' : Nat} {es' : Int → Value → List DictEntry} {news'' : Int → Value → List (Addr × Obj)} {Q : Unit → Shared → Prop} (hz : Nat.ble es.length 1000 = true) (D : Mem h₀ h chg news) (e1 : aRefKeyMayBeTheName name es.toArray = false)
    (p : ∀ k x, Put a (dobj es n) (dobj (es' k x) n') news (news'' k x)) (e2 : ∀ k x, Obj.putName name k x v (dobj es n) = dobj (es' k x) n')
    (q : ∀ k h', Mem h₀ h' chg (news'' k (.str name t)) → Q () ⟨h', g, d, t + 1, os⟩) : wpAny M A (nsSetByValue a name v) Q E ⟨h, g, d, t, os⟩ := by
  unfold nsSetByValue
  refine wpAny_bind (wpAny_loadPart (mm_at D (p 0 .none).mem) ?_)
  refine bm_if_false ?_ (m_nsSet D e1 p e2 q)
  have := small_fits (k := 0) hz
  rw [Bool.and_eq_false_iff]; left
  exact decide_eq_false (by simp only [List.size_toArray] at *; omega)
theorem own_new : builtinOwn "object" (Str.ofString "__new__") = some (.builtin "object.__new__") := by kernel_rfl
noncomputable def cd1 (a ns : Addr) : ClassData := { cd0 ns with mro := [.ref a, .type "object"] }
noncomputable def cd2 (a ns : Addr) : ClassData := { cd1 a ns with hasDict := false, slotNames := [Str.ofString "obj"] }
theorem ite_no {α : Type} {M : Model} {s : Shared} {c : Prop} [Decidable c] {a b : Sem α} {Q : α → Shared → Prop} (hc : ¬ c) (h : wpAny M A b Q E s) : wpAny M A (if c then a else b) Q E s := by rw [if_neg hc]; exact h
set_option maxHeartbeats 4000000 in
theorem type_new {nsA bT sl : Addr} {kb : Nat} (hA : Bud kb A) (hkb : 53 ≤ kb) {hs : Nat → Int} {ts : Nat → Nat} {m0 : Str} {ln : Int} {fs : Nat → Addr} {st : Addr} {n m k : Nat} {t0 t1 : Tok} (hb : h.get? bT = some { cls := .type "tuple", data := .seq #[.type "object"] m }) (hn : h.get? nsA = some (dobj (kEnt hs ts m0 ln sl fs st) n)) (hne : nsA ≠ sysModules)
    (hsl : h.get? sl = some { cls := .type "list", data := .seq #[.str (Str.ofString "obj") t1] k })
    (hfs : ∀ i, 4 ≤ i → i ≤ 9 → ∃ o, h.get? (fs i) = some o ∧ o.cls = .type "function") (hst : ∃ o, h.get? st = some o ∧ o.cls = .type "tuple") {oS : Obj} (hS : h.get? cStatics = some oS) (hS1 : nsLook (Str.ofString "thirdparty.any") oS = pure none)
    {Q : Fin → Shared → Prop} (q : ∀ ns a dsc k1 k2 t1 t2 t3 t' h', (∀ b o, h.get? b = some o → h'.get? b = some o) → (h.get? ns = none ∧ h.get? a = none ∧ h.get? dsc = none) → h'.get? a = some (co (cd2 a ns) #[some (.ref bT), none, some (.str (Str.ofString "K") t0), some (.str (Str.ofString "cmp_to_key.<locals>.K") (ts 21)), some (.builtin "object.__new__"), some (.bool false)]) →
      h'.get? ns = some (dobj ((kEnt hs ts m0 ln sl fs st).eraseIdx 1 ++ [⟨k1, .str (Str.ofString "obj") t1, .ref dsc⟩] ++ [⟨k2, .str (Str.ofString "__doc__") t2, .none⟩]) 3) →
      h'.get? dsc = some { cls := .type "member_descriptor", data := .fields #[.str (Str.ofString "obj") t3, .ref a, .builtin "proto.slot", .builtin "proto.slot#set", .int 0 0] } → Q (.done (.ret (.ref a))) ⟨h', g, d, t', os⟩) : wpAny (model prog w) A (Builtin.«type.__new__» ⟨[.type "type", .str (Str.ofString "K") t0, .ref bT, .ref nsA], []⟩) Q E ⟨h, g, d, t, os⟩ := by
  unfold Builtin.«type.__new__»
  refine wpAny_bind (wpAny_of_eq (a := some (Str.ofString "K")) rfl ?_)
  wp_delta
  refine wpAny_bind (wpAny_isInstance ⟨_, hb, rfl⟩ ty_sub1 ?_)
  refine bm_if_false rfl ?_
  refine wpAny_bind (wpAny_isInstance ⟨_, hn, rfl⟩ ty_sub2 ?_)
  refine bm_if_false rfl ?_
  refine wpAny_bind (wpAny_seqItems hb rfl ?_)
  wp_delta
  refine ite_no (by decide) ?_
  refine wpAny_bind (wpAny_of_eq (a := PUnit.unit) (by kernel_rfl) ?_)
  refine wpAny_bind (wpAny_of_eq (a := Value.type "type") (by kernel_rfl) ?_)
  refine bm_if_false rfl ?_
  show wpAny _ _ (Builtin.notOverATurnedClass [Value.type "object"] >>= _) _ _ _
  refine wpAny_bind (wpAny_of_eq ty_turn ?_)
  show wpAny _ _ (Builtin.extendedBase [Value.type "object"] >>= _) _ _ _
  refine wpAny_bind (wpAny_of_eq ty_ext ?_)
  refine bm_if_false (beq_false_of_ne hne) ?_
  refine wpAny_bind (wpAny_dictEntries hn rfl ?_)
  refine wpAny_bind (wpAny_specialOf ⟨_, hn, rfl⟩ ty_dictIter ?_)
  refine bm_if_true rfl ?_
  refine wpAny_bind (wpAny_pure ?_)
  wp_delta
  refine wpAny_bind (wpAny_holding (slots_read (e := ⟨hs 3, .str (Str.ofString "__slots__") (ts 3), .ref sl⟩) (by kernel_rfl) rfl hsl rfl rfl (by kernel_rfl) fun h' hk => ?_))
  have D := Mem.start h'
  have hn' := hk _ _ hn
  have hb' := hk _ _ hb
  have hsl' := hk _ _ hsl
  have hS' := hk _ _ hS
  have hfr : ∀ b, h'.get? b = none → h.get? b = none := fun b e => by
    cases e2 : h.get? b with
    | none => rfl
    | some o => rw [hk _ _ e2] at e; cases e
  have hfs' : ∀ i, 4 ≤ i → i ≤ 9 → ∃ o, h'.get? (fs i) = some o ∧ o.cls = .type "function" := fun i a b => let ⟨o, e, c⟩ := hfs i a b; ⟨o, hk _ _ e, c⟩
  have hst' : ∃ o, h'.get? st = some o ∧ o.cls = .type "tuple" := let ⟨o, e, c⟩ := hst; ⟨o, hk _ _ e, c⟩
  clear hn hb hsl hS hfs hst
  refine wpAny_bind (m_newDict D rfl fun ns h D => ?_)
  wp_delta
  refine bm_if_false (by kernel_rfl) ?_
  refine wpAny_bind (wpAny_of_eq (a := ()) (by kernel_rfl) ?_)
  refine bm_if_false (by decide +kernel) ?_
  refine wpAny_bind (m_nsGet (mm_at D (.head _)) (r := some (.str (Str.ofString "cmp_to_key.<locals>.K") (ts 21))) (by kernel_rfl) ?_)
  refine wpAny_bind (m_nsGet (mm_at D (.head _)) (r := some (.str (Str.ofString "cmp_to_key.<locals>.K") (ts 21))) (by kernel_rfl) ?_)
  refine wpAny_bind (wpAny_of_eq (a := some (Str.ofString "cmp_to_key.<locals>.K")) rfl ?_)
  refine wpAny_bind (wpAny_pure ?_)
  refine wpAny_bind (m_nsGet (mm_at D (.head _)) (r := none) (by kernel_rfl) ?_)
  wp_delta
  refine wpAny_bind (m_alloc (o := co (cd0 ns) #[]) D rfl fun a h D => ?_)
  repeat wp_delta
  refine bm_if_true rfl ?_
  refine wpAny_bind (m_setSlotAt rfl D .here (o' := co (cd0 ns) #[some (.ref bT)]) rfl rfl fun h D => ?_)
  refine wpAny_bind (m_setSlotAt rfl D .here (o' := co (cd0 ns) #[some (.ref bT), none, some (.str (Str.ofString "K") t0)]) rfl rfl fun h D => ?_)
  wp_delta
  refine wpAny_bind (m_setSlotAt rfl D .here (o' := co (cd0 ns) #[some (.ref bT), none, some (.str (Str.ofString "K") t0), some (.str (Str.ofString "cmp_to_key.<locals>.K") (ts 21))]) rfl rfl fun h D => ?_)
  refine wpAny_bind (m_nsDel D (.there .here) (es' := (kEnt hs ts m0 ln sl fs st).eraseIdx 1) (n' := 1) (by kernel_rfl) (by kernel_rfl) fun h D => ?_)
  have kd : ∀ {name r}, nsLook name (dobj ((kEnt hs ts m0 ln sl fs st).eraseIdx 1) 1) = pure r → ∀ {Q : Option Value → Shared → Prop}, Q r ⟨h, g, d, t, os⟩ → wpAny (model prog w) A (nsGet ns name) Q E ⟨h, g, d, t, os⟩ := fun {name r} e {Q} q => m_nsGet (mm_at D (.tail _ (.head _))) e q
  refine wpAny_bind (kd (r := none) (by kernel_rfl) ?_)
  repeat wp_delta
  refine wpAny_bind ?_
  repeat wp_delta
  refine wpAny_bind ?_
  repeat wp_delta
  refine wpAny_bind (kd (r := none) (by kernel_rfl) ?_)
  repeat wp_delta
  refine wpAny_pure ?_
  repeat wp_delta
  refine wpAny_bind ?_
  repeat wp_delta
  refine wpAny_bind (kd (r := none) (by kernel_rfl) ?_)
  repeat wp_delta
  refine wpAny_pure ?_
  repeat wp_delta
  refine wpAny_pure ?_
  refine wpAny_bind (kd (r := none) (by kernel_rfl) ?_)
  repeat wp_delta
  refine wpAny_bind (kd (r := none) (by kernel_rfl) ?_)
  repeat wp_delta
  refine wpAny_bind (wpAny_of_eq ty_mroHook ?_)
  repeat wp_delta
  refine wpAny_bind (wpAny_of_eq ty_lin ?_)
  repeat wp_delta
  refine wpAny_bind (wpAny_pure ?_)
  repeat wp_delta
  refine wpAny_bind (wpAny_of_eq (a := false) (by rw [show List.filter (fun x => x != Value.ref a) [Value.ref a, Value.type "object"] = [Value.type "object"] by simp]; kernel_rfl) ?_)
  refine wpAny_bind (m_updateCls (cd' := cd1 a ns) D .here (by kernel_rfl) (by kernel_rfl) (fun h D => ?_) (.head _))
  refine wpAny_bind (wpAny_of_eq ty_made ?_)
  refine wpAny_bind (m_setSlotAt rfl D .here (o' := co (cd1 a ns) #[some (.ref bT), none, some (.str (Str.ofString "K") t0), some (.str (Str.ofString "cmp_to_key.<locals>.K") (ts 21)), some (.builtin "object.__new__")]) rfl rfl fun h D => ?_)
  have kd2 : ∀ {name r}, nsLook name (dobj ((kEnt hs ts m0 ln sl fs st).eraseIdx 1) 1) = pure r → ∀ {Q : Option Value → Shared → Prop}, Q r ⟨h, g, d, t, os⟩ → wpAny (model prog w) A (nsGet ns name) Q E ⟨h, g, d, t, os⟩ := fun {name r} e {Q} q => m_nsGet (mm_at D (.tail _ (.head _))) e q
  refine wpAny_bind ?_
  unfold Bind.refreshMaker slotAt
  refine wpAny_bind (wpAny_bind (wpAny_loadPart (mm_at D (.head _)) (wpAny_pure ?_)))
  refine bm_if_false rfl ?_
  refine wpAny_bind (look_own (mm_at D (.head _)) rfl (mm_at D (.tail _ (.head _))) (by kernel_rfl) own_new ?_)
  repeat wp_delta
  refine bm_if_false (by decide +kernel) ?_
  refine wpAny_pure ?_
  refine wpAny_bind ?_
  unfold Builtin.Slots.install
  repeat wp_delta
  refine wpAny_bind ?_
  repeat wp_delta
  refine wpAny_bind ?_
  repeat wp_delta
  refine wpAny_bind (kd2 (r := none) (by kernel_rfl) ?_)
  refine bm_if_true rfl ?_
  refine wpAny_bind (wpAny_mkStr ?_ (by decide +kernel))
  refine wpAny_bind (m_newFields D rfl fun dsc h D => ?_)
  refine wpAny_bind (m_nsSetByValue rfl D (by kernel_rfl) (fun k x => .there (.there .here)) (es' := fun k x => (kEnt hs ts m0 ln sl fs st).eraseIdx 1 ++ [⟨k, x, .ref dsc⟩]) (n' := 2) (by intro k x; kernel_rfl) fun k1 h D => ?_)
  refine wpAny_pure ?_
  repeat wp_delta
  refine wpAny_pure ?_
  repeat wp_delta
  refine wpAny_bind (wpAny_of_eq (a := false) (by kernel_rfl) ?_)
  repeat wp_delta
  refine ite_no (by decide +kernel) ?_
  refine m_updateCls (cd' := cd2 a ns) D (.there .here) rfl (by kernel_rfl) (fun h D => ?_) (.tail _ (.head _))
  refine wpAny_bind (wpAny_of_eq ro_weak ?_)
  refine wpAny_bind (m_setSlotAt rfl D (.there .here) (o' := co (cd2 a ns) #[some (.ref bT), none, some (.str (Str.ofString "K") t0), some (.str (Str.ofString "cmp_to_key.<locals>.K") (ts 21)), some (.builtin "object.__new__"), some (.bool false)]) rfl rfl fun h D => ?_)
  repeat wp_delta
  refine bm_if_false rfl ?_
  refine bm_if_false rfl ?_
  have kd3 : ∀ {name r}, nsLook name (dobj ((kEnt hs ts m0 ln sl fs st).eraseIdx 1 ++ [⟨k1, .str (Str.ofString "obj") (t + 1), .ref dsc⟩]) 2) = pure r → ∀ {Q : Option Value → Shared → Prop}, Q r ⟨h, g, d, t + 1 + 1, os⟩ → wpAny (model prog w) A (nsGet ns name) Q E ⟨h, g, d, t + 1 + 1, os⟩ := fun {name r} e {Q} q => m_nsGet (mm_at D (.tail _ (.tail _ (.head _)))) e q
  refine wpAny_bind (kd3 (r := none) (by kernel_rfl) ?_)
  repeat wp_delta
  refine bm_if_true rfl ?_
  refine wpAny_bind (m_nsSet D (by kernel_rfl) (fun k x => .there (.there .here)) (es' := fun k x => (kEnt hs ts m0 ln sl fs st).eraseIdx 1 ++ [⟨k1, .str (Str.ofString "obj") (t + 1), .ref dsc⟩] ++ [⟨k, x, .none⟩]) (n' := 3) (by intro k x; kernel_rfl) fun k2 h D => ?_)
  have kd4 : ∀ {name r}, nsLook name (dobj ((kEnt hs ts m0 ln sl fs st).eraseIdx 1 ++ [⟨k1, .str (Str.ofString "obj") (t + 1), .ref dsc⟩] ++ [⟨k2, .str (Str.ofString "__doc__") (t + 1 + 1), .none⟩]) 3) = pure r → ∀ {Q : Option Value → Shared → Prop}, Q r ⟨h, g, d, t + 1 + 1 + 1, os⟩ → wpAny (model prog w) A (nsGet ns name) Q E ⟨h, g, d, t + 1 + 1 + 1, os⟩ := fun {name r} e {Q} q => m_nsGet (mm_at D (.tail _ (.tail _ (.head _)))) e q
  repeat wp_delta
  refine wpAny_bind (kd4 (r := some (.ref (fs 7))) (by kernel_rfl) ?_)
  repeat wp_delta
  refine bm_if_true rfl ?_
  refine wpAny_bind (kd4 (r := some .none) (by kernel_rfl) ?_)
  repeat wp_delta
  refine bm_if_false rfl ?_
  repeat wp_delta
  refine wpAny_bind (wpAny_of_eq (a := PUnit.unit) (by kernel_rfl) ?_)
  repeat wp_delta
  refine wpAny_bind (wpAny_tryCatch (wpAny_holding ?_))
  refine wpAny_bind (wpAny_dictEntries (mm_at D (.tail _ (.tail _ (.head _)))) rfl ?_)
  refine wpAny_bind (wpAny_of_eq (a := false) (by kernel_rfl) ?_)
  repeat wp_delta
  refine bm_if_false rfl ?_
  repeat wp_delta
  refine wpAny_bind (wpAny_dictEntries (mm_at D (.tail _ (.tail _ (.head _)))) rfl ?_)
  refine wpAny_bind ?_
  rw [← Array.forIn_toList]
  refine loop_all (fun e he Q' q' => ?_) ?_
  · have none_of : ∀ {v : Value} {T : String}, (⟨h, g, d, t + 1 + 1 + 1, os⟩ : Shared).TypeIs v T → typeLookup (.type T) (Str.ofString "__set_name__") = pure none → ∀ {Q : Option Value → Shared → Prop} {E : Value → Shared → Prop}, Q none ⟨h, g, d, t + 1 + 1 + 1, os⟩ → wpAny (model prog w) A (specialOf v (Str.ofString "__set_name__")) Q E ⟨h, g, d, t + 1 + 1 + 1, os⟩ := fun {v T} hT e {Q E} q => wpAny_specialOf hT e q
    have fn_of : ∀ i, 4 ≤ i → i ≤ 9 → (⟨h, g, d, t + 1 + 1 + 1, os⟩ : Shared).TypeIs (.ref (fs i)) "function" := fun i a b => let ⟨o, e, c⟩ := hfs' i a b; ⟨o, mm_old D e, c⟩
    simp only [kEnt, List.eraseIdx, List.cons_append, List.nil_append, List.mem_cons, List.not_mem_nil, or_false] at he
    rcases he with rfl | rfl | rfl | rfl | rfl | rfl | rfl | rfl | rfl | rfl | rfl | rfl | rfl
    · exact bm_if_false rfl (wpAny_bind (none_of (typeIs_str _ _ _) sn_str (wpAny_pure q')))
    · exact bm_if_false rfl (wpAny_bind (none_of (typeIs_int _ _ _) sn_int (wpAny_pure q')))
    · exact bm_if_false rfl (wpAny_bind (none_of (v := .ref sl) ⟨_, mm_old D hsl', rfl⟩ sn_list (wpAny_pure q')))
    · exact bm_if_false rfl (wpAny_bind (none_of (fn_of 4 (by decide) (by decide)) sn_fun (wpAny_pure q')))
    · exact bm_if_false rfl (wpAny_bind (none_of (fn_of 5 (by decide) (by decide)) sn_fun (wpAny_pure q')))
    · exact bm_if_false rfl (wpAny_bind (none_of (fn_of 6 (by decide) (by decide)) sn_fun (wpAny_pure q')))
    · exact bm_if_false rfl (wpAny_bind (none_of (fn_of 7 (by decide) (by decide)) sn_fun (wpAny_pure q')))
    · exact bm_if_false rfl (wpAny_bind (none_of (fn_of 8 (by decide) (by decide)) sn_fun (wpAny_pure q')))
    · exact bm_if_false rfl (wpAny_bind (none_of (fn_of 9 (by decide) (by decide)) sn_fun (wpAny_pure q')))
    · exact bm_if_false rfl (wpAny_bind (none_of (v := .none) (T := "NoneType") rfl sn_none (wpAny_pure q')))
    · exact bm_if_false rfl (wpAny_bind (none_of (v := .ref st) (let ⟨o, e, c⟩ := hst'; ⟨o, mm_old D e, c⟩) sn_tup (wpAny_pure q')))
    · exact bm_if_false rfl (wpAny_bind (none_of (v := .ref dsc) ⟨_, mm_at D (.head _), rfl⟩ sn_mem (wpAny_pure q')))
    · exact bm_if_false rfl (wpAny_bind (none_of (v := .none) (T := "NoneType") rfl sn_none (wpAny_pure q')))
  have hCa := mm_at D (a := a) (.tail _ (.head _))
  refine wpAny_bind ((hA.mono hkb).wk (by decide) (super_x (ns := ns) hCa fun so h1 D1 => ?_))
  have k1' : ∀ b o, h.get? b = some o → h1.get? b = some o := fun b o e => mm_old D1 e
  refine wpAny_bind (wpAny_holding (super_attr (hA.mono hkb) (by decide) (mm_at D1 (.head _)) (k1' _ _ hCa) (k1' _ _ (mm_old D hS')) hS1 fun bm h2 t2 D2 => ?_))
  have k2' : ∀ b o, h1.get? b = some o → h2.get? b = some o := fun b o e => mm_old D2 e
  refine wpAny_bind ((hA.mono hkb).wk (by decide) (initsub_x (k2' _ _ (k1' _ _ hCa)) (mm_at D2 (.head _)) (wpAny_pure (wpAny_pure ?_))))
  have k3 : ∀ b o, h.get? b = some o → h2.get? b = some o := fun b o e => k2' _ _ (k1' _ _ e)
  exact q ns a dsc k1 k2 _ _ _ t2 h2 (fun b o e => k3 _ _ (mm_old D (hk _ _ e))) ⟨hfr _ (D.nw _ (.tail _ (.tail _ (.head _)))).2, hfr _ (D.nw _ (.tail _ (.head _))).2, hfr _ (D.nw _ (.head _)).2⟩ (k3 _ _ hCa) (k3 _ _ (mm_at D (.tail _ (.tail _ (.head _))))) (k3 _ _ (mm_at D (.head _)))
end Mine
end
noncomputable section
open PySem PySem.W PySem.W.X PyProof.Rows
set_option Elab.async false
set_option linter.unusedVariables false
set_option maxRecDepth 100000
namespace Mine
variable {prog : Program} {w : World} {A : Around} {h : Heap} {g : Array GenState} {d : Drawn} {t : Nat} {os : OsState} {E : Value → Shared → Prop}
theorem tc_check (a b c : Value) : checkTypeCall "type" ⟨[a, b, c], []⟩ = pure () := by kernel_rfl
theorem tc_mro : mroOf (.type "type") = pure [.type "type", .type "object"] := by kernel_rfl
theorem tc_made : Bind.madeBy (.type "type") = pure (some "type.__new__") := by kernel_rfl
theorem tc_newCheck (a b c : Value) : checkBuiltinCall "type.__new__" ⟨[.type "type", a, b, c], []⟩ = pure () := by kernel_rfl
theorem tc_plain : plainId "type.__new__" = true := by decide +kernel
theorem tc_entry : entryFor table "type.__new__" = some Builtin.«type.__new__» := entryFor_of_tree (by kernel_rfl)
theorem tc_slot_init : Slot "type" "__init__" "type.__init__" :=
  .of (owner := "type") (n := "__init__") (by rw [typeLookup_type, builtinLookup_eq_fast]; kernel_rfl) (by decide +kernel) (by decide +kernel) (by decide +kernel)
    (by first | exact .inl (by decide +kernel) | exact .inr (by decide +kernel)) (by rw [isSubtype_type]; kernel_rfl)
theorem tc_entry_init : entryFor table "type.__init__" = some Builtin.«type.__init__» := entryFor_of_tree (by kernel_rfl)
theorem tc_args_init (o a b c : Value) : argsOk "type.__init__" ⟨[o, a, b, c], []⟩ := by unfold argsOk; kernel_rfl
set_option maxHeartbeats 4000000 in
theorem call_type3 {k : Nat} {s : Shared} {n b c : Value} {Q : Value → Shared → Prop}
    (H : wpAny (model prog w) A.in1.in1 (Builtin.«type.__new__» ⟨[.type "type", n, b, c], []⟩) (fun fin s' => ∃ a o, fin = .done (.ret (.ref a)) ∧ s'.heap.get? a = some o ∧ o.cls = .type "type" ∧ Q (.ref a) s') noE s) :
    wpAny (model prog w) A (call (.type "type") [n, b, c]) Q E s := by
  refine wpAny_call (codeAny_of_tree ?_)
  show wpAny _ A.in1 (callAny (.type "type") ⟨[n, b, c], []⟩) _ _ s
  show wpAny _ A.in1 (pure (Fin.again (.builtin "type.__call__" ⟨.type "type" :: [n, b, c], []⟩))) _ _ s
  refine wpAny_pure ⟨Code.quiet_builtin _ (by decide +kernel), codeAny_builtin F.entry_type_call ?_⟩
  rw [Around.under_plain (weight_type_call_type "type" [n, b, c] []) (units_type_call_type "type" [n, b, c] [])]
  unfold Builtin.«type.__call__»
  repeat wp_delta
  refine bm_if_true rfl ?_
  refine bm_if_false rfl ?_
  refine bm_if_false rfl ?_
  repeat wp_delta
  refine bm_if_false (by decide +kernel) ?_
  refine wpAny_bind (wpAny_of_eq (tc_check _ _ _) ?_)
  refine wpAny_bind (wpAny_of_eq tc_mro ?_)
  refine bm_if_false rfl ?_
  refine wpAny_bind (wpAny_of_eq tc_made ?_)
  repeat wp_delta
  refine wpAny_bind (wpAny_pure ?_)
  refine wpAny_bind (wpAny_holding (wpAny_call (codeAny_of_tree ?_)))
  show wpAny _ A.in1.in1 (do checkBuiltinCall "type.__new__" ⟨[.type "type", n, b, c], []⟩; again (.builtin "type.__new__" ⟨[.type "type", n, b, c], []⟩)) _ _ _
  refine wpAny_bind (wpAny_of_eq (tc_newCheck _ _ _) (wpAny_pure ⟨plainId_quiet tc_plain _, codeAny_builtin tc_entry ?_⟩))
  rw [Around.under_plainId tc_plain _]
  refine wpAny_mono H (fun fin s' hf => ?_) fun _ _ x => x.elim
  obtain ⟨a, o, rfl, ho, hc, q⟩ := hf
  show wpAny _ _ _ _ _ _
  refine wpAny_bind (wpAny_isInstance ⟨o, ho, hc⟩ ty_sub3 ?_)
  refine bm_if_false rfl ?_
  refine wpAny_bind (wpAny_holding (wpAny_callSpecial?_slot (name := Str.ofString "__init__") ⟨o, ho, hc⟩ tc_slot_init (wpAny_call_entry tc_slot_init ⟨o, ho, hc⟩ tc_entry_init ?_ (tc_args_init _ _ _ _))))
  unfold Builtin.«type.__init__»
  refine bm_if_false rfl ?_
  refine bm_if_false rfl ?_
  refine wpAny_pure ⟨.none, rfl, ?_⟩
  exact bm_if_false rfl (wpAny_pure q)
end Mine
end
noncomputable section
open PySem PySem.W PySem.W.X PyProof.Rows
set_option Elab.async false
set_option linter.unusedVariables false
set_option maxRecDepth 100000
namespace Mine
section
variable {M : Model} {A : Around} {E : Value → Shared → Prop} {s : Shared}
theorem hd_at {h h' : Heap} {c P : Addr} (x : CodeHd h c P) (k : ∀ o, h.get? c = some o → h'.get? c = some o) : CodeHd h' c P := by
  obtain ⟨o, vs, file, tf, flags, tg, inF, text, tt, e, r⟩ := x
  exact ⟨o, vs, file, tf, flags, tg, inF, text, tt, k o e, r⟩
/-- a code table of the heap -/
structure Tab (h : Heap) (c P : Addr) (ps : Array Value) : Prop where
  hd : CodeHd h c P
  tab : h.get? P = some (tabObj ps)
  ok : TriplesOk ps.toList
theorem Tab.keeps {h h' : Heap} {c P : Addr} {ps : Array Value} (T : Tab h c P ps) (k : ∀ b o, h.get? b = some o → h'.get? b = some o) : Tab h' c P ps := ⟨T.hd.keeps k, k _ _ T.tab, T.ok⟩
theorem Tab.other {h h' : Heap} {c P : Addr} {ps : Array Value} (T : Tab h c P ps) {S : Addr → Prop} (k : ∀ b o, ¬ S b → h.get? b = some o → h'.get? b = some o) (hP : ¬ S P) (hc : ¬ S c) : Tab h' c P ps :=
  ⟨hd_at T.hd fun _ e => k _ _ hc e, k _ _ hP T.tab, T.ok⟩
/-- what a look for a code brings -/
noncomputable def Next (pos : Pos) (c' : Addr) (ps ps' : Array Value) : Prop := (codeAmong pos ps.toList = some (.ref c') ∧ ps' = ps) ∨ (codeAmong pos ps.toList = none ∧ ps' = ps ++ #[rawInt pos.line, rawInt pos.col, .ref c'])
theorem class_code {env : Env} {c P : Addr} {ps : Array Value} {pos : Pos} {firstLine : Nat} {name qualname : Str} {scope : Scope} {Q : Value → Shared → Prop} (hc : env.code = .ref c) (T : Tab s.heap c P ps) (hnf : codeAmong pos ps.toList = none)
    (hQ : ∀ c' P' h' tk, Heap.ExtBut P s.heap h' → s.heap.objs.size ≤ c' → s.heap.objs.size ≤ P' → c' ≠ P' → s.heap.objs.size ≤ h'.objs.size → Tab h' c' P' #[] → h'.CodeRec (.ref c') qualname → Tab h' c P (ps ++ #[rawInt pos.line, rawInt pos.col, .ref c']) → Q (.ref c') { s with heap := h', toks := tk }) :
    wpAny M A (classCode env pos firstLine name qualname scope) Q E s := by
  have hok := T.hd.code T.tab T.ok
  have htab := T.hd.tab T.tab
  obtain ⟨o, vs, file, tf, flags, tg, inF, text, tt, op, ho, hd, h11, h2, h7, h9, h10, hop, hpd, htr, hne⟩ := id hok
  unfold classCode codeAt
  rw [hc, if_neg (show ¬ ((Value.ref c == Value.none) = true) from Bool.false_ne_true)]
  refine wpAny_bind (wpAny_fieldsOf ho hd ?_)
  rw [h11]
  refine wpAny_bind (wpAny_fieldsOf hop hpd ?_)
  rw [hnf, h2, h7, h9, h10]
  refine wpAny_bind (wpAny_newCodeX fun c' P' h' tk hk hc' hP' hcode' htab' hrec' => ?_)
  have hop' := hk _ _ hop
  refine wpAny_bind (wpAny_updateFieldsOfTheText hop' hpd ?_)
  have hnew : (Obj.mapFields (fun vs => if (codeAmong pos vs.toList).isSome = true then vs else vs ++ #[rawInt pos.line, rawInt pos.col, .ref c']) op).data =
      .fields (ps ++ #[rawInt pos.line, rawInt pos.col, .ref c']) := by
    rw [Obj.data_mapFields hpd, hnf]; rfl
  have hget := Heap.get?_update_self (h := h') (fun o => Obj.mapFields (fun vs => if (codeAmong pos vs.toList).isSome = true then vs else
    vs ++ #[rawInt pos.line, rawInt pos.col, .ref c']) o) hop' (Obj.isFreed_of_fields hnew)
  refine wpAny_bind (wpAny_fieldsOf hget hnew ?_)
  have hl : (ps ++ #[rawInt pos.line, rawInt pos.col, Value.ref c']).toList = ps.toList ++ [rawInt pos.line, rawInt pos.col, .ref c'] := by simp
  rw [hl, codeAmong_snoc _ htr hnf]
  have hcP : c' ≠ P := Nat.ne_of_gt (Nat.lt_of_lt_of_le (Heap.lt_size hop) hc')
  have hP'P : P' ≠ P := Nat.ne_of_gt (Nat.lt_of_lt_of_le (Heap.lt_size hop) hP')
  have sb := Heap.SameBut.update h' P (fun o => Obj.mapFields (fun vs => if (codeAmong pos vs.toList).isSome = true then vs else vs ++ #[rawInt pos.line, rawInt pos.col, .ref c']) o)
  have hd' := CodeHd.of hcode' htab'
  refine wpAny_pure (hQ c' P' _ _ (fun b o' hb e => sb.extBut b o' hb (hk b o' e)) hc' hP' ?_ ?_ ?_ ?_ ?_)
  · obtain ⟨_, _, _, _, _, _, _, _, _, _, _, _, _, _, _, _, _, _, r⟩ := hd'; exact r
  · rw [Heap.size_after_update]; exact Nat.le_trans hc' (Nat.le_of_lt hcode'.lt.1)
  · exact ⟨hd_at hd' fun _ e => sb.extBut _ _ hcP e, sb.extBut _ _ hP'P htab'.2, trivial⟩
  · obtain ⟨c₂, o₂, vs₂, t₂, e₂, g₂, r₂⟩ := hrec'
    cases e₂
    exact ⟨_, o₂, vs₂, t₂, rfl, sb.extBut _ _ hcP g₂, r₂⟩
  · refine ⟨hd_at T.hd fun _ e => sb.extBut _ _ hne (hk _ _ e), ?_, by rw [hl]; exact TriplesOk_snoc _ _ _ _ htr⟩
    have e1 : op = tabObj ps := Option.some.inj (hop.symm.trans T.tab)
    rw [hget, e1]
    simp only [Obj.mapFields, hnf]
    rfl
theorem class_code_hit {env : Env} {c P : Addr} {ps : Array Value} {pos : Pos} {firstLine : Nat} {name qualname : Str} {scope : Scope} {c' : Value} {Q : Value → Shared → Prop} (hc : env.code = .ref c) (T : Tab s.heap c P ps) (hf : codeAmong pos ps.toList = some c') (q : Q c' s) :
    wpAny M A (classCode env pos firstLine name qualname scope) Q E s := wpAny_codeAt_hit hc (T.hd.code T.tab T.ok) hf q
/-- a function's code -/
noncomputable def CodeK (h : Heap) (c : Addr) (q : Str) : Prop := ∃ o vs t, h.get? c = some o ∧ o.cls = .type "code" ∧ o.data = .fields vs ∧ vs[1]? = some (.str q t)
theorem CodeK.cr {h : Heap} {c : Addr} {q : Str} (x : CodeK h c q) : h.CodeRec (.ref c) q := let ⟨o, vs, t, e, _, r⟩ := x; ⟨c, o, vs, t, rfl, e, r⟩
theorem CodeK.of {h : Heap} {c P : Addr} {ps : Array Value} {q : Str} (x : h.CodeRec (.ref c) q) (y : h.TableAt c P ps) : CodeK h c q := by
  obtain ⟨c₂, o₂, vs₂, t₂, e₂, g₂, r₂⟩ := x
  cases e₂
  obtain ⟨⟨o, vs, e, hc, _⟩, _⟩ := y
  rw [g₂] at e; cases e
  exact ⟨o₂, vs₂, t₂, g₂, hc, r₂⟩
theorem CodeK.keeps {h h' : Heap} {c : Addr} {q : Str} (x : CodeK h c q) (k : ∀ b o, h.get? b = some o → h'.get? b = some o) : CodeK h' c q := let ⟨o, vs, t, e, r⟩ := x; ⟨o, vs, t, k _ _ e, r⟩
/-- a def's function -/
noncomputable abbrev defFn (name qual : Str) (params : Arguments) (body : FuncBody) (scope : Scope) (cl : List (Str × Addr)) (pm cdv ct : Value) : FuncData :=
  { name, qualname := qual, params, body, scope, globals := mainGlobals, closure := cl, defaults := .none, kwdefaults := .none, doc := .none, pyModule := pm, annotations := none, code := cdv, closureTuple := ct, builtins := builtinsNs }
noncomputable abbrev fnObj (fd : FuncData) : Obj := { cls := .type "function", data := .func fd }
theorem mk_fn {name qual : Str} {params : Arguments} {body : FuncBody} {scope : Scope} {env : Env} {c P : Addr} {ps : Array Value} {pos : Pos} {firstLine : Nat} {mg : Str → Option Value} {clos : List (Str × Addr)} {Q : Value → Shared → Prop}
    (hcl : closureFor scope env = pure clos) (hge0 : env.globals = mainGlobals) (hg : s.heap.Ns mainGlobals mg) (hcode : env.code = .ref c) (T : Tab s.heap c P ps) (hdoc : ∀ b, body = .stmts b → docOf b = none)
    (hn : codeAmong pos ps.toList = none ∨ ∃ c', codeAmong pos ps.toList = some (.ref c') ∧ CodeK s.heap c' qual) (hgP : mainGlobals ≠ P) (hb : s.heap.BuiltinsAt mg P)
    (h : ∀ c' ctv h' tk ps', Heap.ExtBut P s.heap h' → s.heap.objs.size ≤ h'.objs.size → Next pos c' ps ps' → CodeK h' c' qual → Tab h' c P ps' →
      Q (.ref h'.objs.size) { s with heap := h'.push (fnObj (defFn name qual params body scope clos ((mg "__name__").getD .none) (.ref c') ctv)), toks := tk }) :
    wpAny M A (makeFunction name qual params body scope env [] [] [] pos firstLine) Q E s := by
  obtain ⟨bm, ob, hbm, hne0, _, hneP, hbo, hcls, hdict, hdata⟩ := hb
  have docs : ∀ {Q : Value → Shared → Prop} {s : Shared}, Q .none s → wpAny M A (match body with | .stmts b => (match docOf b with | some s => mkText s | none => pure .none) | .expr _ => pure .none) Q E s := fun {Q s} q => by
    cases body with
    | stmts b => simp only [hdoc b rfl]; exact wpAny_pure q
    | expr e => exact wpAny_pure q
  rw [makeFunction_eq]
  simp only [List.zip_nil_right, List.filterMap_nil, List.isEmpty_nil, if_true, pure_bind]
  unfold makeTail
  rw [hcl, hge0]
  refine wpAny_bind (wpAny_pure ?_)
  have fin : ∀ (ctv : Value) (s' : Shared), (∃ H : Heap, s'.heap = H) → Heap.ExtBut P s.heap s'.heap → s.heap.objs.size ≤ s'.heap.objs.size → Tab s'.heap c P ps → s'.heap.Ns mainGlobals mg → s'.heap.get? bm = some ob → (∀ c', CodeK s.heap c' qual → CodeK s'.heap c' qual) →
      (∀ h' tk, { s' with heap := h', toks := tk } = { s with heap := h', toks := tk }) →
      wpAny M A (functionCode env pos firstLine name qual params scope body) (fun cd s₁ => wpAny M A (builtinsFor mainGlobals env.builtins) (fun b s₂ => wpAny M A (nsGet mainGlobals "__name__") (fun nm s₃ => wpAny M A (match body with | .stmts b => (match docOf b with | some s => mkText s | none => pure .none) | .expr _ => pure .none) (fun dv s₄ =>
        wpAny M A (newObj (.type "function") (.func { name, qualname := qual, params, body, scope, globals := mainGlobals, closure := clos, closureTuple := ctv, code := cd, builtins := b, defaults := .none, kwdefaults := .none, annotations := none, pyModule := nm.getD .none, doc := dv })) Q E s₄) E s₃) E s₂) E s₁) E s' := by
    intro ctv s' _ hx hsz T' hg' hbo' hrk hss
    rcases hn with hnf | ⟨c', hf, hr⟩
    · refine wpAny_functionCodeX hcode (T'.hd.code T'.tab T'.ok) (T'.hd.tab T'.tab) hnf fun c' h' tk hx' hge hlt hok hrec htb ⟨P', _, _, htc⟩ => ?_
      have hg'' := hg'.extBut hx' hgP
      refine wpAny_builtinsFor hg'' hbm hne0 (hx' _ _ hneP hbo') hcls hdict hdata ?_
      refine wpAny_nsGet hg'' (docs (wpAny_newObj_type ?_ (by size_fits)))
      have hne : c ≠ P := by obtain ⟨_, _, _, _, _, _, _, _, _, _, _, _, _, _, _, _, _, _, r⟩ := T'.hd; exact r
      have T2 : Tab h' c P (ps ++ #[rawInt pos.line, rawInt pos.col, .ref c']) := ⟨CodeHd.of hok htb, htb.2, by
        have hl : (ps ++ #[rawInt pos.line, rawInt pos.col, Value.ref c']).toList = ps.toList ++ [rawInt pos.line, rawInt pos.col, .ref c'] := by simp
        rw [hl]; exact TriplesOk_snoc _ _ _ _ T'.ok⟩
      have := h c' ctv h' tk _ (fun b o hb e => hx' b o hb (hx b o hb e)) (Nat.le_trans hsz (Nat.le_of_lt (Nat.lt_of_le_of_lt hge hlt))) (.inr ⟨hnf, rfl⟩) (CodeK.of hrec htc) T2
      rw [← hss] at this
      exact this
    · refine wpAny_functionCode_hit hcode (T'.hd.code T'.tab T'.ok) hf ?_
      refine wpAny_builtinsFor hg' hbm hne0 hbo' hcls hdict hdata ?_
      refine wpAny_nsGet hg' (docs (wpAny_newObj_type ?_ (by size_fits)))
      have := h c' ctv s'.heap s'.toks ps hx hsz (.inl ⟨hf, rfl⟩) (hrk _ hr) T'
      rw [← hss] at this
      exact this
  have last : ∀ {F : Value → Sem Value} {s₃ : Shared}, wpAny M A (match body with | .stmts b => (match docOf b with | some s => mkText s | none => pure .none) | .expr _ => pure .none) (fun dv s₄ => wpAny M A (F dv) Q E s₄) E s₃ →
      wpAny M A (match body with | .stmts b => ((match docOf b with | some s => mkText s | none => pure .none) >>= F) | .expr _ => (pure .none >>= F)) Q E s₃ := fun {F s₃} h₃ => by
    cases body with
    | stmts b => exact wpAny_bind h₃
    | expr e => exact wpAny_bind h₃
  cases clos with
  | nil =>
    simp only [List.isEmpty_nil, if_true]
    refine wpAny_bind (wpAny_pure ?_)
    refine wpAny_bind (wpAny_mono (fin .none s ⟨_, rfl⟩ (fun _ _ _ e => e) (Nat.le_refl _) T hg hbo (fun _ r => r) fun _ _ => rfl) (fun cd s₁ h₁ => wpAny_bind (wpAny_mono h₁ (fun b s₂ h₂ => wpAny_bind (wpAny_mono h₂ (fun nm s₃ h₃ => last h₃) fun _ _ x => x)) fun _ _ x => x)) fun _ _ x => x)
  | cons q r =>
    simp only [List.isEmpty_cons, Bool.false_eq_true, if_false]
    refine wpAny_bind (wpAny_newTextTuple ?_)
    have kp : ∀ (oT : Obj) b o, s.heap.get? b = some o → (s.heap.push oT).get? b = some o := fun oT b o e => Heap.get?_push_of_some _ e
    refine wpAny_bind (wpAny_mono (fin _ _ ⟨_, rfl⟩ (fun b o _ e => kp _ b o e) (by rw [Heap.size_push]; omega) (T.keeps (kp _)) (hg.push _) (kp _ _ _ hbo) (fun c' x => x.keeps (kp _)) fun _ _ => rfl) (fun cd s₁ h₁ => wpAny_bind (wpAny_mono h₁ (fun b s₂ h₂ => wpAny_bind (wpAny_mono h₂ (fun nm s₃ h₃ => last h₃) fun _ _ x => x)) fun _ _ x => x)) fun _ _ x => x)
end
end Mine
end
noncomputable section
open PySem PySem.W PySem.W.X PyProof.Rows
set_option Elab.async false
set_option linter.unusedVariables false
set_option maxRecDepth 100000
namespace Mine
section
variable {M : Model} {A : Around} {E : Value → Shared → Prop} {s : Shared}
theorem s_nsSet {a : Addr} {name : Str} {v : Value} {es : List DictEntry} {n n' : Nat} {es' : Int → Value → List DictEntry} {Q : Unit → Shared → Prop} (ho : s.heap.get? a = some (dobj es n)) (e1 : aRefKeyMayBeTheName name es.toArray = false) (e2 : ∀ k x, Obj.putName name k x v (dobj es n) = dobj (es' k x) n')
    (q : ∀ k h', Heap.SameBut a s.heap h' → h'.get? a = some (dobj (es' k (.str name s.toks)) n') → Q () { s with heap := h', toks := s.toks + 1 }) : wpAny M A (nsSet a name v) Q E s := by
  unfold nsSet strHash
  refine wpAny_bind (wpAny_bind (wpAny_askSetting (wpAny_pure ?_)))
  refine wpAny_bind (wpAny_mkText ?_)
  refine wpAny_bind (wpAny_loadPart ho ?_)
  show wpAny M A (if aRefKeyMayBeTheName name es.toArray = true then _ else _) Q E _
  rw [e1]
  have key : ∀ hh, Q () { s with heap := s.heap.update a (Obj.putName name hh (.str name s.toks) v), toks := s.toks + 1 } := fun hh => q hh _ (Heap.SameBut.update ..) (by
    have := Heap.get?_update_self (h := s.heap) (Obj.putName name hh (Value.str name s.toks) v) ho (by rw [e2]; rfl)
    rw [e2] at this
    exact this)
  exact wpAny_updatePart ho (key _)
theorem store_cls {env : Env} {x : Str} {v : Value} {es : List DictEntry} {n n' : Nat} {es' : Int → Value → List DictEntry} {Q : Unit → Shared → Prop} (hk : env.scope.kind = .class) (hx : env.kindOf x = some .local ∨ (env.kindOf x = none ∧ compilersOwnNames.contains x = true)) (ho : s.heap.get? env.locals = some (dobj es n))
    (e1 : aRefKeyMayBeTheName x es.toArray = false) (e2 : ∀ k y, Obj.putName x k y v (dobj es n) = dobj (es' k y) n')
    (q : ∀ k h', Heap.SameBut env.locals s.heap h' → h'.get? env.locals = some (dobj (es' k (.str x s.toks)) n') → Q () { s with heap := h', toks := s.toks + 1 }) : wpAny M A (storeName env x v) Q E s := by
  have hl : wpAny M A (localSet env x v) Q E s := by
    unfold localSet
    exact wpAny_bind (wpAny_load ho (bm_if_true rfl (s_nsSet ho e1 e2 q)))
  have hb : env.blockKind = .class := by unfold Env.blockKind; rw [hk]; rfl
  unfold storeName
  rw [hb]
  rcases hx with hx | ⟨hx, hc⟩
  · rw [hx, hk]
    exact hl
  · rw [hx, hk, hc]
    exact hl
end
/-- the class body's state -/
structure Cb (nsA P : Addr) (h₁ h : Heap) (es : List DictEntry) (n : Nat) : Prop where
  keep : ∀ b o, b ≠ nsA → b ≠ P → h₁.get? b = some o → h.get? b = some o
  size : h₁.objs.size ≤ h.objs.size
  ns : h.get? nsA = some (dobj es n)
section
variable {prog : Program} {w : World} {A : Around} {E : Value → Shared → Prop} {h₁ h : Heap} {g : Array GenState} {d : Drawn} {t : Nat} {os : OsState} {env : Env} {c P : Addr} {es : List DictEntry} {n : Nat} {ps : Array Value}
theorem Cb.same {nsA : Addr} {h' : Heap} {es' : List DictEntry} {n' : Nat} (C : Cb nsA P h₁ h es n) (hs : Heap.SameBut nsA h h') (e : h'.get? nsA = some (dobj es' n')) : Cb nsA P h₁ h' es' n' :=
  ⟨fun b o a b' e' => (hs.2 b a).trans (C.keep b o a b' e'), Nat.le_trans C.size (Nat.le_of_eq hs.1.symm), e⟩
/-- x = 'text' in the class -/
theorem cls_str {x : Str} {p p2 pos : Pos} {v : Str} {k : Nat} {n' : Nat} {es' : Int → Value → Value → List DictEntry} {Q : Flow → Shared → Prop} (hk : env.scope.kind = .class) (hx : env.kindOf x = some .local) (hne : env.locals ≠ c ∧ env.locals ≠ P) (C : Cb env.locals P h₁ h es n) (T : Tab h c P ps)
    (e1 : aRefKeyMayBeTheName x es.toArray = false) (e2 : ∀ y k z, Obj.putName x k z y (dobj es n) = dobj (es' k z y) n')
    (q : ∀ k h' t', Cb env.locals P h₁ h' (es' k (.str x (t + 1)) (.str v t)) n' → Tab h' c P ps → (∀ b o, b ≠ env.locals → h.get? b = some o → h'.get? b = some o) → Q .next ⟨h', g, d, t', os⟩)
    (hs : swapsWith (.Constant (.str v) k p2) (some (.Name x p)) pos.line env = pure false) (hz : v.length ≤ sizeLine) : wpAny (model prog w) A (exec (.Assign [.Name x p] (.Constant (.str v) k p2) pos) env) Q E ⟨h, g, d, t, os⟩ := by
  refine wpAny_Assign_Name (wpAny_Constant_str ?_) hs
  refine store_cls hk (.inl hx) C.ns e1 (e2 _) fun k' h' hs' e' => ?_
  have kp : ∀ b o, ¬ b = env.locals → h.get? b = some o → h'.get? b = some o := fun b o hb e => (hs'.2 b hb).trans e
  exact q k' h' _ (C.same hs' e') (T.other kp (fun q => hne.2 q.symm) fun q => hne.1 q.symm) fun b o hb e => kp b o hb e
/-- x = ['text'] in the class -/
theorem cls_list {x : Str} {p p2 p3 pos : Pos} {v : Str} {k : Nat} {n' : Nat} {es' : Int → Value → Value → List DictEntry} {Q : Flow → Shared → Prop} (hk : env.scope.kind = .class) (hx : env.kindOf x = some .local) (hne : env.locals ≠ c ∧ env.locals ≠ P) (C : Cb env.locals P h₁ h es n) (T : Tab h c P ps)
    (e1 : aRefKeyMayBeTheName x es.toArray = false) (e2 : ∀ y k z, Obj.putName x k z y (dobj es n) = dobj (es' k z y) n')
    (q : ∀ k l t0 t1 h' t', Cb env.locals P h₁ h' (es' k (.str x t0) (.ref l)) n' → Tab h' c P ps → (∀ b o, b ≠ env.locals → h.get? b = some o → h'.get? b = some o) → h'.get? l = some { cls := .type "list", data := .seq #[.str v t1] } → Q .next ⟨h', g, d, t', os⟩)
    (hs : swapsWith (.List [.Constant (.str v) k p2] p3) (some (.Name x p)) pos.line env = pure false) : wpAny (model prog w) A (exec (.Assign [.Name x p] (.List [.Constant (.str v) k p2] p3) pos) env) Q E ⟨h, g, d, t, os⟩ := by
  refine wpAny_Assign_Name (wpAny_List_spliced (args_cons (wpAny_Constant_str (args_nil ?_)))) hs
  refine ⟨by size_fits, ?_⟩
  have kp0 : ∀ b o, h.get? b = some o → (h.push { cls := .type "list", dict := none, data := .seq [Value.str v t].toArray }).get? b = some o := fun b o e => Heap.get?_push_of_some _ e
  refine store_cls hk (.inl hx) (kp0 _ _ C.ns) e1 (e2 _) fun k' h' hs' e' => ?_
  have hl : (h.push { cls := .type "list", dict := none, data := .seq [Value.str v t].toArray }).get? h.objs.size = some { cls := .type "list", data := .seq [Value.str v t].toArray } := Heap.get?_push_size _ rfl
  have kp : ∀ b o, ¬ b = env.locals → h.get? b = some o → h'.get? b = some o := fun b o hb e => (hs'.2 b hb).trans (kp0 _ _ e)
  have hlne : h.objs.size ≠ env.locals := Nat.ne_of_gt (Heap.lt_size C.ns)
  have C' : Cb env.locals P h₁ (h.push { cls := .type "list", dict := none, data := .seq [Value.str v t].toArray }) es n := ⟨fun b o a b' e => kp0 _ _ (C.keep b o a b' e), Nat.le_trans C.size (by rw [Heap.size_push]; omega), kp0 _ _ C.ns⟩
  exact q k' _ _ t h' _ (C'.same hs' e') (T.other kp (fun q => hne.2 q.symm) fun q => hne.1 q.symm) (fun b o hb e => kp b o hb e) ((hs'.2 _ hlne).trans hl)
theorem cls_none {x : Str} {p p2 pos : Pos} {k : Nat} {n' : Nat} {es' : Int → Value → List DictEntry} {Q : Flow → Shared → Prop} (hk : env.scope.kind = .class) (hx : env.kindOf x = some .local) (hne : env.locals ≠ c ∧ env.locals ≠ P) (C : Cb env.locals P h₁ h es n) (T : Tab h c P ps)
    (e1 : aRefKeyMayBeTheName x es.toArray = false) (e2 : ∀ k z, Obj.putName x k z .none (dobj es n) = dobj (es' k z) n')
    (q : ∀ k t0 h' t', Cb env.locals P h₁ h' (es' k (.str x t0)) n' → Tab h' c P ps → (∀ b o, b ≠ env.locals → h.get? b = some o → h'.get? b = some o) → Q .next ⟨h', g, d, t', os⟩)
    (hs : swapsWith (.Constant .none k p2) (some (.Name x p)) pos.line env = pure false) : wpAny (model prog w) A (exec (.Assign [.Name x p] (.Constant .none k p2) pos) env) Q E ⟨h, g, d, t, os⟩ := by
  refine wpAny_Assign_Name (wpAny_Constant_none ?_) hs
  refine store_cls hk (.inl hx) C.ns e1 e2 fun k' h' hs' e' => ?_
  have kp : ∀ b o, ¬ b = env.locals → h.get? b = some o → h'.get? b = some o := fun b o hb e => (hs'.2 b hb).trans e
  exact q k' _ h' _ (C.same hs' e') (T.other kp (fun q => hne.2 q.symm) fun q => hne.1 q.symm) fun b o hb e => kp b o hb e
/-- a def in the class -/
theorem cls_def {name qual : Str} {args : Arguments} {body : List Stmt} {scope : Scope} {pos : Pos} {mg : Str → Option Value} {clos : List (Str × Addr)} {n' : Nat} {es' : Int → Value → Value → List DictEntry} {Q : Flow → Shared → Prop} (hk : env.scope.kind = .class) (hx : env.kindOf name = some .local) (hne : env.locals ≠ c ∧ env.locals ≠ P) (C : Cb env.locals P h₁ h es n) (T : Tab h c P ps)
    (e1 : aRefKeyMayBeTheName name es.toArray = false) (e2 : ∀ y k z, Obj.putName name k z y (dobj es n) = dobj (es' k z y) n')
    (hd : defaultsOf args env = ([], [])) (ha : annTrees args none env = []) (hq : qualnameIn env name name = qual) (hdoc : docOf body = none) (hcl : closureFor scope env = pure clos) (hge0 : env.globals = mainGlobals) (hg : h.Ns mainGlobals mg) (hcode : env.code = .ref c)
    (hn : codeAmong pos ps.toList = none ∨ ∃ c', codeAmong pos ps.toList = some (.ref c') ∧ CodeK h c' qual) (hgP : mainGlobals ≠ P ∧ mainGlobals ≠ env.locals) (hb : h.BuiltinsAt mg P)
    (q : ∀ k t0 f c' ctv ps' h' t', Cb env.locals P h₁ h' (es' k (.str name t0) (.ref f)) n' → Tab h' c P ps' → (∀ b o, b ≠ env.locals → b ≠ P → h.get? b = some o → h'.get? b = some o) → Next pos c' ps ps' → CodeK h' c' qual → h'.get? f = some (fnObj (defFn name qual args (.stmts body) scope clos ((mg "__name__").getD .none) (.ref c') ctv)) → h.objs.size ≤ f → Q .next ⟨h', g, d, t', os⟩) :
    wpAny (model prog w) A (exec (.FunctionDef name args body [] none [] scope none name pos) env) Q E ⟨h, g, d, t, os⟩ := by
  rw [exec_def, hd, ha, hq]
  refine wpAny_bind (wpAny_standAt (wpAny_bind (wpAny_holding (wpAny_bind (wpAny_pure (wpAny_bind (wpAny_holding (wpAny_pure (wpAny_holding (wpAny_bind (wpAny_pure ?_))))))))))) 
  refine mk_fn (s := ⟨h, g, d, t, os⟩) hcl hge0 hg hcode T (fun b e => by cases e; exact hdoc) hn hgP.1 hb fun c' ctv h2 tk ps' hx2 hsz hnx hrec T2 => ?_
  refine wpAny_bind (wpAny_standAt (wpAny_bind (wpAny_bindName ?_)))
  have kp0 : ∀ b o, h2.get? b = some o → (h2.push (fnObj (defFn name qual args (.stmts body) scope clos ((mg "__name__").getD .none) (.ref c') ctv))).get? b = some o := fun b o e => Heap.get?_push_of_some _ e
  have nsP : env.locals ≠ P := hne.2
  have hns : (h2.push (fnObj (defFn name qual args (.stmts body) scope clos ((mg "__name__").getD .none) (.ref c') ctv))).get? env.locals = some (dobj es n) := kp0 _ _ (hx2 _ _ nsP C.ns)
  have hsz' : h.objs.size ≤ h2.objs.size := hsz
  refine store_cls hk (.inl hx) hns e1 (e2 _) fun k' h' hs' e' => ?_
  have hf : (h2.push (fnObj (defFn name qual args (.stmts body) scope clos ((mg "__name__").getD .none) (.ref c') ctv))).get? h2.objs.size = some (fnObj (defFn name qual args (.stmts body) scope clos ((mg "__name__").getD .none) (.ref c') ctv)) := Heap.get?_push_size _ rfl
  have lns := Heap.lt_size C.ns
  have hfne : h2.objs.size ≠ env.locals := Nat.ne_of_gt (Nat.lt_of_lt_of_le lns hsz')
  have kp : ∀ b o, ¬ b = env.locals → h2.get? b = some o → h'.get? b = some o := fun b o hb e => (hs'.2 b hb).trans (kp0 _ _ e)
  have C' : Cb env.locals P h₁ (h2.push (fnObj (defFn name qual args (.stmts body) scope clos ((mg "__name__").getD .none) (.ref c') ctv))) es n := ⟨fun b o a b' e => kp0 _ _ (hx2 _ _ b' (C.keep b o a b' e)), Nat.le_trans C.size (Nat.le_trans hsz' (by rw [Heap.size_push]; omega)), hns⟩
  have hrec' : CodeK h' c' qual := by
    obtain ⟨o₂, vs₂, t₂, g₂, hcc, r₂⟩ := hrec
    refine ⟨o₂, vs₂, t₂, kp _ _ (fun q => ?_) g₂, hcc, r₂⟩
    have e3 := hx2 _ _ nsP C.ns
    rw [q] at g₂
    have := Option.some.inj (g₂.symm.trans e3)
    rw [this] at r₂
    cases r₂.1
  exact wpAny_pure (q k' _ _ c' ctv ps' h' _ (C'.same hs' e') (T2.other kp (fun q => hne.2 q.symm) fun q => hne.1 q.symm) (fun b o hb hb' e => kp b o hb (hx2 _ _ hb' e)) hnx hrec' ((hs'.2 _ hfne).trans hf) hsz')
end
end Mine
end
noncomputable section
open PySem PySem.W PySem.W.X PyProof.Rows
set_option Elab.async false
set_option linter.unusedVariables false
set_option maxRecDepth 100000
namespace Mine
variable {prog : Program} {w : World} {G : Heap → Prop} {Z : Addr → Prop}
/-- a call that may turn the objects of O -/
noncomputable def CallO (prog : Program) (w : World) (G : Heap → Prop) (k : Nat) (O : Addr → Prop) (P : Heap → Prop) (f : Value) (ds : List D) (R : (Addr → Prop) → Heap → Value → Prop) : Prop :=
  ∀ A, Bud k A → ∀ X h g dr tk o vs, G h → Alive X h → (∀ b, O b → X b) → P h → Reps h X ds vs → wpJ (model prog w) A (call f vs) (Post g dr o O h fun h' v => R X h' v) ⟨h, g, dr, tk, o⟩
theorem call_fnO (W : Glob G Z) {a : Addr} {fd : FuncData} {body : List Stmt} {names : List Str} {ds : List D} {k : Nat} {O : Addr → Prop} {P : Heap → Prop} {R : (Addr → Prop) → Heap → Value → Prop} (hP : ∀ h h', Le h h' → P h → P h')
    (hG : ∀ h, G h → ∃ o, h.get? a = some o ∧ o.data = .func fd ∧ h.CodeRec fd.code fd.qualname)
    (hbody : fd.body = .stmts body) (hclo : fd.closure = [])
    (hbind : ∀ vs : List Value, vs.length = ds.length → bindArgs fd ⟨vs, []⟩ = pure (names.zip vs))
    (hloc : ∀ x ∈ names, fd.scope.names.lookup x = some .local ∨ fd.scope.names.lookup x = some .cell)
    (H : ∀ L, ¬ Z L → ∀ A, Bud k A → ∀ X h g dr tk o, (∀ b, O b → X b ∧ ¬ Mut (callEnvC fd L a) b) → (∀ b, X b → ¬ Mut (callEnvC fd L a) b) → Fok G Z X h (callEnvC fd L a) (bindR names ds nil) → P h → wpJ (model prog w) A (execs body (callEnvC fd L a)) (Post g dr o (fun b => Mut (callEnvC fd L a) b ∨ O b) h fun h' r => ∃ v, r = .ret v ∧ R X h' v) ⟨h, g, dr, tk, o⟩)
    (hco : fd.scope.isCoroutine = false := by rfl) (hgen : fd.scope.isGenerator = false := by rfl) (hk : fd.scope.kind = .function := by rfl) : CallO prog w G (k + 1) O P (.ref a) ds R := by
  intro A hA X h g dr tk o vs hg hx hO hPh r
  obtain ⟨ob, ho, hd, hcr⟩ := hG h hg
  refine wpJ_call (codeJ_call_cells (binds := names.zip vs) (hA.lt) ho hd (W.lim h hg) hcr hbody (hbind vs r.length) hclo ?_ ?_ hco hgen hk)
  · intro x hm
    have hm1 : x.1 ∈ names := (List.of_mem_zip hm).1
    rcases hloc x.1 hm1 with q | q
    · exact .inl q
    · exact .inr ⟨q, cellsFrom_has _ _ _ _ q⟩
  · intro s₁ x
    generalize hE : callEnvC fd h.objs.size a = env at x
    have henvL : env.locals = h.objs.size := by rw [← hE]; rfl
    have henvS : env.scope = fd.scope := by rw [← hE]; rfl
    have henvC : env.cells = cellsFrom (h.objs.size + 1) fd.scope.names [] := by rw [← hE]; rfl
    obtain ⟨h₁, tk₁, hs₁⟩ := x.toInCall.same
    subst hs₁
    have gr : Le h h₁ := .keeps x.toInCall.keep
    have kk : ∀ y, env.kindOf y = fd.scope.names.lookup y := fun y => by show env.scope.names.lookup y = _; rw [henvS]
    have F : Fok G Z X h₁ env (bindR names ds nil) := by
      have rel := bind_rel (h := h₁) (X := X) (kd := env.kindOf) names ds vs (r.le gr) (fun _ => none) (fun _ => none) nil (fun _ _ e => nomatch e)
      refine ⟨W.grow no h h₁ (fun _ x => x.elim) gr hg, hx.le gr, by rw [henvL]; exact W.fresh h hg _ (Nat.le_refl _), ⟨_, x.toInCall.ns, fun y d' e k' => (rel y d' e).1 k'⟩, fun y d' e k' => ?_, fun y k' => ?_, fun y z c e1 e2 => name_of_addr x.apart (mem_of_lookup e1) (mem_of_lookup e2)⟩
      · obtain ⟨v, e1, r1⟩ := (rel y d' e).2 k'
        have hc : fd.scope.names.lookup y = some .cell := by
          rcases bindR_dom names ds nil y d' e with m | ⟨_, m⟩
          · rcases hloc y m with q | q
            · exact absurd ((kk y).trans q) k'
            · exact q
          · cases m
        have := cellsFrom_has fd.scope.names (h.objs.size + 1) [] y hc
        rw [← henvC] at this
        obtain ⟨c, hc'⟩ := Option.isSome_iff_exists.mp this
        exact ⟨c, v, hc', e1 ▸ x.cell y c hc', r1⟩
      · have hc : fd.scope.names.lookup y = some .cell := (kk y).symm.trans k'
        have := cellsFrom_has fd.scope.names (h.objs.size + 1) [] y hc
        rw [← henvC] at this
        obtain ⟨c, hc'⟩ := Option.isSome_iff_exists.mp this
        refine ⟨c, _, hc', x.cell y c hc', ?_⟩
        have q1 : h.objs.size < c := henvL ▸ x.above y c (mem_of_lookup hc')
        exact W.fresh h hg _ (Nat.le_of_lt q1)
    have mnew : ∀ b, Mut env b → ¬ ∃ ob', h.get? b = some ob' := fun b mt ⟨ob', e⟩ => by
      have hlt := Heap.lt_size e
      rcases mt with q | ⟨y, hk1, hk2⟩
      · rw [q, henvL] at hlt; exact Nat.lt_irrefl _ hlt
      · have q1 : h.objs.size < b := henvL ▸ x.above y b (mem_of_lookup hk2)
        exact Nat.lt_irrefl _ (Nat.lt_trans hlt q1)
    subst hE
    refine wpJ_mono (H h.objs.size (W.fresh h hg _ (Nat.le_refl _)) (A.deeper _) hA.deeper X h₁ g dr tk₁ o (fun b hb => ⟨hO b hb, fun mt => mnew b mt (hx b (hO b hb))⟩) (fun b xb mt => mnew b mt (hx b xb)) F (hP _ _ gr hPh)) fun f s' hf => ?_
    obtain ⟨h', t', rfl, gm, v, rfl, rv⟩ := hf
    exact ⟨v, rfl, h', t', rfl, ⟨fun b ob' nb e => gm.old b ob' (fun q => q.elim (fun mt => mnew b mt ⟨ob', e⟩) nb) (gr.old b ob' (fun x => x) e)⟩, rv⟩
end Mine
end
noncomputable section
open PySem PySem.W PySem.W.X PyProof.Rows
set_option Elab.async false
set_option linter.unusedVariables false
set_option maxRecDepth 100000
namespace Mine
section
variable {prog : Program} {w : World} {h : Heap} {g : Array GenState} {d : Drawn} {t : Nat} {os : OsState} {Q : Value → Shared → Prop} {E : Value → Shared → Prop}
local macro_rules | `(tactic| x_close) => `(tactic| (apply_assumption <;> assumption))
set_option maxHeartbeats 0 in
theorem prep_x {t0 : Tok} (q : ∀ m h', Mem h h' [] [(m, { cls := .type "builtin_function_or_method", data := .fields #[.builtin "type.__prepare__", .type "type"] })] → Q (.ref m) ⟨h', g, d, t, os⟩) :
    wpAny (model prog w) AK (call (.builtin "type.__getattribute__") [.type "type", .str (Str.ofString "__prepare__") t0]) Q E ⟨h, g, d, t, os⟩ := by
  x_run
set_option maxHeartbeats 0 in
theorem prepcall_x {m bT : Addr} {t0 : Tok} (hm : h.get? m = some ⟨.type "builtin_function_or_method", none, .fields #[.builtin "type.__prepare__", .type "type"], #[]⟩)
    (q : ∀ a h', Mem h h' [] [(a, { cls := .type "dict", data := .dict #[] 0 })] → Q (.ref a) ⟨h', g, d, t, os⟩) :
    wpAny (model prog w) AK (call (.ref m) [.str (Str.ofString "K") t0, .ref bT]) Q E ⟨h, g, d, t, os⟩ := by
  x_run
end
section
variable {M : Model} {A : Around} {E : Value → Shared → Prop} {h₀ h : Heap} {g : Array GenState} {d : Drawn} {t : Nat} {os : OsState} {chg news : List (Addr × Obj)}
theorem m_newTuple {vs : List Value} {Q : Value → Shared → Prop} (D : Mem h₀ h chg news) (hz : Nat.ble vs.length 1000 = true) (q : ∀ a h', Mem h₀ h' chg ((a, { cls := .type "tuple", data := .seq vs.toArray }) :: news) → Q (.ref a) ⟨h', g, d, t, os⟩) : wpAny M A (newTuple vs) Q E ⟨h, g, d, t, os⟩ :=
  wpAny_newObj_type (q _ _ (D.alloc rfl)) (small_fits (k := 0) hz)
end
theorem ty_slot_ga : Slot "type" "__getattribute__" "type.__getattribute__" :=
  .of (owner := "type") (n := "__getattribute__") (by rw [typeLookup_type, builtinLookup_eq_fast]; kernel_rfl) (by decide +kernel) (by decide +kernel) (by decide +kernel)
    (by first | exact .inl (by decide +kernel) | exact .inr (by decide +kernel)) (by rw [isSubtype_type]; kernel_rfl)
theorem ty_typeType : typeOf (.type "type") = pure (.type "type") := by kernel_rfl
variable {prog : Program} {w : World} {A : Around} {h : Heap} {g : Array GenState} {d : Drawn} {t : Nat} {os : OsState} {E : Value → Shared → Prop}
set_option maxHeartbeats 4000000 in
theorem prep_attr {k : Nat} (hA : Bud k A) (hk : 52 ≤ k) {Q : Option Value → Shared → Prop} (q : ∀ m h' t', Mem h h' [] [(m, { cls := .type "builtin_function_or_method", data := .fields #[.builtin "type.__prepare__", .type "type"] })] → Q (some (.ref m)) ⟨h', g, d, t', os⟩) :
    wpAny (model prog w) A (getAttr? (.type "type") (Str.ofString "__prepare__")) Q E ⟨h, g, d, t, os⟩ := by
  unfold getAttr? getAttrBy? getAttrBy
  refine wpAny_bind (wpAny_mkText (wpAny_bind (wpAny_attempt (wpAny_holding (wpAny_bind (wpAny_of_eq ty_typeType (wpAny_bind (wpAny_of_eq ty_slot_ga.lookup ?_))))))))
  repeat wp_delta
  refine bm_if_false (by decide +kernel) ?_
  unfold getAttrByItsOwn
  repeat wp_step
  refine wpAny_of_eq (ty_slot_ga.bind (.type "type")) ?_
  wp_delta
  refine Bud.wk (k := 52) (hA.mono hk) (by decide) (prep_x fun m h' D => ?_)
  exact wpAny_pure (wpAny_pure (q m h' _ D))
end Mine
end
noncomputable section
open PySem PySem.W PySem.W.X PyProof.Rows
set_option Elab.async false
namespace Mine
theorem and_t {a b : Bool} (h : a = true ∧ b = true) : (a && b) = true := by rw [h.1, h.2]; rfl
set_option maxRecDepth 100000 in
set_option maxHeartbeats 8000000 in
theorem said01 : PySem.Challenge.rw_mr0067_01.wellSaid = true := by
  unfold OpenLaw.wellSaid OpenRow.wellSaid OpenRow.partSaid looksOpen
  repeat' (first | with_reducible apply and_t | with_reducible apply And.intro)
  all_goals decide +kernel
noncomputable def view01 : Program := view PySem.Challenge.pw_mr0067_01 [1, 3, 6, 7, 8, 9, 10, 11, 12, 13, 14]
local macro_rules | `(tactic| k_head) => `(tactic| km_head)
local macro_rules | `(tactic| o_law) => `(tactic| refine holds_law said01 fun said => ?_)
local macro_rules | `(tactic| o_head $H) => `(tactic| (
  refine Mine.holds_openJ (q := view01) (loose := [Str.ofString "_initial_missing", Str.ofString "reduce"]) (Xt := fun s => xlAt view01 [] s && recOk (RowW.records (OpenRow.toRowW PySem.Challenge.rw_mr0067_01.row)) s) (XP := XL view01 []) (Yf := Hook.obs $H) (Ya := Hook.val $H) (YP := Hook.says $H) (N := 888) ?hl (Hook.of $H) (Hook.keeps $H) (fun s e => xl_of s (Bool.and_eq_true_iff.mp e).1) XL.keeps (by rfl) (by rfl) (by rfl) (fun s e => recFacts_of (Bool.and_eq_true_iff.mp e).2) (by rfl) (by first | assumption | decide +kernel) (by decide +kernel) ⟨rfl, rfl, rfl, rfl, rfl, by decide +kernel⟩ ?hw ?hc
  (case hl => (intro w; kernel_rfl))))
set_option maxRecDepth 100000 in
set_option maxHeartbeats 8000000 in
open_top hd01 for PySem.Challenge.rw_mr0067_01
end Mine
end
noncomputable section
open PySem PySem.W PySem.W.X PyProof.Rows
set_option Elab.async false
set_option linter.unusedVariables false
set_option maxRecDepth 100000
namespace Mine
noncomputable def fnOf (K : Frag) (a : Addr) : FuncData := match K.lookup a with
  | some ⟨_, _, .func fd, _⟩ => fd
  | _ => default
/-- the function cmp_to_key of the text -/
noncomputable def kFd (P : Params) : FuncData := fnOf (hd01.heap_1 P) 28
noncomputable def kBody (P : Params) : List Stmt := match (kFd P).body with
  | .stmts (.ClassDef _ _ _ b _ _ _ _ _ _ _ :: _) => b
  | _ => []
noncomputable def kScope (P : Params) : Scope := match (kFd P).body with
  | .stmts (.ClassDef _ _ _ _ _ _ sc _ _ _ _ :: _) => sc
  | _ => default
noncomputable def kenv (P : Params) (L nsA cK fr : Addr) : Env := { scope := kScope P, locals := nsA, globals := mainGlobals, cells := [(Str.ofString "mycmp", L + 1)], qual := qualnameIn (callEnvC (kFd P) L 28) (Str.ofString "K") (Str.ofString "K") ++ Str.ofString ".", code := .ref cK, frame := some fr, builtins := builtinsNs }
noncomputable def kq (i : Nat) : Str := match i with
  | 4 => Str.ofString "cmp_to_key.<locals>.K.__init__"
  | 5 => Str.ofString "cmp_to_key.<locals>.K.__lt__"
  | 6 => Str.ofString "cmp_to_key.<locals>.K.__gt__"
  | 7 => Str.ofString "cmp_to_key.<locals>.K.__eq__"
  | 8 => Str.ofString "cmp_to_key.<locals>.K.__le__"
  | _ => Str.ofString "cmp_to_key.<locals>.K.__ge__"
noncomputable def methFd (P : Params) (i : Nat) (cel : Addr) (pm cd ct : Value) : FuncData := match (kBody P)[i - 2]? with
  | some (.FunctionDef n ps b _ _ _ sc _ _ _) => defFn n (kq i) ps (.stmts b) sc (if i = 4 then [] else [(Str.ofString "mycmp", cel)]) pm cd ct
  | _ => default
/-- a method of the class -/
noncomputable def FnAt (P : Params) (h : Heap) (cel : Addr) (pm : Value) (i : Nat) (f c : Addr) : Prop := ∃ ct, h.get? f = some (fnObj (methFd P i cel pm (.ref c) ct)) ∧ CodeK h c (kq i)
/-- what makes need of the top -/
structure Gd (h : Heap) (mg : Str → Option Value) (PK nsA : Addr) : Prop where
  ns : h.Ns mainGlobals mg
  bu : h.BuiltinsAt mg PK
  bn : ∀ bm, mg "__builtins__" = some (.ref bm) → bm ≠ nsA
  g : mainGlobals ≠ PK ∧ mainGlobals ≠ nsA
theorem Gd.step {h h' : Heap} {mg : Str → Option Value} {PK nsA : Addr} (x : Gd h mg PK nsA) (k : ∀ b o, b ≠ nsA → b ≠ PK → h.get? b = some o → h'.get? b = some o) : Gd h' mg PK nsA := by
  refine ⟨?_, ?_, x.bn, x.g⟩
  · obtain ⟨o, es, ep, e, r⟩ := x.ns
    exact ⟨o, es, ep, k _ _ x.g.2 x.g.1 e, r⟩
  · obtain ⟨bm, o, h1, h2, h3, h4, h5, r⟩ := x.bu
    exact ⟨bm, o, h1, h2, h3, h4, k _ _ (x.bn bm h1) h4 h5, r⟩
theorem next_new {pos : Pos} {c' : Addr} {ps ps' : Array Value} (h : Next pos c' ps ps') (e : codeAmong pos ps.toList = none) : ps' = ps ++ #[rawInt pos.line, rawInt pos.col, .ref c'] := by
  rcases h with ⟨a, _⟩ | ⟨_, b⟩
  · rw [e] at a; cases a
  · exact b
theorem wpAny_runBody {prog : Program} {w : World} {A : Around} {E : Value → Shared → Prop} {s : Shared} {stmts : List Stmt} {env : Env} {Q : Flow → Shared → Prop} (hbs : blockStart stmts env = pure ()) (h : ∀ A, wpAny (model prog w) A (execs stmts env) Q noE s) : wpAny (model prog w) A (run (.body stmts env)) Q E s := by
  refine wpAny_run (codeAny_of_tree ?_)
  show wpAny _ _ (do blockStart stmts env; return Fin.done (← (execs stmts env).onRaise (leaving env))) _ _ _
  rw [hbs]
  exact wpAny_bind (wpAny_pure (wpAny_bind (wpAny_onRaise (wpAny_mono (h _) (fun f s' q => wpAny_pure q) fun _ _ x => x.elim))))
end Mine
end
noncomputable section
open PySem PySem.W PySem.W.X PyProof.Rows
set_option Elab.async false
set_option linter.unusedVariables false
set_option maxRecDepth 100000
namespace Mine
variable {prog : Program} {w : World} {A : Around} {E : Value → Shared → Prop} {h₁ h : Heap} {g : Array GenState} {d : Drawn} {t : Nat} {os : OsState}
theorem rec_step {nsA PK c : Addr} {H H' : Heap} {es : List DictEntry} {n : Nat} {ps : Array Value} {qq : Str} (e1 : H.get? nsA = some (dobj es n)) (e2 : H.get? PK = some (tabObj ps)) (ht : TriplesOk ps.toList) (kk : ∀ b o, b ≠ nsA → b ≠ PK → H.get? b = some o → H'.get? b = some o) (r : CodeK H c qq) : CodeK H' c qq := by
  obtain ⟨o₂, vs₂, t₂, g₂, hc, r₁, r₂⟩ := r
  refine ⟨o₂, vs₂, t₂, kk _ _ (fun z => ?_) (fun z => ?_) g₂, hc, r₁, r₂⟩
  · rw [z, e1] at g₂; cases g₂; cases r₁
  · rw [z, e2] at g₂; cases g₂; cases hc
theorem cls_ne {H : Heap} {a b : Addr} {o o' : Obj} {T U : String} (e : H.get? a = some o) (e' : H.get? b = some o') (h1 : o.cls = .type T) (h2 : o'.cls = .type U) (hne : T ≠ U) : a ≠ b := fun z => by
  rw [z, e'] at e
  have := Option.some.inj e
  rw [← this, h2] at h1
  injection h1 with h1
  exact hne h1.symm
theorem cls_none_ne {H : Heap} {a b : Addr} {o o' : Obj} {T : String} (e : H.get? a = some o) (e' : H.get? b = some o') (h1 : o.cls = .type T) (h2 : o'.cls = .none) : a ≠ b := fun z => by
  rw [z, e'] at e
  have := Option.some.inj e
  rw [← this, h2] at h1
  cases h1
theorem FnAt.step {P : Params} {nsA PK cel f c : Addr} {pm : Value} {i : Nat} {H H' : Heap} {es : List DictEntry} {n : Nat} {ps : Array Value} (e1 : H.get? nsA = some (dobj es n)) (e2 : H.get? PK = some (tabObj ps)) (ht : TriplesOk ps.toList) (kk : ∀ b o, b ≠ nsA → b ≠ PK → H.get? b = some o → H'.get? b = some o) (x : FnAt P H cel pm i f c) : FnAt P H' cel pm i f c := by
  obtain ⟨ct, e, r⟩ := x
  exact ⟨ct, kk _ _ (cls_ne e e1 rfl rfl (by decide)) (cls_none_ne e e2 rfl rfl) e, rec_step e1 e2 ht kk r⟩
theorem next_hit {pos : Pos} {c' c : Addr} {ps ps' : Array Value} (n : Next pos c' ps ps') (e : codeAmong pos ps.toList = some (.ref c)) : c = c' ∧ ps = ps' := by
  rcases n with ⟨a, b⟩ | ⟨a, _⟩
  · rw [e] at a; cases a; exact ⟨rfl, b.symm⟩
  · rw [e] at a; cases a
set_option maxHeartbeats 4000000 in
theorem cls_body (P : Params) {L nsA cK PK fr : Addr} {mg : Str → Option Value} {pm : Value} {k0 k1 k2 : Int} {a0 a1 a2 b1 b2 : Tok} {v0 : Value} {Q : Flow → Shared → Prop} (hpm : (mg "__name__").getD .none = pm)
    (C : Cb nsA PK h₁ h [⟨k0, .str (Str.ofString "__module__") a0, v0⟩, ⟨k1, .str (Str.ofString "__qualname__") a1, .str (Str.ofString "cmp_to_key.<locals>.K") b1⟩, ⟨k2, .str (Str.ofString "__firstlineno__") a2, .int 11 b2⟩] 3)
    (T : Tab h cK PK #[]) (G : Gd h mg PK nsA) (hne : nsA ≠ cK ∧ nsA ≠ PK)
    (q : ∀ (hs : Nat → Int) (ts : Nat → Nat) (fs cs : Nat → Addr) sl tS h' t', Cb nsA PK h₁ h' ((kEnt hs ts (Str.ofString "cpy313.functools") 11 sl fs 0).take 11) 11 → Tab h' cK PK #[rawInt 15, rawInt 8, .ref (cs 4), rawInt 18, rawInt 8, .ref (cs 5), rawInt 21, rawInt 8, .ref (cs 6), rawInt 24, rawInt 8, .ref (cs 7), rawInt 27, rawInt 8, .ref (cs 8), rawInt 30, rawInt 8, .ref (cs 9)] → (∀ b o, b ≠ nsA → b ≠ PK → h.get? b = some o → h'.get? b = some o) →
      h'.get? sl = some { cls := .type "list", data := .seq #[.str (Str.ofString "obj") tS] } → (∀ i, 4 ≤ i → i ≤ 9 → FnAt P h' (L + 1) pm i (fs i) (cs i)) → Q .next ⟨h', g, d, t', os⟩) :
    wpAny (model prog w) A (run (.body (kBody P) (kenv P L nsA cK fr))) Q E ⟨h, g, d, t, os⟩ := by
  refine wpAny_runBody (by kernel_rfl) fun A => ?_
  show wpAny _ _ (execs [_, _, _, _, _, _, _, _, _] _) _ _ _
  refine wpAny_execs_cons (cls_str (env := kenv P L nsA cK fr) (c := cK) (P := PK) (n' := 3) (es' := fun k z y => [⟨k0, .str (Str.ofString "__module__") a0, y⟩, ⟨k1, .str (Str.ofString "__qualname__") a1, .str (Str.ofString "cmp_to_key.<locals>.K") b1⟩, ⟨k2, .str (Str.ofString "__firstlineno__") a2, .int 11 b2⟩]) rfl rfl hne C T (by kernel_rfl) (by intro y k z; kernel_rfl) (fun k h2 t2 C2 T2 kp2 => ?_) rfl (by decide +kernel))
  have kk2 : ∀ b o, b ≠ nsA → b ≠ PK → h.get? b = some o → h2.get? b = some o := fun b o hb _ e => kp2 b o hb e
  have G2 := G.step kk2
  generalize htm : t = tm at C2
  refine wpAny_execs_cons (cls_list (env := kenv P L nsA cK fr) (c := cK) (P := PK) (n' := 4) (es' := fun k z y => [⟨k0, .str (Str.ofString "__module__") a0, .str (Str.ofString "cpy313.functools") tm⟩, ⟨k1, .str (Str.ofString "__qualname__") a1, .str (Str.ofString "cmp_to_key.<locals>.K") b1⟩, ⟨k2, .str (Str.ofString "__firstlineno__") a2, .int 11 b2⟩, ⟨k, z, y⟩]) rfl rfl hne C2 T2 (by kernel_rfl) (by intro y k z; kernel_rfl) (fun k3 sl a3 tS h3 t3 C3 T3 kp3 hsl3 => ?_) rfl)
  have kk3 : ∀ b o, b ≠ nsA → b ≠ PK → h2.get? b = some o → h3.get? b = some o := fun b o hb _ e => kp3 b o hb e
  have K3 : ∀ b o, b ≠ nsA → b ≠ PK → h.get? b = some o → h3.get? b = some o := fun b o hb hb' e => kk3 b o hb hb' (kk2 b o hb hb' e)
  have G3 := G2.step kk3
  refine wpAny_execs_cons (cls_def (env := kenv P L nsA cK fr) (c := cK) (P := PK) (n' := 5) (qual := kq 4) (clos := []) (es' := fun k z y => [⟨k0, .str (Str.ofString "__module__") a0, .str (Str.ofString "cpy313.functools") tm⟩, ⟨k1, .str (Str.ofString "__qualname__") a1, .str (Str.ofString "cmp_to_key.<locals>.K") b1⟩, ⟨k2, .str (Str.ofString "__firstlineno__") a2, .int 11 b2⟩, ⟨k3, .str (Str.ofString "__slots__") a3, .ref sl⟩, ⟨k, z, y⟩]) rfl rfl hne C3 T3 (by kernel_rfl) (by intro y k z; kernel_rfl) rfl rfl (by kernel_rfl) rfl rfl rfl G3.ns rfl (.inl (by kernel_rfl)) G3.g G3.bu (fun k4 a4 f4 c4 ct4 ps4 h4 t4 C4 T4 kk4 nx4 rc4 hf4 hfs4 => ?_))
  obtain rfl : ps4 = #[rawInt 15, rawInt 8, .ref c4] := (next_new nx4 (by kernel_rfl)).trans (by kernel_rfl)
  rw [hpm] at hf4
  have K4 : ∀ b o, b ≠ nsA → b ≠ PK → h.get? b = some o → h4.get? b = some o := fun b o hb hb' e => kk4 b o hb hb' (K3 b o hb hb' e)
  have G4 := G3.step kk4
  have hsl4 : h4.get? sl = some { cls := .type "list", data := .seq #[.str (Str.ofString "obj") tS] } := kk4 _ _ (cls_ne hsl3 C3.ns rfl rfl (by decide)) (cls_none_ne hsl3 T3.tab rfl rfl) hsl3
  have F4_4 : FnAt P h4 (L + 1) pm 4 f4 c4 := ⟨ct4, hf4, rc4⟩
  skip
  refine wpAny_execs_cons (cls_def (env := kenv P L nsA cK fr) (c := cK) (P := PK) (n' := 6) (qual := kq 5) (clos := [(Str.ofString "mycmp", L + 1)]) (es' := fun k z y => [⟨k0, .str (Str.ofString "__module__") a0, .str (Str.ofString "cpy313.functools") tm⟩, ⟨k1, .str (Str.ofString "__qualname__") a1, .str (Str.ofString "cmp_to_key.<locals>.K") b1⟩, ⟨k2, .str (Str.ofString "__firstlineno__") a2, .int 11 b2⟩, ⟨k3, .str (Str.ofString "__slots__") a3, .ref sl⟩, ⟨k4, .str (Str.ofString "__init__") a4, .ref f4⟩, ⟨k, z, y⟩]) rfl rfl hne C4 T4 (by kernel_rfl) (by intro y k z; kernel_rfl) rfl rfl (by kernel_rfl) rfl rfl rfl G4.ns rfl (.inl (by kernel_rfl)) G4.g G4.bu (fun k5 a5 f5 c5 ct5 ps5 h5 t5 C5 T5 kk5 nx5 rc5 hf5 hfs5 => ?_))
  obtain rfl : ps5 = #[rawInt 15, rawInt 8, .ref c4, rawInt 18, rawInt 8, .ref c5] := (next_new nx5 (by kernel_rfl)).trans (by kernel_rfl)
  rw [hpm] at hf5
  have K5 : ∀ b o, b ≠ nsA → b ≠ PK → h.get? b = some o → h5.get? b = some o := fun b o hb hb' e => kk5 b o hb hb' (K4 b o hb hb' e)
  have G5 := G4.step kk5
  have hsl5 : h5.get? sl = some { cls := .type "list", data := .seq #[.str (Str.ofString "obj") tS] } := kk5 _ _ (cls_ne hsl4 C4.ns rfl rfl (by decide)) (cls_none_ne hsl4 T4.tab rfl rfl) hsl4
  have F5_5 : FnAt P h5 (L + 1) pm 5 f5 c5 := ⟨ct5, hf5, rc5⟩
  have F4_5 := F4_4.step C4.ns T4.tab T4.ok kk5
  skip
  refine wpAny_execs_cons (cls_def (env := kenv P L nsA cK fr) (c := cK) (P := PK) (n' := 7) (qual := kq 6) (clos := [(Str.ofString "mycmp", L + 1)]) (es' := fun k z y => [⟨k0, .str (Str.ofString "__module__") a0, .str (Str.ofString "cpy313.functools") tm⟩, ⟨k1, .str (Str.ofString "__qualname__") a1, .str (Str.ofString "cmp_to_key.<locals>.K") b1⟩, ⟨k2, .str (Str.ofString "__firstlineno__") a2, .int 11 b2⟩, ⟨k3, .str (Str.ofString "__slots__") a3, .ref sl⟩, ⟨k4, .str (Str.ofString "__init__") a4, .ref f4⟩, ⟨k5, .str (Str.ofString "__lt__") a5, .ref f5⟩, ⟨k, z, y⟩]) rfl rfl hne C5 T5 (by kernel_rfl) (by intro y k z; kernel_rfl) rfl rfl (by kernel_rfl) rfl rfl rfl G5.ns rfl (.inl (by kernel_rfl)) G5.g G5.bu (fun k6 a6 f6 c6 ct6 ps6 h6 t6 C6 T6 kk6 nx6 rc6 hf6 hfs6 => ?_))
  obtain rfl : ps6 = #[rawInt 15, rawInt 8, .ref c4, rawInt 18, rawInt 8, .ref c5, rawInt 21, rawInt 8, .ref c6] := (next_new nx6 (by kernel_rfl)).trans (by kernel_rfl)
  rw [hpm] at hf6
  have K6 : ∀ b o, b ≠ nsA → b ≠ PK → h.get? b = some o → h6.get? b = some o := fun b o hb hb' e => kk6 b o hb hb' (K5 b o hb hb' e)
  have G6 := G5.step kk6
  have hsl6 : h6.get? sl = some { cls := .type "list", data := .seq #[.str (Str.ofString "obj") tS] } := kk6 _ _ (cls_ne hsl5 C5.ns rfl rfl (by decide)) (cls_none_ne hsl5 T5.tab rfl rfl) hsl5
  have F6_6 : FnAt P h6 (L + 1) pm 6 f6 c6 := ⟨ct6, hf6, rc6⟩
  have F4_6 := F4_5.step C5.ns T5.tab T5.ok kk6
  have F5_6 := F5_5.step C5.ns T5.tab T5.ok kk6
  skip
  refine wpAny_execs_cons (cls_def (env := kenv P L nsA cK fr) (c := cK) (P := PK) (n' := 8) (qual := kq 7) (clos := [(Str.ofString "mycmp", L + 1)]) (es' := fun k z y => [⟨k0, .str (Str.ofString "__module__") a0, .str (Str.ofString "cpy313.functools") tm⟩, ⟨k1, .str (Str.ofString "__qualname__") a1, .str (Str.ofString "cmp_to_key.<locals>.K") b1⟩, ⟨k2, .str (Str.ofString "__firstlineno__") a2, .int 11 b2⟩, ⟨k3, .str (Str.ofString "__slots__") a3, .ref sl⟩, ⟨k4, .str (Str.ofString "__init__") a4, .ref f4⟩, ⟨k5, .str (Str.ofString "__lt__") a5, .ref f5⟩, ⟨k6, .str (Str.ofString "__gt__") a6, .ref f6⟩, ⟨k, z, y⟩]) rfl rfl hne C6 T6 (by kernel_rfl) (by intro y k z; kernel_rfl) rfl rfl (by kernel_rfl) rfl rfl rfl G6.ns rfl (.inl (by kernel_rfl)) G6.g G6.bu (fun k7 a7 f7 c7 ct7 ps7 h7 t7 C7 T7 kk7 nx7 rc7 hf7 hfs7 => ?_))
  obtain rfl : ps7 = #[rawInt 15, rawInt 8, .ref c4, rawInt 18, rawInt 8, .ref c5, rawInt 21, rawInt 8, .ref c6, rawInt 24, rawInt 8, .ref c7] := (next_new nx7 (by kernel_rfl)).trans (by kernel_rfl)
  rw [hpm] at hf7
  have K7 : ∀ b o, b ≠ nsA → b ≠ PK → h.get? b = some o → h7.get? b = some o := fun b o hb hb' e => kk7 b o hb hb' (K6 b o hb hb' e)
  have G7 := G6.step kk7
  have hsl7 : h7.get? sl = some { cls := .type "list", data := .seq #[.str (Str.ofString "obj") tS] } := kk7 _ _ (cls_ne hsl6 C6.ns rfl rfl (by decide)) (cls_none_ne hsl6 T6.tab rfl rfl) hsl6
  have F7_7 : FnAt P h7 (L + 1) pm 7 f7 c7 := ⟨ct7, hf7, rc7⟩
  have F4_7 := F4_6.step C6.ns T6.tab T6.ok kk7
  have F5_7 := F5_6.step C6.ns T6.tab T6.ok kk7
  have F6_7 := F6_6.step C6.ns T6.tab T6.ok kk7
  skip
  refine wpAny_execs_cons (cls_def (env := kenv P L nsA cK fr) (c := cK) (P := PK) (n' := 9) (qual := kq 8) (clos := [(Str.ofString "mycmp", L + 1)]) (es' := fun k z y => [⟨k0, .str (Str.ofString "__module__") a0, .str (Str.ofString "cpy313.functools") tm⟩, ⟨k1, .str (Str.ofString "__qualname__") a1, .str (Str.ofString "cmp_to_key.<locals>.K") b1⟩, ⟨k2, .str (Str.ofString "__firstlineno__") a2, .int 11 b2⟩, ⟨k3, .str (Str.ofString "__slots__") a3, .ref sl⟩, ⟨k4, .str (Str.ofString "__init__") a4, .ref f4⟩, ⟨k5, .str (Str.ofString "__lt__") a5, .ref f5⟩, ⟨k6, .str (Str.ofString "__gt__") a6, .ref f6⟩, ⟨k7, .str (Str.ofString "__eq__") a7, .ref f7⟩, ⟨k, z, y⟩]) rfl rfl hne C7 T7 (by kernel_rfl) (by intro y k z; kernel_rfl) rfl rfl (by kernel_rfl) rfl rfl rfl G7.ns rfl (.inl (by kernel_rfl)) G7.g G7.bu (fun k8 a8 f8 c8 ct8 ps8 h8 t8 C8 T8 kk8 nx8 rc8 hf8 hfs8 => ?_))
  obtain rfl : ps8 = #[rawInt 15, rawInt 8, .ref c4, rawInt 18, rawInt 8, .ref c5, rawInt 21, rawInt 8, .ref c6, rawInt 24, rawInt 8, .ref c7, rawInt 27, rawInt 8, .ref c8] := (next_new nx8 (by kernel_rfl)).trans (by kernel_rfl)
  rw [hpm] at hf8
  have K8 : ∀ b o, b ≠ nsA → b ≠ PK → h.get? b = some o → h8.get? b = some o := fun b o hb hb' e => kk8 b o hb hb' (K7 b o hb hb' e)
  have G8 := G7.step kk8
  have hsl8 : h8.get? sl = some { cls := .type "list", data := .seq #[.str (Str.ofString "obj") tS] } := kk8 _ _ (cls_ne hsl7 C7.ns rfl rfl (by decide)) (cls_none_ne hsl7 T7.tab rfl rfl) hsl7
  have F8_8 : FnAt P h8 (L + 1) pm 8 f8 c8 := ⟨ct8, hf8, rc8⟩
  have F4_8 := F4_7.step C7.ns T7.tab T7.ok kk8
  have F5_8 := F5_7.step C7.ns T7.tab T7.ok kk8
  have F6_8 := F6_7.step C7.ns T7.tab T7.ok kk8
  have F7_8 := F7_7.step C7.ns T7.tab T7.ok kk8
  skip
  refine wpAny_execs_cons (cls_def (env := kenv P L nsA cK fr) (c := cK) (P := PK) (n' := 10) (qual := kq 9) (clos := [(Str.ofString "mycmp", L + 1)]) (es' := fun k z y => [⟨k0, .str (Str.ofString "__module__") a0, .str (Str.ofString "cpy313.functools") tm⟩, ⟨k1, .str (Str.ofString "__qualname__") a1, .str (Str.ofString "cmp_to_key.<locals>.K") b1⟩, ⟨k2, .str (Str.ofString "__firstlineno__") a2, .int 11 b2⟩, ⟨k3, .str (Str.ofString "__slots__") a3, .ref sl⟩, ⟨k4, .str (Str.ofString "__init__") a4, .ref f4⟩, ⟨k5, .str (Str.ofString "__lt__") a5, .ref f5⟩, ⟨k6, .str (Str.ofString "__gt__") a6, .ref f6⟩, ⟨k7, .str (Str.ofString "__eq__") a7, .ref f7⟩, ⟨k8, .str (Str.ofString "__le__") a8, .ref f8⟩, ⟨k, z, y⟩]) rfl rfl hne C8 T8 (by kernel_rfl) (by intro y k z; kernel_rfl) rfl rfl (by kernel_rfl) rfl rfl rfl G8.ns rfl (.inl (by kernel_rfl)) G8.g G8.bu (fun k9 a9 f9 c9 ct9 ps9 h9 t9 C9 T9 kk9 nx9 rc9 hf9 hfs9 => ?_))
  obtain rfl : ps9 = #[rawInt 15, rawInt 8, .ref c4, rawInt 18, rawInt 8, .ref c5, rawInt 21, rawInt 8, .ref c6, rawInt 24, rawInt 8, .ref c7, rawInt 27, rawInt 8, .ref c8, rawInt 30, rawInt 8, .ref c9] := (next_new nx9 (by kernel_rfl)).trans (by kernel_rfl)
  rw [hpm] at hf9
  have K9 : ∀ b o, b ≠ nsA → b ≠ PK → h.get? b = some o → h9.get? b = some o := fun b o hb hb' e => kk9 b o hb hb' (K8 b o hb hb' e)
  have G9 := G8.step kk9
  have hsl9 : h9.get? sl = some { cls := .type "list", data := .seq #[.str (Str.ofString "obj") tS] } := kk9 _ _ (cls_ne hsl8 C8.ns rfl rfl (by decide)) (cls_none_ne hsl8 T8.tab rfl rfl) hsl8
  have F9_9 : FnAt P h9 (L + 1) pm 9 f9 c9 := ⟨ct9, hf9, rc9⟩
  have F4_9 := F4_8.step C8.ns T8.tab T8.ok kk9
  have F5_9 := F5_8.step C8.ns T8.tab T8.ok kk9
  have F6_9 := F6_8.step C8.ns T8.tab T8.ok kk9
  have F7_9 := F7_8.step C8.ns T8.tab T8.ok kk9
  have F8_9 := F8_8.step C8.ns T8.tab T8.ok kk9
  skip
  refine wpAny_execs_cons (cls_none (env := kenv P L nsA cK fr) (c := cK) (P := PK) (n' := 11) (es' := fun k z => [⟨k0, .str (Str.ofString "__module__") a0, .str (Str.ofString "cpy313.functools") tm⟩, ⟨k1, .str (Str.ofString "__qualname__") a1, .str (Str.ofString "cmp_to_key.<locals>.K") b1⟩, ⟨k2, .str (Str.ofString "__firstlineno__") a2, .int 11 b2⟩, ⟨k3, .str (Str.ofString "__slots__") a3, .ref sl⟩, ⟨k4, .str (Str.ofString "__init__") a4, .ref f4⟩, ⟨k5, .str (Str.ofString "__lt__") a5, .ref f5⟩, ⟨k6, .str (Str.ofString "__gt__") a6, .ref f6⟩, ⟨k7, .str (Str.ofString "__eq__") a7, .ref f7⟩, ⟨k8, .str (Str.ofString "__le__") a8, .ref f8⟩, ⟨k9, .str (Str.ofString "__ge__") a9, .ref f9⟩, ⟨k, z, .none⟩]) rfl rfl hne C9 T9 (by kernel_rfl) (by intro k z; kernel_rfl) (fun k10 a10 h10 t10 C10 T10 kp10 => ?_) rfl)
  have kk10 : ∀ b o, b ≠ nsA → b ≠ PK → h9.get? b = some o → h10.get? b = some o := fun b o hb _ e => kp10 b o hb e
  have hsl10 : h10.get? sl = some { cls := .type "list", data := .seq #[.str (Str.ofString "obj") tS] } := kk10 _ _ (cls_ne hsl9 C9.ns rfl rfl (by decide)) (cls_none_ne hsl9 T9.tab rfl rfl) hsl9
  have F4_10 := F4_9.step C9.ns T9.tab T9.ok kk10
  have F5_10 := F5_9.step C9.ns T9.tab T9.ok kk10
  have F6_10 := F6_9.step C9.ns T9.tab T9.ok kk10
  have F7_10 := F7_9.step C9.ns T9.tab T9.ok kk10
  have F8_10 := F8_9.step C9.ns T9.tab T9.ok kk10
  have F9_10 := F9_9.step C9.ns T9.tab T9.ok kk10
  refine wpAny_execs_nil (q (fun i => match i with | 0 => k0 | 1 => k1 | 2 => k2 | 3 => k3 | 4 => k4 | 5 => k5 | 6 => k6 | 7 => k7 | 8 => k8 | 9 => k9 | 10 => k10 | _ => 0) (fun i => match i with | 0 => a0 | 1 => a1 | 2 => a2 | 3 => a3 | 4 => a4 | 5 => a5 | 6 => a6 | 7 => a7 | 8 => a8 | 9 => a9 | 10 => a10 | 20 => tm | 21 => b1 | 22 => b2 | _ => 0) (fun i => match i with | 4 => f4 | 5 => f5 | 6 => f6 | 7 => f7 | 8 => f8 | 9 => f9 | _ => 0) (fun i => match i with | 4 => c4 | 5 => c5 | 6 => c6 | 7 => c7 | 8 => c8 | 9 => c9 | _ => 0) sl tS h10 t10 C10 T10 (fun b o hb hb' e => kk10 b o hb hb' (K9 b o hb hb' e)) hsl10 fun i h4 h9' => ?_)
  obtain rfl | rfl | rfl | rfl | rfl | rfl : i = 4 ∨ i = 5 ∨ i = 6 ∨ i = 7 ∨ i = 8 ∨ i = 9 := by omega
  · exact F4_10
  · exact F5_10
  · exact F6_10
  · exact F7_10
  · exact F8_10
  · exact F9_10
end Mine
end
noncomputable section
open PySem PySem.W PySem.W.X PyProof.Rows
set_option Elab.async false
set_option linter.unusedVariables false
set_option maxRecDepth 100000
namespace Mine
variable {prog : Program} {w : World} {A : Around} {E : Value → Shared → Prop} {h₁ h : Heap} {g : Array GenState} {d : Drawn} {t : Nat} {os : OsState}
set_option maxHeartbeats 4000000 in
theorem cls_hit (P : Params) {L nsA cK PK fr : Addr} {mg : Str → Option Value} {pm : Value} {k0 k1 k2 : Int} {a0 a1 a2 b1 b2 : Tok} {v0 : Value} {Q : Flow → Shared → Prop} (hpm : (mg "__name__").getD .none = pm)
    (C : Cb nsA PK h₁ h [⟨k0, .str (Str.ofString "__module__") a0, v0⟩, ⟨k1, .str (Str.ofString "__qualname__") a1, .str (Str.ofString "cmp_to_key.<locals>.K") b1⟩, ⟨k2, .str (Str.ofString "__firstlineno__") a2, .int 11 b2⟩] 3)
    {cs : Nat → Addr} (T : Tab h cK PK #[rawInt 15, rawInt 8, .ref (cs 4), rawInt 18, rawInt 8, .ref (cs 5), rawInt 21, rawInt 8, .ref (cs 6), rawInt 24, rawInt 8, .ref (cs 7), rawInt 27, rawInt 8, .ref (cs 8), rawInt 30, rawInt 8, .ref (cs 9)]) (HR : ∀ i, 4 ≤ i → i ≤ 9 → CodeK h (cs i) (kq i)) (G : Gd h mg PK nsA) (hne : nsA ≠ cK ∧ nsA ≠ PK)
    (q : ∀ (hs : Nat → Int) (ts : Nat → Nat) (fs : Nat → Addr) sl tS h' t', Cb nsA PK h₁ h' ((kEnt hs ts (Str.ofString "cpy313.functools") 11 sl fs 0).take 11) 11 → Tab h' cK PK #[rawInt 15, rawInt 8, .ref (cs 4), rawInt 18, rawInt 8, .ref (cs 5), rawInt 21, rawInt 8, .ref (cs 6), rawInt 24, rawInt 8, .ref (cs 7), rawInt 27, rawInt 8, .ref (cs 8), rawInt 30, rawInt 8, .ref (cs 9)] → (∀ b o, b ≠ nsA → b ≠ PK → h.get? b = some o → h'.get? b = some o) →
      h'.get? sl = some { cls := .type "list", data := .seq #[.str (Str.ofString "obj") tS] } → (∀ i, 4 ≤ i → i ≤ 9 → FnAt P h' (L + 1) pm i (fs i) (cs i)) → Q .next ⟨h', g, d, t', os⟩) :
    wpAny (model prog w) A (run (.body (kBody P) (kenv P L nsA cK fr))) Q E ⟨h, g, d, t, os⟩ := by
  refine wpAny_runBody (by kernel_rfl) fun A => ?_
  show wpAny _ _ (execs [_, _, _, _, _, _, _, _, _] _) _ _ _
  refine wpAny_execs_cons (cls_str (env := kenv P L nsA cK fr) (c := cK) (P := PK) (n' := 3) (es' := fun k z y => [⟨k0, .str (Str.ofString "__module__") a0, y⟩, ⟨k1, .str (Str.ofString "__qualname__") a1, .str (Str.ofString "cmp_to_key.<locals>.K") b1⟩, ⟨k2, .str (Str.ofString "__firstlineno__") a2, .int 11 b2⟩]) rfl rfl hne C T (by kernel_rfl) (by intro y k z; kernel_rfl) (fun k h2 t2 C2 T2 kp2 => ?_) rfl (by decide +kernel))
  have kk2 : ∀ b o, b ≠ nsA → b ≠ PK → h.get? b = some o → h2.get? b = some o := fun b o hb _ e => kp2 b o hb e
  have G2 := G.step kk2
  generalize htm : t = tm at C2
  refine wpAny_execs_cons (cls_list (env := kenv P L nsA cK fr) (c := cK) (P := PK) (n' := 4) (es' := fun k z y => [⟨k0, .str (Str.ofString "__module__") a0, .str (Str.ofString "cpy313.functools") tm⟩, ⟨k1, .str (Str.ofString "__qualname__") a1, .str (Str.ofString "cmp_to_key.<locals>.K") b1⟩, ⟨k2, .str (Str.ofString "__firstlineno__") a2, .int 11 b2⟩, ⟨k, z, y⟩]) rfl rfl hne C2 T2 (by kernel_rfl) (by intro y k z; kernel_rfl) (fun k3 sl a3 tS h3 t3 C3 T3 kp3 hsl3 => ?_) rfl)
  have kk3 : ∀ b o, b ≠ nsA → b ≠ PK → h2.get? b = some o → h3.get? b = some o := fun b o hb _ e => kp3 b o hb e
  have K3 : ∀ b o, b ≠ nsA → b ≠ PK → h.get? b = some o → h3.get? b = some o := fun b o hb hb' e => kk3 b o hb hb' (kk2 b o hb hb' e)
  have G3 := G2.step kk3
  refine wpAny_execs_cons (cls_def (env := kenv P L nsA cK fr) (c := cK) (P := PK) (n' := 5) (qual := kq 4) (clos := []) (es' := fun k z y => [⟨k0, .str (Str.ofString "__module__") a0, .str (Str.ofString "cpy313.functools") tm⟩, ⟨k1, .str (Str.ofString "__qualname__") a1, .str (Str.ofString "cmp_to_key.<locals>.K") b1⟩, ⟨k2, .str (Str.ofString "__firstlineno__") a2, .int 11 b2⟩, ⟨k3, .str (Str.ofString "__slots__") a3, .ref sl⟩, ⟨k, z, y⟩]) rfl rfl hne C3 T3 (by kernel_rfl) (by intro y k z; kernel_rfl) rfl rfl (by kernel_rfl) rfl rfl rfl G3.ns rfl (.inr ⟨cs 4, by kernel_rfl, rec_step C.ns T.tab T.ok K3 (HR 4 (by decide) (by decide))⟩) G3.g G3.bu (fun k4 a4 f4 c4 ct4 ps4 h4 t4 C4 T4 kk4 nx4 rc4 hf4 hfs4 => ?_))
  obtain ⟨rfl, rfl⟩ := next_hit (c := cs 4) nx4 (by kernel_rfl)
  rw [hpm] at hf4
  have K4 : ∀ b o, b ≠ nsA → b ≠ PK → h.get? b = some o → h4.get? b = some o := fun b o hb hb' e => kk4 b o hb hb' (K3 b o hb hb' e)
  have G4 := G3.step kk4
  have hsl4 : h4.get? sl = some { cls := .type "list", data := .seq #[.str (Str.ofString "obj") tS] } := kk4 _ _ (cls_ne hsl3 C3.ns rfl rfl (by decide)) (cls_none_ne hsl3 T3.tab rfl rfl) hsl3
  have F4_4 : FnAt P h4 (L + 1) pm 4 f4 (cs 4) := ⟨ct4, hf4, rc4⟩
  skip
  refine wpAny_execs_cons (cls_def (env := kenv P L nsA cK fr) (c := cK) (P := PK) (n' := 6) (qual := kq 5) (clos := [(Str.ofString "mycmp", L + 1)]) (es' := fun k z y => [⟨k0, .str (Str.ofString "__module__") a0, .str (Str.ofString "cpy313.functools") tm⟩, ⟨k1, .str (Str.ofString "__qualname__") a1, .str (Str.ofString "cmp_to_key.<locals>.K") b1⟩, ⟨k2, .str (Str.ofString "__firstlineno__") a2, .int 11 b2⟩, ⟨k3, .str (Str.ofString "__slots__") a3, .ref sl⟩, ⟨k4, .str (Str.ofString "__init__") a4, .ref f4⟩, ⟨k, z, y⟩]) rfl rfl hne C4 T4 (by kernel_rfl) (by intro y k z; kernel_rfl) rfl rfl (by kernel_rfl) rfl rfl rfl G4.ns rfl (.inr ⟨cs 5, by kernel_rfl, rec_step C.ns T.tab T.ok K4 (HR 5 (by decide) (by decide))⟩) G4.g G4.bu (fun k5 a5 f5 c5 ct5 ps5 h5 t5 C5 T5 kk5 nx5 rc5 hf5 hfs5 => ?_))
  obtain ⟨rfl, rfl⟩ := next_hit (c := cs 5) nx5 (by kernel_rfl)
  rw [hpm] at hf5
  have K5 : ∀ b o, b ≠ nsA → b ≠ PK → h.get? b = some o → h5.get? b = some o := fun b o hb hb' e => kk5 b o hb hb' (K4 b o hb hb' e)
  have G5 := G4.step kk5
  have hsl5 : h5.get? sl = some { cls := .type "list", data := .seq #[.str (Str.ofString "obj") tS] } := kk5 _ _ (cls_ne hsl4 C4.ns rfl rfl (by decide)) (cls_none_ne hsl4 T4.tab rfl rfl) hsl4
  have F5_5 : FnAt P h5 (L + 1) pm 5 f5 (cs 5) := ⟨ct5, hf5, rc5⟩
  have F4_5 := F4_4.step C4.ns T4.tab T4.ok kk5
  skip
  refine wpAny_execs_cons (cls_def (env := kenv P L nsA cK fr) (c := cK) (P := PK) (n' := 7) (qual := kq 6) (clos := [(Str.ofString "mycmp", L + 1)]) (es' := fun k z y => [⟨k0, .str (Str.ofString "__module__") a0, .str (Str.ofString "cpy313.functools") tm⟩, ⟨k1, .str (Str.ofString "__qualname__") a1, .str (Str.ofString "cmp_to_key.<locals>.K") b1⟩, ⟨k2, .str (Str.ofString "__firstlineno__") a2, .int 11 b2⟩, ⟨k3, .str (Str.ofString "__slots__") a3, .ref sl⟩, ⟨k4, .str (Str.ofString "__init__") a4, .ref f4⟩, ⟨k5, .str (Str.ofString "__lt__") a5, .ref f5⟩, ⟨k, z, y⟩]) rfl rfl hne C5 T5 (by kernel_rfl) (by intro y k z; kernel_rfl) rfl rfl (by kernel_rfl) rfl rfl rfl G5.ns rfl (.inr ⟨cs 6, by kernel_rfl, rec_step C.ns T.tab T.ok K5 (HR 6 (by decide) (by decide))⟩) G5.g G5.bu (fun k6 a6 f6 c6 ct6 ps6 h6 t6 C6 T6 kk6 nx6 rc6 hf6 hfs6 => ?_))
  obtain ⟨rfl, rfl⟩ := next_hit (c := cs 6) nx6 (by kernel_rfl)
  rw [hpm] at hf6
  have K6 : ∀ b o, b ≠ nsA → b ≠ PK → h.get? b = some o → h6.get? b = some o := fun b o hb hb' e => kk6 b o hb hb' (K5 b o hb hb' e)
  have G6 := G5.step kk6
  have hsl6 : h6.get? sl = some { cls := .type "list", data := .seq #[.str (Str.ofString "obj") tS] } := kk6 _ _ (cls_ne hsl5 C5.ns rfl rfl (by decide)) (cls_none_ne hsl5 T5.tab rfl rfl) hsl5
  have F6_6 : FnAt P h6 (L + 1) pm 6 f6 (cs 6) := ⟨ct6, hf6, rc6⟩
  have F4_6 := F4_5.step C5.ns T5.tab T5.ok kk6
  have F5_6 := F5_5.step C5.ns T5.tab T5.ok kk6
  skip
  refine wpAny_execs_cons (cls_def (env := kenv P L nsA cK fr) (c := cK) (P := PK) (n' := 8) (qual := kq 7) (clos := [(Str.ofString "mycmp", L + 1)]) (es' := fun k z y => [⟨k0, .str (Str.ofString "__module__") a0, .str (Str.ofString "cpy313.functools") tm⟩, ⟨k1, .str (Str.ofString "__qualname__") a1, .str (Str.ofString "cmp_to_key.<locals>.K") b1⟩, ⟨k2, .str (Str.ofString "__firstlineno__") a2, .int 11 b2⟩, ⟨k3, .str (Str.ofString "__slots__") a3, .ref sl⟩, ⟨k4, .str (Str.ofString "__init__") a4, .ref f4⟩, ⟨k5, .str (Str.ofString "__lt__") a5, .ref f5⟩, ⟨k6, .str (Str.ofString "__gt__") a6, .ref f6⟩, ⟨k, z, y⟩]) rfl rfl hne C6 T6 (by kernel_rfl) (by intro y k z; kernel_rfl) rfl rfl (by kernel_rfl) rfl rfl rfl G6.ns rfl (.inr ⟨cs 7, by kernel_rfl, rec_step C.ns T.tab T.ok K6 (HR 7 (by decide) (by decide))⟩) G6.g G6.bu (fun k7 a7 f7 c7 ct7 ps7 h7 t7 C7 T7 kk7 nx7 rc7 hf7 hfs7 => ?_))
  obtain ⟨rfl, rfl⟩ := next_hit (c := cs 7) nx7 (by kernel_rfl)
  rw [hpm] at hf7
  have K7 : ∀ b o, b ≠ nsA → b ≠ PK → h.get? b = some o → h7.get? b = some o := fun b o hb hb' e => kk7 b o hb hb' (K6 b o hb hb' e)
  have G7 := G6.step kk7
  have hsl7 : h7.get? sl = some { cls := .type "list", data := .seq #[.str (Str.ofString "obj") tS] } := kk7 _ _ (cls_ne hsl6 C6.ns rfl rfl (by decide)) (cls_none_ne hsl6 T6.tab rfl rfl) hsl6
  have F7_7 : FnAt P h7 (L + 1) pm 7 f7 (cs 7) := ⟨ct7, hf7, rc7⟩
  have F4_7 := F4_6.step C6.ns T6.tab T6.ok kk7
  have F5_7 := F5_6.step C6.ns T6.tab T6.ok kk7
  have F6_7 := F6_6.step C6.ns T6.tab T6.ok kk7
  skip
  refine wpAny_execs_cons (cls_def (env := kenv P L nsA cK fr) (c := cK) (P := PK) (n' := 9) (qual := kq 8) (clos := [(Str.ofString "mycmp", L + 1)]) (es' := fun k z y => [⟨k0, .str (Str.ofString "__module__") a0, .str (Str.ofString "cpy313.functools") tm⟩, ⟨k1, .str (Str.ofString "__qualname__") a1, .str (Str.ofString "cmp_to_key.<locals>.K") b1⟩, ⟨k2, .str (Str.ofString "__firstlineno__") a2, .int 11 b2⟩, ⟨k3, .str (Str.ofString "__slots__") a3, .ref sl⟩, ⟨k4, .str (Str.ofString "__init__") a4, .ref f4⟩, ⟨k5, .str (Str.ofString "__lt__") a5, .ref f5⟩, ⟨k6, .str (Str.ofString "__gt__") a6, .ref f6⟩, ⟨k7, .str (Str.ofString "__eq__") a7, .ref f7⟩, ⟨k, z, y⟩]) rfl rfl hne C7 T7 (by kernel_rfl) (by intro y k z; kernel_rfl) rfl rfl (by kernel_rfl) rfl rfl rfl G7.ns rfl (.inr ⟨cs 8, by kernel_rfl, rec_step C.ns T.tab T.ok K7 (HR 8 (by decide) (by decide))⟩) G7.g G7.bu (fun k8 a8 f8 c8 ct8 ps8 h8 t8 C8 T8 kk8 nx8 rc8 hf8 hfs8 => ?_))
  obtain ⟨rfl, rfl⟩ := next_hit (c := cs 8) nx8 (by kernel_rfl)
  rw [hpm] at hf8
  have K8 : ∀ b o, b ≠ nsA → b ≠ PK → h.get? b = some o → h8.get? b = some o := fun b o hb hb' e => kk8 b o hb hb' (K7 b o hb hb' e)
  have G8 := G7.step kk8
  have hsl8 : h8.get? sl = some { cls := .type "list", data := .seq #[.str (Str.ofString "obj") tS] } := kk8 _ _ (cls_ne hsl7 C7.ns rfl rfl (by decide)) (cls_none_ne hsl7 T7.tab rfl rfl) hsl7
  have F8_8 : FnAt P h8 (L + 1) pm 8 f8 (cs 8) := ⟨ct8, hf8, rc8⟩
  have F4_8 := F4_7.step C7.ns T7.tab T7.ok kk8
  have F5_8 := F5_7.step C7.ns T7.tab T7.ok kk8
  have F6_8 := F6_7.step C7.ns T7.tab T7.ok kk8
  have F7_8 := F7_7.step C7.ns T7.tab T7.ok kk8
  skip
  refine wpAny_execs_cons (cls_def (env := kenv P L nsA cK fr) (c := cK) (P := PK) (n' := 10) (qual := kq 9) (clos := [(Str.ofString "mycmp", L + 1)]) (es' := fun k z y => [⟨k0, .str (Str.ofString "__module__") a0, .str (Str.ofString "cpy313.functools") tm⟩, ⟨k1, .str (Str.ofString "__qualname__") a1, .str (Str.ofString "cmp_to_key.<locals>.K") b1⟩, ⟨k2, .str (Str.ofString "__firstlineno__") a2, .int 11 b2⟩, ⟨k3, .str (Str.ofString "__slots__") a3, .ref sl⟩, ⟨k4, .str (Str.ofString "__init__") a4, .ref f4⟩, ⟨k5, .str (Str.ofString "__lt__") a5, .ref f5⟩, ⟨k6, .str (Str.ofString "__gt__") a6, .ref f6⟩, ⟨k7, .str (Str.ofString "__eq__") a7, .ref f7⟩, ⟨k8, .str (Str.ofString "__le__") a8, .ref f8⟩, ⟨k, z, y⟩]) rfl rfl hne C8 T8 (by kernel_rfl) (by intro y k z; kernel_rfl) rfl rfl (by kernel_rfl) rfl rfl rfl G8.ns rfl (.inr ⟨cs 9, by kernel_rfl, rec_step C.ns T.tab T.ok K8 (HR 9 (by decide) (by decide))⟩) G8.g G8.bu (fun k9 a9 f9 c9 ct9 ps9 h9 t9 C9 T9 kk9 nx9 rc9 hf9 hfs9 => ?_))
  obtain ⟨rfl, rfl⟩ := next_hit (c := cs 9) nx9 (by kernel_rfl)
  rw [hpm] at hf9
  have K9 : ∀ b o, b ≠ nsA → b ≠ PK → h.get? b = some o → h9.get? b = some o := fun b o hb hb' e => kk9 b o hb hb' (K8 b o hb hb' e)
  have G9 := G8.step kk9
  have hsl9 : h9.get? sl = some { cls := .type "list", data := .seq #[.str (Str.ofString "obj") tS] } := kk9 _ _ (cls_ne hsl8 C8.ns rfl rfl (by decide)) (cls_none_ne hsl8 T8.tab rfl rfl) hsl8
  have F9_9 : FnAt P h9 (L + 1) pm 9 f9 (cs 9) := ⟨ct9, hf9, rc9⟩
  have F4_9 := F4_8.step C8.ns T8.tab T8.ok kk9
  have F5_9 := F5_8.step C8.ns T8.tab T8.ok kk9
  have F6_9 := F6_8.step C8.ns T8.tab T8.ok kk9
  have F7_9 := F7_8.step C8.ns T8.tab T8.ok kk9
  have F8_9 := F8_8.step C8.ns T8.tab T8.ok kk9
  skip
  refine wpAny_execs_cons (cls_none (env := kenv P L nsA cK fr) (c := cK) (P := PK) (n' := 11) (es' := fun k z => [⟨k0, .str (Str.ofString "__module__") a0, .str (Str.ofString "cpy313.functools") tm⟩, ⟨k1, .str (Str.ofString "__qualname__") a1, .str (Str.ofString "cmp_to_key.<locals>.K") b1⟩, ⟨k2, .str (Str.ofString "__firstlineno__") a2, .int 11 b2⟩, ⟨k3, .str (Str.ofString "__slots__") a3, .ref sl⟩, ⟨k4, .str (Str.ofString "__init__") a4, .ref f4⟩, ⟨k5, .str (Str.ofString "__lt__") a5, .ref f5⟩, ⟨k6, .str (Str.ofString "__gt__") a6, .ref f6⟩, ⟨k7, .str (Str.ofString "__eq__") a7, .ref f7⟩, ⟨k8, .str (Str.ofString "__le__") a8, .ref f8⟩, ⟨k9, .str (Str.ofString "__ge__") a9, .ref f9⟩, ⟨k, z, .none⟩]) rfl rfl hne C9 T9 (by kernel_rfl) (by intro k z; kernel_rfl) (fun k10 a10 h10 t10 C10 T10 kp10 => ?_) rfl)
  have kk10 : ∀ b o, b ≠ nsA → b ≠ PK → h9.get? b = some o → h10.get? b = some o := fun b o hb _ e => kp10 b o hb e
  have hsl10 : h10.get? sl = some { cls := .type "list", data := .seq #[.str (Str.ofString "obj") tS] } := kk10 _ _ (cls_ne hsl9 C9.ns rfl rfl (by decide)) (cls_none_ne hsl9 T9.tab rfl rfl) hsl9
  have F4_10 := F4_9.step C9.ns T9.tab T9.ok kk10
  have F5_10 := F5_9.step C9.ns T9.tab T9.ok kk10
  have F6_10 := F6_9.step C9.ns T9.tab T9.ok kk10
  have F7_10 := F7_9.step C9.ns T9.tab T9.ok kk10
  have F8_10 := F8_9.step C9.ns T9.tab T9.ok kk10
  have F9_10 := F9_9.step C9.ns T9.tab T9.ok kk10
  refine wpAny_execs_nil (q (fun i => match i with | 0 => k0 | 1 => k1 | 2 => k2 | 3 => k3 | 4 => k4 | 5 => k5 | 6 => k6 | 7 => k7 | 8 => k8 | 9 => k9 | 10 => k10 | _ => 0) (fun i => match i with | 0 => a0 | 1 => a1 | 2 => a2 | 3 => a3 | 4 => a4 | 5 => a5 | 6 => a6 | 7 => a7 | 8 => a8 | 9 => a9 | 10 => a10 | 20 => tm | 21 => b1 | 22 => b2 | _ => 0) (fun i => match i with | 4 => f4 | 5 => f5 | 6 => f6 | 7 => f7 | 8 => f8 | 9 => f9 | _ => 0) sl tS h10 t10 C10 T10 (fun b o hb hb' e => kk10 b o hb hb' (K9 b o hb hb' e)) hsl10 fun i h4 h9' => ?_)
  obtain rfl | rfl | rfl | rfl | rfl | rfl : i = 4 ∨ i = 5 ∨ i = 6 ∨ i = 7 ∨ i = 8 ∨ i = 9 := by omega
  · exact F4_10
  · exact F5_10
  · exact F6_10
  · exact F7_10
  · exact F8_10
  · exact F9_10
end Mine
end
noncomputable section
open PySem PySem.W PySem.W.X PyProof.Rows
set_option Elab.async false
set_option linter.unusedVariables false
set_option maxRecDepth 100000
namespace Mine
variable {prog : Program} {w : World} {G : Heap → Prop} {Z : Addr → Prop}
/-- what is known of the top for making things -/
structure TopOk (G : Heap → Prop) (c P : Addr) : Prop where
  main : ∀ h, G h → ∃ mg, h.Ns mainGlobals mg ∧ (∃ s t, mg "__name__" = some (.str s t)) ∧ h.BuiltinsAt mg P
  bcls : ∀ h, G h → ∃ mb, h.Ns builtinsNs mb ∧ mb "__build_class__" = some (.builtin "__build_class__")
  stat : ∀ h, G h → h.get? cStatics = some ⟨.none, none, .dict #[] 0, #[]⟩
  code : ∀ h, G h → CodeHd h c P
  nP : mainGlobals ≠ P ∧ cStatics ≠ P
  sysm : ∀ h, G h → ∃ o, h.get? sysModules = some o
theorem any_global {env : Env} {x : Str} {pos : Pos} {v : Value} {A : Around} {E : Value → Shared → Prop} {Q : Value → Shared → Prop} {s : Shared} (e : GV G x v) (hG : G s.heap) (q : Q v s) (hl : env.kindOf x = some .globalImplicit := by rfl) (hf : env.scope.kind = .function := by rfl) (hg : env.globals = mainGlobals := by rfl) (hb : env.builtins = builtinsNs := by rfl) (hd : (x == ("__debug__" : Str)) = false := by decide) : wpAny (model prog w) A (eval (.Name x pos) env) Q E s := by
  rcases e s.heap hG with ⟨mg, n, q'⟩ | ⟨mg, mb, n, q', nb, qb⟩
  · exact Calls.Name_function_global hf hl (Calls.loadGlobal_global (env := env) (by rw [hg]; exact n) q' q) hd
  · exact Calls.Name_function_global hf hl (Calls.loadGlobal_builtin (env := env) (by rw [hg]; exact n) q' (by rw [hb]; exact nb) qb q) hd
theorem ty_dictItem : typeLookup (.type "dict") (Str.ofString "__getitem__") = pure (some (.builtin "dict.__getitem__")) := by rw [typeLookup_type, builtinLookup_eq_fast]; kernel_rfl
theorem any_nsGet {M : Model} {A : Around} {E : Value → Shared → Prop} {s : Shared} {a : Addr} {m : Str → Option Value} {name : Str} {r : Option Value} {Q : Option Value → Shared → Prop} (hn : s.heap.Ns a m) (e : m name = r) (q : Q r s) : wpAny M A (nsGet a name) Q E s := wpAny_nsGet hn (e ▸ q)
theorem any_mapM1 {M : Model} {A : Around} {E : Value → Shared → Prop} {s : Shared} {x : Str} {Q : List Value → Shared → Prop} (q : Q [.str x s.toks] { s with toks := s.toks + 1 }) : wpAny M A (List.mapM mkText [x]) Q E s := by
  rw [List.mapM_cons]
  refine wpAny_bind (wpAny_mkText ?_)
  rw [List.mapM_nil]
  exact wpAny_bind (wpAny_pure (wpAny_pure q))
/-- the class K over the comparison f, its dict and its cell out of Y -/
noncomputable def KCz (Y : Addr → Prop) (P : Params) (h : Heap) (C : Addr) (f : Value) : Prop := ∃ (N D cel bT sl st : Addr) (hs : Nat → Int) (ts : Nat → Nat) (fs cs : Nat → Addr) (pm : Value) (k1 k2 : Int) (t0 t1 t2 t3 : Tok),
  h.get? C = some (co (cd2 C N) #[some (.ref bT), none, some (.str (Str.ofString "K") t0), some (.str (Str.ofString "cmp_to_key.<locals>.K") (ts 21)), some (.builtin "object.__new__"), some (.bool false)]) ∧
  h.get? N = some (dobj ((kEnt hs ts (Str.ofString "cpy313.functools") 11 sl fs st).eraseIdx 1 ++ [⟨k1, .str (Str.ofString "obj") t1, .ref D⟩] ++ [⟨k2, .str (Str.ofString "__doc__") t2, .none⟩]) 3) ∧
  h.get? D = some { cls := .type "member_descriptor", data := .fields #[.str (Str.ofString "obj") t3, .ref C, .builtin "proto.slot", .builtin "proto.slot#set", .int 0 0] } ∧
  h.IsCell cel (some f) ∧ (∀ i, 4 ≤ i → i ≤ 9 → FnAt P h cel pm i (fs i) (cs i)) ∧ ¬ Y N ∧ ¬ Y cel
noncomputable def KC (P : Params) (h : Heap) (C : Addr) (f : Value) : Prop := KCz (fun _ => False) P h C f
theorem KCz.mono {Y Y' : Addr → Prop} {P : Params} {h : Heap} {C : Addr} {f : Value} (k : KCz Y P h C f) (hY : ∀ b, Y' b → Y b) : KCz Y' P h C f := by
  obtain ⟨N, D, cel, bT, sl, st, hs, ts, fs, cs, pm, k1, k2, t0, t1, t2, t3, hC, hN, hD, hcel, hfs, nN, nc⟩ := k
  exact ⟨N, D, cel, bT, sl, st, hs, ts, fs, cs, pm, k1, k2, t0, t1, t2, t3, hC, hN, hD, hcel, hfs, fun q => nN (hY _ q), fun q => nc (hY _ q)⟩
theorem KCz.kc {Y : Addr → Prop} {P : Params} {h : Heap} {C : Addr} {f : Value} (k : KCz Y P h C f) : KC P h C f := k.mono fun _ q => q.elim
theorem KCz.grow {Y S : Addr → Prop} {P : Params} {h h' : Heap} {C : Addr} {f : Value} (k : KCz Y P h C f) (g : Grow S h h') (hS : ∀ b, S b → Y b ∨ ∃ ps, h.get? b = some (tabObj ps)) (hY : ∀ b, S b → Y b → (∃ o es n, h.get? b = some o ∧ o.data = .dict es n) ∨ (∃ o v, h.get? b = some o ∧ o.data = .cell v) ∨ ∃ ps, h.get? b = some (tabObj ps)) : KCz Y P h' C f := by
  obtain ⟨N, D, cel, bT, sl, st, hs, ts, fs, cs, pm, k1, k2, t0, t1, t2, t3, hC, hN, hD, hcel, hfs, nN, nc⟩ := k
  have ks : ∀ b, S b → (Y b ∧ ((∃ o es n, h.get? b = some o ∧ o.data = .dict es n) ∨ (∃ o v, h.get? b = some o ∧ o.data = .cell v))) ∨ ∃ ps, h.get? b = some (tabObj ps) := fun b s => by
    rcases hS b s with y | y
    · rcases hY b s y with a | a | a
      · exact .inl ⟨y, .inl a⟩
      · exact .inl ⟨y, .inr a⟩
      · exact .inr a
    · exact .inr y
  have keep : ∀ b o, h.get? b = some o → (¬ Y b ∨ ((∀ es n, o.data ≠ .dict es n) ∧ ∀ v, o.data ≠ .cell v)) → o.cls ≠ .none ∨ (∀ vs, o.data ≠ .fields vs) → h'.get? b = some o := fun b o e h1 h2 => by
    refine g.old b o (fun s => ?_) e
    rcases ks b s with ⟨y, a⟩ | ⟨ps, a⟩
    · rcases h1 with h1 | h1
      · exact h1 y
      · rcases a with ⟨o', es, n, e', d'⟩ | ⟨o', v, e', d'⟩
        · rw [e] at e'; cases e'; exact h1.1 _ _ d'
        · rw [e] at e'; cases e'; exact h1.2 _ d'
    · rw [e] at a; cases a
      rcases h2 with h2 | h2
      · exact h2 rfl
      · exact h2 _ rfl
  refine ⟨N, D, cel, bT, sl, st, hs, ts, fs, cs, pm, k1, k2, t0, t1, t2, t3, ?_, ?_, ?_, ?_, fun i a b => ?_, nN, nc⟩
  · exact keep _ _ hC (.inr ⟨(fun _ _ q => nomatch q), (fun _ q => nomatch q)⟩) (.inl fun q => nomatch q)
  · exact keep _ _ hN (.inl nN) (.inl fun q => nomatch q)
  · exact keep _ _ hD (.inr ⟨(fun _ _ q => nomatch q), (fun _ q => nomatch q)⟩) (.inl fun q => nomatch q)
  · obtain ⟨o, e, d⟩ := hcel
    exact ⟨o, keep _ _ e (.inl nc) (.inr fun vs q => by rw [d] at q; cases q), d⟩
  · obtain ⟨ct, e, o₂, vs₂, t₂, g₂, hc₂, r₁, r₂⟩ := hfs i a b
    exact ⟨ct, keep _ _ e (.inr ⟨(fun _ _ q => nomatch q), (fun _ q => nomatch q)⟩) (.inl fun q => nomatch q), o₂, vs₂, t₂, keep _ _ g₂ (.inr ⟨(fun _ _ q => by rw [r₁] at q; cases q), (fun _ q => by rw [r₁] at q; cases q)⟩) (.inl fun q => by rw [hc₂] at q; cases q), hc₂, r₁, r₂⟩
/-- the tables once the class has been made -/
noncomputable def MT (h : Heap) (cK PK : Addr) (cs : Nat → Addr) : Prop := h.get? 23 = some (tabObj #[rawInt 11, rawInt 4, .ref cK]) ∧ Tab h cK PK #[rawInt 15, rawInt 8, .ref (cs 4), rawInt 18, rawInt 8, .ref (cs 5), rawInt 21, rawInt 8, .ref (cs 6), rawInt 24, rawInt 8, .ref (cs 7), rawInt 27, rawInt 8, .ref (cs 8), rawInt 30, rawInt 8, .ref (cs 9)] ∧ ∀ i, 4 ≤ i → i ≤ 9 → CodeK h (cs i) (kq i)
set_option maxHeartbeats 4000000 in
theorem cmp_new (W : Glob G Z) (P : Params) (hfn : ∀ h, G h → ∃ o, h.get? 28 = some o ∧ o.data = .func (fnOf (hd01.heap_1 P) 28) ∧ h.CodeRec (fnOf (hd01.heap_1 P) 28).code (fnOf (hd01.heap_1 P) 28).qualname)
    (T : TopOk G 27 23) (go : GV G "object" (.type "object")) {f : Value} :
    CallO prog w G 91 (fun b => b = 23) (fun h => h.get? 23 = some (tabObj #[])) (.ref 28) [.val f] (fun X h' v => ∃ C cK PK cs, v = .ref C ∧ ¬ X C ∧ KCz X P h' C f ∧ MT h' cK PK cs) := by
  refine call_fnO (k := 90) W (names := ["mycmp"]) (fun h h' g e => g.old 23 _ (fun q => q) e) hfn rfl rfl ?_ ?_ (fun L hL A hA X h g dr tk o hO hXM F hP => ?_) rfl rfl rfl
  · intro vs hv
    obtain ⟨a, rfl⟩ := len1 hv
    rfl
  · intro x hx
    simp at hx
    subst hx
    exact .inr rfl
  obtain ⟨mb, nb, hb⟩ := T.bcls h F.g
  obtain ⟨mg, ng, ⟨nm, tn, hnm⟩, hbat⟩ := T.main h F.g
  have hoS := T.stat h F.g
  have hS1 : nsLook (Str.ofString "thirdparty.any") ⟨.none, none, .dict #[] 0, #[]⟩ = pure none := by kernel_rfl
  have T0 : Tab h 27 23 #[] := ⟨T.code h F.g, hP, trivial⟩
  refine jExecs_cons (wpJ.of ?_)
  rw [arm_exec_ClassDef]
  refine wpAny_bind (wpAny_pure ?_)
  refine wpAny_bind (wpAny_standAt ?_)
  refine wpAny_bind ?_
  unfold buildClassGuard
  refine wpAny_bind (wpAny_nsGet nb ?_)
  rw [hb]
  refine wpAny_pure ?_
  refine wpAny_bind (wpAny_holding ?_)
  refine wpAny_bind ?_
  show wpAny _ _ (spliced (backTo _ (starEach [_] _)) >>= _) _ _ _
  refine wpAny_bind ?_
  refine args_cons (any_global go F.g (args_nil ?_))
  refine wpAny_bind (wpAny_pure ?_)
  refine wpAny_holding ?_
  refine bm_if_true rfl ?_
  refine wpAny_bind (wpAny_pure ?_)
  refine wpAny_bind (wpAny_pure ?_)
  refine wpAny_pure ?_
  refine wpAny_bind (wpAny_standAt (wpAny_holding ?_))
  unfold buildClass
  refine wpAny_bind (m_newTuple (Mem.start h) rfl fun bT h1 D => ?_)
  repeat wp_delta
  refine wpAny_bind (wpAny_of_eq (a := ([Value.type "object"], false)) (by kernel_rfl) ?_)
  repeat wp_delta
  refine wpAny_bind (wpAny_of_eq ty_typeOf ?_)
  repeat wp_delta
  refine wpAny_bind (wpAny_pure ?_)
  refine bm_if_true rfl ?_
  refine wpAny_bind (wpAny_of_eq (a := Value.type "type") (by kernel_rfl) ?_)
  repeat wp_delta
  refine wpAny_bind (wpAny_mkText ?_)
  repeat wp_delta
  refine bm_if_false rfl ?_
  refine wpAny_bind (wpAny_pure ?_)
  repeat wp_delta
  refine wpAny_holding ?_
  refine wpAny_bind (prep_attr hA (by decide) fun pm h2 t2 D2 => ?_)
  repeat wp_delta
  refine wpAny_bind (hA.wk (by decide) (prepcall_x (mm_at D2 (.head _)) fun nsA h3 D3 => ?_))
  repeat wp_delta
  have k12 : ∀ b ob, h1.get? b = some ob → h2.get? b = some ob := fun b ob e => mm_old D2 e
  have k23 : ∀ b ob, h2.get? b = some ob → h3.get? b = some ob := fun b ob e => mm_old D3 e
  have k03 : ∀ b ob, h.get? b = some ob → h3.get? b = some ob := fun b ob e => k23 _ _ (k12 _ _ (mm_old D e))
  have hbT : h3.get? bT = some { cls := .type "tuple", data := .seq #[.type "object"] } := k23 _ _ (k12 _ _ (mm_at D (.head _)))
  have hns : h3.get? nsA = some (dobj [] 0) := mm_at D3 (.head _)
  have nns : h.get? nsA = none := by
    cases e : h.get? nsA with
    | none => rfl
    | some ob => have := (D3.nw _ (.head _)).2; rw [k12 _ _ (mm_old D e)] at this; cases this
  have nsS : nsA ≠ sysModules := fun q => by obtain ⟨ob, e⟩ := T.sysm h F.g; rw [q, e] at nns; cases nns
  refine wpAny_bind ?_
  unfold notTheModulesDict
  refine bm_if_false (beq_false_of_ne nsS) ?_
  refine wpAny_pure ?_
  refine wpAny_bind (wpAny_specialOf ⟨_, hns, rfl⟩ ty_dictItem ?_)
  refine bm_if_false rfl ?_
  repeat wp_delta
  refine wpAny_holding ?_
  repeat wp_delta
  refine bm_if_false (by decide +kernel) ?_
  refine wpAny_bind (wpAny_pure ?_)
  repeat wp_delta
  refine bm_if_false (by decide +kernel) ?_
  refine wpAny_bind (wpAny_pure ?_)
  repeat wp_delta
  have T3 := T0.keeps k03
  refine wpAny_bind (class_code rfl T3 rfl fun cK PK h4 t4 x34 gc gP ncP hsz4 TK hrK T4 => ?_)
  have k34 : ∀ b ob, b ≠ 23 → h3.get? b = some ob → h4.get? b = some ob := fun b ob hb e => x34 b ob hb e
  have ng4 : h4.Ns mainGlobals mg := (ng.keeps k03).extBut x34 T.nP.1
  obtain ⟨bm, ob, hbm, hne0, hneG, hneP, hbo, hcls, hdict, hdata⟩ := hbat
  have hbo4 := k34 _ _ hneP (k03 _ _ hbo)
  refine wpAny_bind (wpAny_builtinsFor ng4 hbm hne0 hbo4 hcls hdict hdata ?_)
  refine wpAny_bind ?_
  unfold newBodyFrame
  refine wpAny_bind (wpAny_nsGet ng4 ?_)
  rw [hnm]
  refine m_alloc (Mem.start h4) rfl fun fr h5 D5 => ?_
  have k45 : ∀ b ob, h4.get? b = some ob → h5.get? b = some ob := fun b ob e => mm_old D5 e
  refine wpAny_bind (wpAny_of_eq (a := [(Str.ofString "mycmp", L + 1)]) rfl ?_)
  repeat wp_delta
  refine wpAny_holding ?_
  have k35 : ∀ b ob, b ≠ 23 → h3.get? b = some ob → h5.get? b = some ob := fun b ob hb e => k45 _ _ (k34 _ _ hb e)
  have ns16 : nsA ≠ 23 := fun q => by rw [q, hP] at nns; cases nns
  have hns5 : h5.get? nsA = some (dobj [] 0) := k35 _ _ ns16 hns
  have lim5 : h5.NoLimit := by
    obtain ⟨mc, hmc, hmn⟩ := W.lim h F.g
    exact ⟨mc, ((hmc.keeps k03).extBut x34 T.nP.2).keeps k45, hmn⟩
  refine wpAny_bind (wpAny_enterFrame lim5 hA.lt ?_)
  have ng5 : h5.Ns mainGlobals mg := ng4.keeps k45
  refine wpAny_bind (wpAny_onRaise ?_)
  refine wpAny_bind ?_
  unfold loadName
  refine bm_if_false rfl ?_
  repeat wp_delta
  refine bm_if_false (by decide +kernel) ?_
  unfold localGet
  refine wpAny_bind (wpAny_bind (wpAny_load hns5 ?_))
  refine bm_if_true rfl ?_
  refine m_nsGet hns5 (r := none) (by kernel_rfl) ?_
  repeat wp_delta
  refine wpAny_bind (any_nsGet ng5 hnm ?_)
  refine wpAny_pure ?_
  refine wpAny_bind (store_cls (es' := fun k x => [⟨k, x, .str nm tn⟩]) (n' := 1) rfl (.inl rfl) hns5 (by kernel_rfl) (by intro k y; kernel_rfl) fun k6 h6 s56 e6 => ?_)
  refine wpAny_bind (wpAny_mkText ?_)
  refine wpAny_bind (store_cls (es' := fun k x => [⟨k6, .str (Str.ofString "__module__") t4, .str nm tn⟩, ⟨k, x, .str (Str.ofString "cmp_to_key.<locals>.K") (t4 + 1)⟩]) (n' := 2) rfl (.inr ⟨rfl, by decide +kernel⟩) e6 (by kernel_rfl) (by intro k y; kernel_rfl) fun k7 h7 s67 e7 => ?_)
  refine wpAny_bind (wpAny_mkInt ?_)
  refine wpAny_bind (store_cls (es' := fun k x => [⟨k6, .str (Str.ofString "__module__") t4, .str nm tn⟩, ⟨k7, .str (Str.ofString "__qualname__") (t4 + 1 + 1), .str (Str.ofString "cmp_to_key.<locals>.K") (t4 + 1)⟩, ⟨k, x, .int 11 (t4 + 1 + 1 + 1)⟩]) (n' := 3) rfl (.inr ⟨rfl, by decide +kernel⟩) e7 (by kernel_rfl) (by intro k y; kernel_rfl) fun k8 h8 s78 e8 => ?_)
  refine wpAny_pure ?_
  repeat wp_delta
  have s56' : Heap.SameBut nsA h5 h6 := s56
  have s67' : Heap.SameBut nsA h6 h7 := s67
  have s78' : Heap.SameBut nsA h7 h8 := s78
  have e8' : h8.get? nsA = some (dobj [⟨k6, .str (Str.ofString "__module__") t4, .str nm tn⟩, ⟨k7, .str (Str.ofString "__qualname__") (t4 + 1 + 1), .str (Str.ofString "cmp_to_key.<locals>.K") (t4 + 1)⟩, ⟨k8, .str (Str.ofString "__firstlineno__") (t4 + 1 + 1 + 1 + 1), .int 11 (t4 + 1 + 1 + 1)⟩] 3) := e8
  clear s56 s67 s78 e8 e7 e6
  have k58 : ∀ b ob, b ≠ nsA → h5.get? b = some ob → h8.get? b = some ob := fun b ob hb e => (s78'.2 b hb).trans ((s67'.2 b hb).trans ((s56'.2 b hb).trans e))
  have k38 : ∀ b ob, b ≠ 23 → b ≠ nsA → h3.get? b = some ob → h8.get? b = some ob := fun b ob hb hb' e => k58 _ _ hb' (k35 _ _ hb e)
  have l3 : nsA < h3.objs.size := Heap.lt_size hns
  have ncK : nsA ≠ cK := Nat.ne_of_lt (Nat.lt_of_lt_of_le l3 gc)
  have nPK : nsA ≠ PK := Nat.ne_of_lt (Nat.lt_of_lt_of_le l3 gP)
  have TK8 : Tab h8 cK PK #[] := (TK.keeps k45).other (S := fun b => b = nsA) (fun b ob hb e => k58 b ob hb e) (fun z => nPK z.symm) (fun z => ncK z.symm)
  have low3 : ∀ {b ob}, h.get? b = some ob → b ≠ PK ∧ b ≠ nsA ∧ b ≠ cK := fun {b ob} e => ⟨Nat.ne_of_lt (Nat.lt_of_lt_of_le (Heap.lt_size (k03 _ _ e)) gP), (fun z => by rw [z, nns] at e; cases e), Nat.ne_of_lt (Nat.lt_of_lt_of_le (Heap.lt_size (k03 _ _ e)) gc)⟩
  have Gd8 : Gd h8 mg PK nsA := by
    obtain ⟨om, esm, epm, em, rm⟩ := id ng
    refine ⟨⟨om, esm, epm, k38 _ _ T.nP.1 (low3 em).2.1 (k03 _ _ em), rm⟩, ⟨bm, ob, hbm, hne0, hneG, (low3 hbo).1, k38 _ _ hneP (low3 hbo).2.1 (k03 _ _ hbo), hcls, hdict, hdata⟩, fun bm' e' => ?_, (low3 em).1, (low3 em).2.1⟩
    rw [hbm] at e'; cases e'; exact (low3 hbo).2.1
  refine wpAny_bind (cls_body P (L := L) (h₁ := h8) (by rw [hnm]) ⟨fun _ _ _ _ e => e, Nat.le_refl _, e8'⟩ TK8 Gd8 ⟨ncK, nPK⟩ fun hs ts fs cs sl tS h9 t9 C9 T9 kk9 hsl9 hF9 => ?_)
  refine wpAny_bind (wpAny_onRaise ?_)
  refine wpAny_bind (any_mapM1 ?_)
  refine wpAny_bind (wpAny_newTextTuple ?_)
  repeat wp_delta
  refine wpAny_bind (store_cls (n' := 12) rfl (.inr ⟨rfl, by decide +kernel⟩) (Heap.get?_push_of_some _ C9.ns) (by kernel_rfl) (es' := fun k x => (kEnt hs ts (Str.ofString "cpy313.functools") 11 sl fs 0).take 11 ++ [⟨k, x, .ref h9.objs.size⟩]) (by intro k y; kernel_rfl) fun k10 hA' s10 e10 => ?_)
  repeat wp_delta
  refine wpAny_pure ?_
  repeat wp_delta
  have s10' : Heap.SameBut nsA (h9.push { cls := .type "tuple", dict := none, data := .seq [Value.str (Str.ofString "obj") t9].toArray }) hA' := s10
  have e10' : hA'.get? nsA = some (dobj (kEnt (fun i => if i = 11 then k10 else hs i) (fun i => if i = 11 then t9 + 1 else ts i) (Str.ofString "cpy313.functools") 11 sl fs h9.objs.size) 12) := e10
  clear s10 e10
  have k9A : ∀ b ob, b ≠ nsA → h9.get? b = some ob → hA'.get? b = some ob := fun b ob hb e => (s10'.2 b hb).trans (Heap.get?_push_of_some _ e)
  have k3A : ∀ b ob, b ≠ 23 → b ≠ nsA → b ≠ PK → h3.get? b = some ob → hA'.get? b = some ob := fun b ob hb hb' hb'' e => k9A _ _ hb' (kk9 _ _ hb' hb'' (k38 _ _ hb hb' e))
  have k0A : ∀ b ob, b ≠ 23 → h.get? b = some ob → hA'.get? b = some ob := fun b ob hb e => k3A _ _ hb (low3 e).2.1 (low3 e).1 (k03 _ _ e)
  have bT16 : bT ≠ 23 := fun z => by have := (D.nw _ (.head _)).2; rw [show ((bT, ({ cls := .type "tuple", data := .seq [Value.type "object"].toArray } : Obj)) : Addr × Obj).1 = 23 from z, hP] at this; cases this
  have hbTA : hA'.get? bT = some { cls := .type "tuple", data := .seq #[.type "object"] } := k3A _ _ bT16 (cls_ne hbT hns rfl rfl (by decide)) (Nat.ne_of_lt (Nat.lt_of_lt_of_le (Heap.lt_size hbT) gP)) hbT
  have hslA : hA'.get? sl = some { cls := .type "list", data := .seq #[.str (Str.ofString "obj") tS] } := k9A _ _ (cls_ne hsl9 C9.ns rfl rfl (by decide)) hsl9
  have stne : h9.objs.size ≠ nsA := Nat.ne_of_gt (Heap.lt_size C9.ns)
  have hstA : hA'.get? h9.objs.size = some { cls := .type "tuple", data := .seq [Value.str (Str.ofString "obj") t9].toArray } := (s10'.2 _ stne).trans (Heap.get?_push_size _ rfl)
  have hFA : ∀ i, 4 ≤ i → i ≤ 9 → FnAt P hA' (L + 1) (.str nm tn) i (fs i) (cs i) := fun i a b => (hF9 i a b).step C9.ns T9.tab T9.ok fun b ob hb _ e => k9A b ob hb e
  have hoSA : hA'.get? cStatics = some ⟨.none, none, .dict #[] 0, #[]⟩ := k0A _ _ T.nP.2 hoS
  refine bm_if_false rfl ?_
  refine wpAny_bind (call_type3 (k := 0) (type_new (hA.in1).in1 (by decide) hbTA e10' nsS hslA (fun i a b => let ⟨_, e, _⟩ := hFA i a b; ⟨_, e, rfl⟩) ⟨_, hstA, rfl⟩ hoSA hS1 fun N C D' k1 k2 t1 t2 t3 t' hB kAB fresh hC hN hD => ?_))
  refine ⟨C, _, rfl, hC, rfl, ?_⟩
  repeat wp_delta
  refine wpAny_pure ?_
  refine wpAny_bind (wpAny_of_eq (a := .ref C) rfl ?_)
  refine wpAny_bind (wpAny_standAt (wpAny_bind (wpAny_bindName ?_)))
  obtain ⟨m, nL, hmL⟩ := F.loc
  have L16 : L ≠ 23 := fun z => by
    obtain ⟨om, esm, epm, em, dm, rm⟩ := nL
    rw [show (callEnvC (fnOf (hd01.heap_1 P) 28) L 28).locals = 23 from z, hP] at em
    cases em; cases dm
  have kB : ∀ b ob, b ≠ 23 → h.get? b = some ob → hB.get? b = some ob := fun b ob hb e => kAB _ _ (k0A _ _ hb e)
  have nLB : hB.Ns L m := by
    obtain ⟨om, esm, epm, em, rm⟩ := nL
    exact ⟨om, esm, epm, kB _ _ L16 em, rm⟩
  refine wpAny_storeName_local rfl nLB (fun hF nF sF => ?_) rfl
  refine wpAny_pure ?_
  dsimp only
  have sF' : Heap.SameBut L hB hF := sF
  have nF' : hF.Ns L (fun y => if y = Str.ofString "K" then some (.ref C) else m y) := nF
  clear sF nF
  refine jExecs_cons (jReturn (wpJ.of (wpAny_Name (wpAny_loadName_local rfl rfl nF' (if_pos rfl) ?_) rfl)))
  have kF : ∀ b ob, b ≠ L → hB.get? b = some ob → hF.get? b = some ob := fun b ob hb e => (sF'.2 b hb).trans e
  have lL : ∃ ob, h.get? L = some ob ∧ ∃ es ep, ob.data = .dict es ep := let ⟨om, esm, epm, em, dm, rm⟩ := nL; ⟨om, em, esm, epm, dm⟩
  obtain ⟨oL, eL, _, _, dL⟩ := lL
  have freshL : ∀ {b}, hA'.get? b = none → b ≠ L := fun {b} e z => by rw [z, k0A _ _ L16 eL] at e; cases e
  have hC' := kF _ _ (freshL fresh.2.1) hC
  have hN' := kF _ _ (freshL fresh.1) hN
  have hD' := kF _ _ (freshL fresh.2.2) hD
  obtain ⟨cc, vv, hlk, hcell, hrep⟩ := F.cel (Str.ofString "mycmp") (.val f) rfl (fun z => by cases (show some NameKind.cell = some NameKind.local from z))
  cases hrep
  have hcc : cc = L + 1 := by
    have : (callEnvC (fnOf (hd01.heap_1 P) 28) L 28).cells.lookup (Str.ofString "mycmp") = some (L + 1) := rfl
    rw [this] at hlk; cases hlk; rfl
  subst hcc
  have hFF : ∀ i, 4 ≤ i → i ≤ 9 → FnAt P hF (L + 1) (.str nm tn) i (fs i) (cs i) := fun i a b => by
    obtain ⟨ct, e, r⟩ := hFA i a b
    have e' := kAB _ _ e
    refine ⟨ct, kF _ _ (fun z => ?_) e', ?_⟩
    · rw [z, kB _ _ L16 eL] at e'; cases e'; cases dL
    · obtain ⟨o₂, vs₂, t₂, g₂, hc₂, r₁, r₂⟩ := r
      have g₂' := kAB _ _ g₂
      exact ⟨o₂, vs₂, t₂, kF _ _ (fun z => by rw [z, kB _ _ L16 eL] at g₂'; cases g₂'; rw [dL] at r₁; cases r₁) g₂', hc₂, r₁, r₂⟩
  refine ⟨hF, _, rfl, ⟨fun b ob nb e => ?_⟩, .ref C, rfl, C, cK, PK, cs, rfl, fun xC => ?_, ?_, ?_⟩
  · exact kF _ _ (fun z => nb (.inl (.inl z))) (kB _ _ (fun z => nb (.inr z)) e)
  · obtain ⟨ob, e⟩ := F.xs C xC
    by_cases z : C = 23
    · have := fresh.2.1
      rw [z, (k9A 23 _ (Ne.symm ns16) (kk9 23 _ (Ne.symm ns16) (low3 hP).1.elim (k58 23 _ (Ne.symm ns16) (k45 _ _ T4.tab)))) ] at this
      cases this
    · have := fresh.2.1
      rw [k0A _ _ z e] at this; cases this
  · refine ⟨N, D', L + 1, bT, sl, h9.objs.size, (fun i => if i = 11 then k10 else hs i), (fun i => if i = 11 then t9 + 1 else ts i), fs, cs, .str nm tn, k1, k2, _, t1, t2, t3, hC', hN', hD', ?_, fun i a b => ?_, fun xN => ?_, fun xc => hXM _ xc (.inr ⟨Str.ofString "mycmp", rfl, rfl⟩)⟩
    · obtain ⟨oc, eoc, doc⟩ := hcell
      exact ⟨oc, kF _ _ (fun z => by rw [z, eL] at eoc; cases eoc; rw [dL] at doc; cases doc) (kB _ _ (fun z => by rw [z, hP] at eoc; cases eoc; cases doc) eoc), doc⟩
    · exact hFF i a b
    · obtain ⟨ob, e⟩ := F.xs N xN
      by_cases z : N = 23
      · have := fresh.1
        rw [z, (k9A 23 _ (Ne.symm ns16) (kk9 23 _ (Ne.symm ns16) (low3 hP).1.elim (k58 23 _ (Ne.symm ns16) (k45 _ _ T4.tab)))) ] at this
        cases this
      · have := fresh.1
        rw [k0A _ _ z e] at this; cases this
  · have e4 : h4.get? 23 = some (tabObj #[rawInt 11, rawInt 4, .ref cK]) := T4.tab
    refine ⟨kF _ _ (Ne.symm L16) (kAB _ _ (k9A _ _ (Ne.symm ns16) (kk9 _ _ (Ne.symm ns16) (low3 hP).1 (k58 _ _ (Ne.symm ns16) (k45 _ _ e4))))), ?_, fun i a b => let ⟨_, _, r⟩ := hFF i a b; r⟩
    have TA := (T9.other (S := fun b => b = nsA) (fun b ob hb e => k9A b ob hb e) (fun z => nPK z.symm) (fun z => ncK z.symm)).keeps kAB
    exact TA.other (S := fun b => b = L) (fun b ob hb e => kF b ob hb e) (fun z => (low3 eL).1 z.symm) (fun z => (low3 eL).2.2 z.symm)
end Mine
end
noncomputable section
open PySem PySem.W PySem.W.X PyProof.Rows
set_option Elab.async false
set_option linter.unusedVariables false
set_option maxRecDepth 100000
namespace Mine
variable {prog : Program} {w : World} {G : Heap → Prop} {Z : Addr → Prop}
set_option maxHeartbeats 4000000 in
theorem cmp_again (W : Glob G Z) (P : Params) (hfn : ∀ h, G h → ∃ o, h.get? 28 = some o ∧ o.data = .func (fnOf (hd01.heap_1 P) 28) ∧ h.CodeRec (fnOf (hd01.heap_1 P) 28).code (fnOf (hd01.heap_1 P) 28).qualname)
    (T : TopOk G 27 23) (go : GV G "object" (.type "object")) {f : Value} {cK PK : Addr} {cs : Nat → Addr} :
    CallO prog w G 91 (fun b => b = 23) (fun h => MT h cK PK cs) (.ref 28) [.val f] (fun X h' v => ∃ C, v = .ref C ∧ ¬ X C ∧ KCz X P h' C f ∧ MT h' cK PK cs) := by
  refine call_fnO (k := 90) W (names := ["mycmp"]) (fun h h' g e => ⟨g.old 23 _ (fun q => q) e.1, e.2.1.keeps fun b o q => g.old b o (fun q => q) q, fun i a b => (e.2.2 i a b).keeps fun b o q => g.old b o (fun q => q) q⟩) hfn rfl rfl ?_ ?_ (fun L hL A hA X h g dr tk o hO hXM F hP => ?_) rfl rfl rfl
  · intro vs hv
    obtain ⟨a, rfl⟩ := len1 hv
    rfl
  · intro x hx
    simp at hx
    subst hx
    exact .inr rfl
  obtain ⟨mb, nb, hb⟩ := T.bcls h F.g
  obtain ⟨mg, ng, ⟨nm, tn, hnm⟩, hbat⟩ := T.main h F.g
  have hoS := T.stat h F.g
  have hS1 : nsLook (Str.ofString "thirdparty.any") ⟨.none, none, .dict #[] 0, #[]⟩ = pure none := by kernel_rfl
  have hPT := hP.2.1
  have hPK := hP.2.2
  replace hP := hP.1
  have T0 : Tab h 27 23 #[rawInt 11, rawInt 4, .ref cK] := ⟨T.code h F.g, hP, trivial⟩
  have acK : ∃ o, h.get? cK = some o ∧ ∃ vs, o.data = .fields vs := let ⟨o, vs, _, _, _, _, _, _, _, e, _, d, _⟩ := hPT.hd; ⟨o, e, vs, d⟩
  have n23P : 23 ≠ PK := fun z => by
    have e1 := hPT.tab
    rw [← z, hP] at e1
    have e2 := congrArg (fun o : Option Obj => match o with | some ⟨_, _, .fields vs, _⟩ => vs.size | _ => 0) e1
    cases e2
  refine jExecs_cons (wpJ.of ?_)
  rw [arm_exec_ClassDef]
  refine wpAny_bind (wpAny_pure ?_)
  refine wpAny_bind (wpAny_standAt ?_)
  refine wpAny_bind ?_
  unfold buildClassGuard
  refine wpAny_bind (wpAny_nsGet nb ?_)
  rw [hb]
  refine wpAny_pure ?_
  refine wpAny_bind (wpAny_holding ?_)
  refine wpAny_bind ?_
  show wpAny _ _ (spliced (backTo _ (starEach [_] _)) >>= _) _ _ _
  refine wpAny_bind ?_
  refine args_cons (any_global go F.g (args_nil ?_))
  refine wpAny_bind (wpAny_pure ?_)
  refine wpAny_holding ?_
  refine bm_if_true rfl ?_
  refine wpAny_bind (wpAny_pure ?_)
  refine wpAny_bind (wpAny_pure ?_)
  refine wpAny_pure ?_
  refine wpAny_bind (wpAny_standAt (wpAny_holding ?_))
  unfold buildClass
  refine wpAny_bind (m_newTuple (Mem.start h) rfl fun bT h1 D => ?_)
  repeat wp_delta
  refine wpAny_bind (wpAny_of_eq (a := ([Value.type "object"], false)) (by kernel_rfl) ?_)
  repeat wp_delta
  refine wpAny_bind (wpAny_of_eq ty_typeOf ?_)
  repeat wp_delta
  refine wpAny_bind (wpAny_pure ?_)
  refine bm_if_true rfl ?_
  refine wpAny_bind (wpAny_of_eq (a := Value.type "type") (by kernel_rfl) ?_)
  repeat wp_delta
  refine wpAny_bind (wpAny_mkText ?_)
  repeat wp_delta
  refine bm_if_false rfl ?_
  refine wpAny_bind (wpAny_pure ?_)
  repeat wp_delta
  refine wpAny_holding ?_
  refine wpAny_bind (prep_attr hA (by decide) fun pm h2 t2 D2 => ?_)
  repeat wp_delta
  refine wpAny_bind (hA.wk (by decide) (prepcall_x (mm_at D2 (.head _)) fun nsA h3 D3 => ?_))
  repeat wp_delta
  have k12 : ∀ b ob, h1.get? b = some ob → h2.get? b = some ob := fun b ob e => mm_old D2 e
  have k23 : ∀ b ob, h2.get? b = some ob → h3.get? b = some ob := fun b ob e => mm_old D3 e
  have k03 : ∀ b ob, h.get? b = some ob → h3.get? b = some ob := fun b ob e => k23 _ _ (k12 _ _ (mm_old D e))
  have hbT : h3.get? bT = some { cls := .type "tuple", data := .seq #[.type "object"] } := k23 _ _ (k12 _ _ (mm_at D (.head _)))
  have hns : h3.get? nsA = some (dobj [] 0) := mm_at D3 (.head _)
  have nns : h.get? nsA = none := by
    cases e : h.get? nsA with
    | none => rfl
    | some ob => have := (D3.nw _ (.head _)).2; rw [k12 _ _ (mm_old D e)] at this; cases this
  have nsS : nsA ≠ sysModules := fun q => by obtain ⟨ob, e⟩ := T.sysm h F.g; rw [q, e] at nns; cases nns
  refine wpAny_bind ?_
  unfold notTheModulesDict
  refine bm_if_false (beq_false_of_ne nsS) ?_
  refine wpAny_pure ?_
  refine wpAny_bind (wpAny_specialOf ⟨_, hns, rfl⟩ ty_dictItem ?_)
  refine bm_if_false rfl ?_
  repeat wp_delta
  refine wpAny_holding ?_
  repeat wp_delta
  refine bm_if_false (by decide +kernel) ?_
  refine wpAny_bind (wpAny_pure ?_)
  repeat wp_delta
  refine bm_if_false (by decide +kernel) ?_
  refine wpAny_bind (wpAny_pure ?_)
  repeat wp_delta
  have T3 := T0.keeps k03
  refine wpAny_bind (class_code_hit (c' := .ref cK) rfl T3 (by kernel_rfl) ?_)
  have x34 : Heap.ExtBut 23 h3 h3 := fun _ _ _ e => e
  have k34 : ∀ b ob, b ≠ 23 → h3.get? b = some ob → h3.get? b = some ob := fun b ob hb e => x34 b ob hb e
  have ng4 : h3.Ns mainGlobals mg := (ng.keeps k03).extBut x34 T.nP.1
  obtain ⟨bm, ob, hbm, hne0, hneG, hneP, hbo, hcls, hdict, hdata⟩ := hbat
  have hbo4 := k34 _ _ hneP (k03 _ _ hbo)
  refine wpAny_bind (wpAny_builtinsFor ng4 hbm hne0 hbo4 hcls hdict hdata ?_)
  refine wpAny_bind ?_
  unfold newBodyFrame
  refine wpAny_bind (wpAny_nsGet ng4 ?_)
  rw [hnm]
  refine m_alloc (Mem.start h3) rfl fun fr h5 D5 => ?_
  have k45 : ∀ b ob, h3.get? b = some ob → h5.get? b = some ob := fun b ob e => mm_old D5 e
  refine wpAny_bind (wpAny_of_eq (a := [(Str.ofString "mycmp", L + 1)]) rfl ?_)
  repeat wp_delta
  refine wpAny_holding ?_
  have k35 : ∀ b ob, b ≠ 23 → h3.get? b = some ob → h5.get? b = some ob := fun b ob hb e => k45 _ _ (k34 _ _ hb e)
  have ns16 : nsA ≠ 23 := fun q => by rw [q, hP] at nns; cases nns
  have hns5 : h5.get? nsA = some (dobj [] 0) := k35 _ _ ns16 hns
  have lim5 : h5.NoLimit := by
    obtain ⟨mc, hmc, hmn⟩ := W.lim h F.g
    exact ⟨mc, ((hmc.keeps k03).extBut x34 T.nP.2).keeps k45, hmn⟩
  refine wpAny_bind (wpAny_enterFrame lim5 hA.lt ?_)
  have ng5 : h5.Ns mainGlobals mg := ng4.keeps k45
  refine wpAny_bind (wpAny_onRaise ?_)
  refine wpAny_bind ?_
  unfold loadName
  refine bm_if_false rfl ?_
  repeat wp_delta
  refine bm_if_false (by decide +kernel) ?_
  unfold localGet
  refine wpAny_bind (wpAny_bind (wpAny_load hns5 ?_))
  refine bm_if_true rfl ?_
  refine m_nsGet hns5 (r := none) (by kernel_rfl) ?_
  repeat wp_delta
  refine wpAny_bind (any_nsGet ng5 hnm ?_)
  refine wpAny_pure ?_
  refine wpAny_bind (store_cls (es' := fun k x => [⟨k, x, .str nm tn⟩]) (n' := 1) rfl (.inl rfl) hns5 (by kernel_rfl) (by intro k y; kernel_rfl) fun k6 h6 s56 e6 => ?_)
  refine wpAny_bind (wpAny_mkText ?_)
  refine wpAny_bind (store_cls (es' := fun k x => [⟨k6, .str (Str.ofString "__module__") t2, .str nm tn⟩, ⟨k, x, .str (Str.ofString "cmp_to_key.<locals>.K") (t2 + 1)⟩]) (n' := 2) rfl (.inr ⟨rfl, by decide +kernel⟩) e6 (by kernel_rfl) (by intro k y; kernel_rfl) fun k7 h7 s67 e7 => ?_)
  refine wpAny_bind (wpAny_mkInt ?_)
  refine wpAny_bind (store_cls (es' := fun k x => [⟨k6, .str (Str.ofString "__module__") t2, .str nm tn⟩, ⟨k7, .str (Str.ofString "__qualname__") (t2 + 1 + 1), .str (Str.ofString "cmp_to_key.<locals>.K") (t2 + 1)⟩, ⟨k, x, .int 11 (t2 + 1 + 1 + 1)⟩]) (n' := 3) rfl (.inr ⟨rfl, by decide +kernel⟩) e7 (by kernel_rfl) (by intro k y; kernel_rfl) fun k8 h8 s78 e8 => ?_)
  refine wpAny_pure ?_
  repeat wp_delta
  have s56' : Heap.SameBut nsA h5 h6 := s56
  have s67' : Heap.SameBut nsA h6 h7 := s67
  have s78' : Heap.SameBut nsA h7 h8 := s78
  have e8' : h8.get? nsA = some (dobj [⟨k6, .str (Str.ofString "__module__") t2, .str nm tn⟩, ⟨k7, .str (Str.ofString "__qualname__") (t2 + 1 + 1), .str (Str.ofString "cmp_to_key.<locals>.K") (t2 + 1)⟩, ⟨k8, .str (Str.ofString "__firstlineno__") (t2 + 1 + 1 + 1 + 1), .int 11 (t2 + 1 + 1 + 1)⟩] 3) := e8
  clear s56 s67 s78 e8 e7 e6
  have k58 : ∀ b ob, b ≠ nsA → h5.get? b = some ob → h8.get? b = some ob := fun b ob hb e => (s78'.2 b hb).trans ((s67'.2 b hb).trans ((s56'.2 b hb).trans e))
  have k38 : ∀ b ob, b ≠ 23 → b ≠ nsA → h3.get? b = some ob → h8.get? b = some ob := fun b ob hb hb' e => k58 _ _ hb' (k35 _ _ hb e)
  have l3 : nsA < h3.objs.size := Heap.lt_size hns
  have ncK : nsA ≠ cK := fun z => by obtain ⟨o, e, _⟩ := acK; rw [← z, nns] at e; cases e
  have nPK : nsA ≠ PK := fun z => by have e := hPT.tab; rw [← z, nns] at e; cases e
  have TK8 := ((hPT.keeps k03).keeps k45).other (S := fun b => b = nsA) (fun b ob hb e => k58 b ob hb e) (fun z => nPK z.symm) (fun z => ncK z.symm)
  have lowA : ∀ {b ob}, h.get? b = some ob → b ≠ nsA := fun {b ob} e z => by rw [z, nns] at e; cases e
  have lowP : ∀ {b ob}, h.get? b = some ob → (∀ vs, ob.data ≠ .fields vs) → b ≠ PK ∧ b ≠ cK := fun {b ob} e n => ⟨fun z => by rw [z, hPT.tab] at e; cases e; exact n _ rfl, fun z => by obtain ⟨o, e1, vs, d⟩ := acK; rw [z, e1] at e; cases e; exact n _ d⟩
  have Gd8 : Gd h8 mg PK nsA := by
    obtain ⟨om, esm, epm, em, rm⟩ := id ng
    refine ⟨⟨om, esm, epm, k38 _ _ T.nP.1 (lowA em) (k03 _ _ em), rm⟩, ⟨bm, ob, hbm, hne0, hneG, (lowP hbo (fun vs q => by rw [hdata] at q; cases q)).1, k38 _ _ hneP (lowA hbo) (k03 _ _ hbo), hcls, hdict, hdata⟩, fun bm' e' => ?_, (lowP em (fun vs q => by rw [rm.1] at q; cases q)).1, lowA em⟩
    rw [hbm] at e'; cases e'; exact lowA hbo
  have KK8 : ∀ i, 4 ≤ i → i ≤ 9 → CodeK h8 (cs i) (kq i) := fun i a b => by
    obtain ⟨o₂, vs₂, t₂, g₂, hc₂, r₁, r₂⟩ := hPK i a b
    exact ⟨o₂, vs₂, t₂, k38 _ _ (fun z => by rw [z, hP] at g₂; cases g₂; cases hc₂) (lowA g₂) (k03 _ _ g₂), hc₂, r₁, r₂⟩
  refine wpAny_bind (cls_hit P (L := L) (h₁ := h8) (by rw [hnm]) ⟨fun _ _ _ _ e => e, Nat.le_refl _, e8'⟩ TK8 KK8 Gd8 ⟨ncK, nPK⟩ fun hs ts fs sl tS h9 t9 C9 T9 kk9 hsl9 hF9 => ?_)
  refine wpAny_bind (wpAny_onRaise ?_)
  refine wpAny_bind (any_mapM1 ?_)
  refine wpAny_bind (wpAny_newTextTuple ?_)
  repeat wp_delta
  refine wpAny_bind (store_cls (n' := 12) rfl (.inr ⟨rfl, by decide +kernel⟩) (Heap.get?_push_of_some _ C9.ns) (by kernel_rfl) (es' := fun k x => (kEnt hs ts (Str.ofString "cpy313.functools") 11 sl fs 0).take 11 ++ [⟨k, x, .ref h9.objs.size⟩]) (by intro k y; kernel_rfl) fun k10 hA' s10 e10 => ?_)
  repeat wp_delta
  refine wpAny_pure ?_
  repeat wp_delta
  have s10' : Heap.SameBut nsA (h9.push { cls := .type "tuple", dict := none, data := .seq [Value.str (Str.ofString "obj") t9].toArray }) hA' := s10
  have e10' : hA'.get? nsA = some (dobj (kEnt (fun i => if i = 11 then k10 else hs i) (fun i => if i = 11 then t9 + 1 else ts i) (Str.ofString "cpy313.functools") 11 sl fs h9.objs.size) 12) := e10
  clear s10 e10
  have k9A : ∀ b ob, b ≠ nsA → h9.get? b = some ob → hA'.get? b = some ob := fun b ob hb e => (s10'.2 b hb).trans (Heap.get?_push_of_some _ e)
  have k3A : ∀ b ob, b ≠ 23 → b ≠ nsA → b ≠ PK → h3.get? b = some ob → hA'.get? b = some ob := fun b ob hb hb' hb'' e => k9A _ _ hb' (kk9 _ _ hb' hb'' (k38 _ _ hb hb' e))
  have k0A : ∀ b ob, b ≠ 23 → h.get? b = some ob → hA'.get? b = some ob := fun b ob hb e => by
    by_cases z : b = PK
    · subst z
      rw [hPT.tab] at e; cases e
      exact k9A _ _ (fun q => nPK q.symm) T9.tab
    · exact k3A _ _ hb (lowA e) z (k03 _ _ e)
  have bT16 : bT ≠ 23 := fun z => by have := (D.nw _ (.head _)).2; rw [show ((bT, ({ cls := .type "tuple", data := .seq [Value.type "object"].toArray } : Obj)) : Addr × Obj).1 = 23 from z, hP] at this; cases this
  have hbTA : hA'.get? bT = some { cls := .type "tuple", data := .seq #[.type "object"] } := k3A _ _ bT16 (cls_ne hbT hns rfl rfl (by decide)) (fun z => by have e := hPT.tab; rw [← z] at e; have e2 := (D.nw _ (.head _)).2; rw [show ((bT, ({ cls := .type "tuple", data := .seq [Value.type "object"].toArray } : Obj)) : Addr × Obj).1 = bT from rfl, e] at e2; cases e2) hbT
  have hslA : hA'.get? sl = some { cls := .type "list", data := .seq #[.str (Str.ofString "obj") tS] } := k9A _ _ (cls_ne hsl9 C9.ns rfl rfl (by decide)) hsl9
  have stne : h9.objs.size ≠ nsA := Nat.ne_of_gt (Heap.lt_size C9.ns)
  have hstA : hA'.get? h9.objs.size = some { cls := .type "tuple", data := .seq [Value.str (Str.ofString "obj") t9].toArray } := (s10'.2 _ stne).trans (Heap.get?_push_size _ rfl)
  have hFA : ∀ i, 4 ≤ i → i ≤ 9 → FnAt P hA' (L + 1) (.str nm tn) i (fs i) (cs i) := fun i a b => (hF9 i a b).step C9.ns T9.tab T9.ok fun b ob hb _ e => k9A b ob hb e
  have hoSA : hA'.get? cStatics = some ⟨.none, none, .dict #[] 0, #[]⟩ := k0A _ _ T.nP.2 hoS
  refine bm_if_false rfl ?_
  refine wpAny_bind (call_type3 (k := 0) (type_new (hA.in1).in1 (by decide) hbTA e10' nsS hslA (fun i a b => let ⟨_, e, _⟩ := hFA i a b; ⟨_, e, rfl⟩) ⟨_, hstA, rfl⟩ hoSA hS1 fun N C D' k1 k2 t1 t2 t3 t' hB kAB fresh hC hN hD => ?_))
  refine ⟨C, _, rfl, hC, rfl, ?_⟩
  repeat wp_delta
  refine wpAny_pure ?_
  refine wpAny_bind (wpAny_of_eq (a := .ref C) rfl ?_)
  refine wpAny_bind (wpAny_standAt (wpAny_bind (wpAny_bindName ?_)))
  obtain ⟨m, nL, hmL⟩ := F.loc
  have L16 : L ≠ 23 := fun z => by
    obtain ⟨om, esm, epm, em, dm, rm⟩ := nL
    rw [show (callEnvC (fnOf (hd01.heap_1 P) 28) L 28).locals = 23 from z, hP] at em
    cases em; cases dm
  have kB : ∀ b ob, b ≠ 23 → h.get? b = some ob → hB.get? b = some ob := fun b ob hb e => kAB _ _ (k0A _ _ hb e)
  have nLB : hB.Ns L m := by
    obtain ⟨om, esm, epm, em, rm⟩ := nL
    exact ⟨om, esm, epm, kB _ _ L16 em, rm⟩
  refine wpAny_storeName_local rfl nLB (fun hF nF sF => ?_) rfl
  refine wpAny_pure ?_
  dsimp only
  have sF' : Heap.SameBut L hB hF := sF
  have nF' : hF.Ns L (fun y => if y = Str.ofString "K" then some (.ref C) else m y) := nF
  clear sF nF
  refine jExecs_cons (jReturn (wpJ.of (wpAny_Name (wpAny_loadName_local rfl rfl nF' (if_pos rfl) ?_) rfl)))
  have kF : ∀ b ob, b ≠ L → hB.get? b = some ob → hF.get? b = some ob := fun b ob hb e => (sF'.2 b hb).trans e
  have lL : ∃ ob, h.get? L = some ob ∧ ∃ es ep, ob.data = .dict es ep := let ⟨om, esm, epm, em, dm, rm⟩ := nL; ⟨om, em, esm, epm, dm⟩
  obtain ⟨oL, eL, _, _, dL⟩ := lL
  have freshL : ∀ {b}, hA'.get? b = none → b ≠ L := fun {b} e z => by rw [z, k0A _ _ L16 eL] at e; cases e
  have hC' := kF _ _ (freshL fresh.2.1) hC
  have hN' := kF _ _ (freshL fresh.1) hN
  have hD' := kF _ _ (freshL fresh.2.2) hD
  obtain ⟨cc, vv, hlk, hcell, hrep⟩ := F.cel (Str.ofString "mycmp") (.val f) rfl (fun z => by cases (show some NameKind.cell = some NameKind.local from z))
  cases hrep
  have hcc : cc = L + 1 := by
    have : (callEnvC (fnOf (hd01.heap_1 P) 28) L 28).cells.lookup (Str.ofString "mycmp") = some (L + 1) := rfl
    rw [this] at hlk; cases hlk; rfl
  subst hcc
  have hFF : ∀ i, 4 ≤ i → i ≤ 9 → FnAt P hF (L + 1) (.str nm tn) i (fs i) (cs i) := fun i a b => by
    obtain ⟨ct, e, r⟩ := hFA i a b
    have e' := kAB _ _ e
    refine ⟨ct, kF _ _ (fun z => ?_) e', ?_⟩
    · rw [z, kB _ _ L16 eL] at e'; cases e'; cases dL
    · obtain ⟨o₂, vs₂, t₂, g₂, hc₂, r₁, r₂⟩ := r
      have g₂' := kAB _ _ g₂
      exact ⟨o₂, vs₂, t₂, kF _ _ (fun z => by rw [z, kB _ _ L16 eL] at g₂'; cases g₂'; rw [dL] at r₁; cases r₁) g₂', hc₂, r₁, r₂⟩
  refine ⟨hF, _, rfl, ⟨fun b ob nb e => ?_⟩, .ref C, rfl, C, rfl, fun xC => ?_, ?_, ?_⟩
  · exact kF _ _ (fun z => nb (.inl (.inl z))) (kB _ _ (fun z => nb (.inr z)) e)
  · obtain ⟨ob, e⟩ := F.xs C xC
    by_cases z : C = 23
    · have := fresh.2.1
      rw [z, (k9A 23 _ (Ne.symm ns16) (kk9 23 _ (Ne.symm ns16) n23P (k58 23 _ (Ne.symm ns16) (k45 _ _ T3.tab)))) ] at this
      cases this
    · have := fresh.2.1
      rw [k0A _ _ z e] at this; cases this
  · refine ⟨N, D', L + 1, bT, sl, h9.objs.size, (fun i => if i = 11 then k10 else hs i), (fun i => if i = 11 then t9 + 1 else ts i), fs, cs, .str nm tn, k1, k2, _, t1, t2, t3, hC', hN', hD', ?_, fun i a b => ?_, fun xN => ?_, fun xc => hXM _ xc (.inr ⟨Str.ofString "mycmp", rfl, rfl⟩)⟩
    · obtain ⟨oc, eoc, doc⟩ := hcell
      exact ⟨oc, kF _ _ (fun z => by rw [z, eL] at eoc; cases eoc; rw [dL] at doc; cases doc) (kB _ _ (fun z => by rw [z, hP] at eoc; cases eoc; cases doc) eoc), doc⟩
    · exact hFF i a b
    · obtain ⟨ob, e⟩ := F.xs N xN
      by_cases z : N = 23
      · have := fresh.1
        rw [z, (k9A 23 _ (Ne.symm ns16) (kk9 23 _ (Ne.symm ns16) n23P (k58 23 _ (Ne.symm ns16) (k45 _ _ T3.tab)))) ] at this
        cases this
      · have := fresh.1
        rw [k0A _ _ z e] at this; cases this
  · have e4 : h3.get? 23 = some (tabObj #[rawInt 11, rawInt 4, .ref cK]) := T3.tab
    refine ⟨kF _ _ (Ne.symm L16) (kAB _ _ (k9A _ _ (Ne.symm ns16) (kk9 _ _ (Ne.symm ns16) n23P (k58 _ _ (Ne.symm ns16) (k45 _ _ e4))))), ?_, fun i a b => let ⟨_, _, r⟩ := hFF i a b; r⟩
    have TA := (T9.other (S := fun b => b = nsA) (fun b ob hb e => k9A b ob hb e) (fun z => nPK z.symm) (fun z => ncK z.symm)).keeps kAB
    exact TA.other (S := fun b => b = L) (fun b ob hb e => kF b ob hb e) (fun z => (lowP eL (fun vs q => by rw [dL] at q; cases q)).1 z.symm) (fun z => (lowP eL (fun vs q => by rw [dL] at q; cases q)).2 z.symm)
end Mine
end
noncomputable section
open PySem PySem.W PySem.W.X PyProof.Rows
set_option Elab.async false
set_option linter.unusedVariables false
set_option maxRecDepth 100000
namespace Mine
/-- a thing of K -/
noncomputable def Inst (h : Heap) (x C : Addr) (v : Value) : Prop := ∃ dx, h.get? x = some ⟨.ref C, some dx, .plain, #[some v]⟩
noncomputable abbrev codeO (dd : Option Addr) (sl : Array (Option Value)) (v0 : Value) (q : Str) (t : Tok) (r : List Value) : Obj := ⟨.type "code", dd, .fields ⟨v0 :: .str q t :: r⟩, sl⟩
theorem CodeK.open {h : Heap} {c : Addr} {q : Str} (r : CodeK h c q) : ∃ dd sl v0 t r, h.get? c = some (codeO dd sl v0 q t r) := by
  obtain ⟨⟨cl, dd, dt, sl⟩, vs, t, g, rc, r1, r2⟩ := r
  simp only at r1 rc
  subst r1 rc
  obtain ⟨l⟩ := vs
  match l, r2 with
  | v0 :: x :: r, r2 =>
    simp only [List.getElem?_toArray, List.getElem?_cons_succ, List.getElem?_cons_zero, Option.some.injEq] at r2
    subst r2
    exact ⟨dd, sl, v0, _, r, g⟩
  | [], r2 => simp at r2
  | [_], r2 => simp at r2
noncomputable abbrev nsE (hs : Nat → Int) (ts : Nat → Nat) (fs : Nat → Addr) (sl st D : Addr) (k1 k2 : Int) (t1 t2 : Tok) : Obj := ⟨.type "dict", none, .dict ((kEnt hs ts (Str.ofString "cpy313.functools") 11 sl fs st).eraseIdx 1 ++ [(⟨k1, .str (Str.ofString "obj") t1, .ref D⟩ : DictEntry)] ++ [(⟨k2, .str (Str.ofString "__doc__") t2, .none⟩ : DictEntry)]).toArray 3, #[]⟩
section
variable {prog : Program} {w : World} {h : Heap} {g : Array GenState} {d : Drawn} {t : Nat} {os : OsState} {Q : Value → Shared → Prop} {E : Value → Shared → Prop}
local macro_rules | `(tactic| x_close) => `(tactic| (apply_assumption <;> first | assumption | rfl))
/-- the method __init__ -/
noncomputable def initDef (a1 a2 p1 p2 p3 p4 p5 : Pos) (pm cd ct : Value) : FuncData := defFn (Str.ofString "__init__") (Str.ofString "cmp_to_key.<locals>.K.__init__")
  { posonlyargs := [], args := [{ arg := "self", annotation := none, pos := a1 }, { arg := "obj", annotation := none, pos := a2 }], vararg := none, kwonlyargs := [], kw_defaults := [], kwarg := none, defaults := [] }
  (.stmts [.Assign [.Attribute (.Name "self" p1) "obj" p2] (.Name "obj" p3) p4]) { kind := .function, names := [(Str.ofString "self", .local), (Str.ofString "obj", .local)], isGenerator := false, isCoroutine := false, more := [] } [] pm cd ct
set_option maxHeartbeats 0 in
theorem inst_x {a1 a2 p1 p2 p3 p4 p5 : Pos} {C N D bT sl st cI : Addr} {t0 t1 t2 t3 tI : Tok} {hs : Nat → Int} {ts : Nat → Nat} {fs : Nat → Addr} {k1 k2 : Int} {v pm ct v0 : Value} {dd : Option Addr} {sll : Array (Option Value)} {r : List Value}
   (hC : h.get? C = some ⟨.type "type", none, .cls (cd2 C N), #[some (.ref bT), none, some (.str (Str.ofString "K") t0), some (.str (Str.ofString "cmp_to_key.<locals>.K") (ts 21)), some (.builtin "object.__new__"), some (.bool false)]⟩)
   (hN : h.get? N = some (nsE hs ts fs sl st D k1 k2 t1 t2)) (hD : h.get? D = some ⟨.type "member_descriptor", none, .fields #[.str (Str.ofString "obj") t3, .ref C, .builtin "proto.slot", .builtin "proto.slot#set", .int 0 0], #[]⟩)
   (hI : h.get? (fs 4) = some ⟨.type "function", none, .func (initDef a1 a2 p1 p2 p3 p4 p5 pm (.ref cI) ct), #[]⟩)
   (hcI : h.get? cI = some (codeO dd sll v0 (Str.ofString "cmp_to_key.<locals>.K.__init__") tI r))
   (hS : h.get? (nat_lit 2) = some ⟨.none, none, .dict #[] 0, #[]⟩)
   (q : ∀ x dx o₁ o₂ L h', Mem h h' [] [(L, o₁), (x, ⟨.ref C, some dx, .plain, #[some v]⟩), (dx, o₂)] → Q (.ref x) ⟨h', g, d, t + 1 + 1 + 1, os⟩) : wpAny (model prog w) AK (call (.ref C) [v]) Q E ⟨h, g, d, t, os⟩ := by
  unfold nsE at hN
  unfold initDef at hI
  unfold codeO at hcI
  x_run
end
end Mine
end
noncomputable section
open PySem PySem.W PySem.W.X PyProof.Rows
set_option Elab.async false
set_option linter.unusedVariables false
set_option maxRecDepth 100000
namespace Mine
/-- a key class's read face -/
structure KA (h : Heap) (C N D : Addr) (m : Str → Option Value) : Prop where
  cls : ∃ q sl0 sl1 sl2 sl3 sl5, h.get? C = some (excClassObj (Str.ofString "K") q C N [.type "object"] [.type "object"] false [Str.ofString "obj"] [] false none none sl0 sl1 sl2 sl3 sl5 "object.__new__")
  ns : h.Ns N m
  ga : m "__getattribute__" = none
  gt : m "__getattr__" = none
  ob : m "obj" = some (.ref D)
  md : ∃ t3, h.get? D = some ⟨.type "member_descriptor", none, .fields #[.str (Str.ofString "obj") t3, .ref C, .builtin "proto.slot", .builtin "proto.slot#set", .int 0 0], #[]⟩
noncomputable def opName (i : Nat) : Str := match i with
  | 5 => "__lt__" | 6 => "__gt__" | 7 => "__eq__" | 8 => "__le__" | _ => "__ge__"
theorem KC.face {P : Params} {h : Heap} {C : Addr} {f : Value} (k : KC P h C f) : ∃ N D m cel pm, KA h C N D m ∧ h.IsCell cel (some f) ∧ ∀ i, 5 ≤ i → i ≤ 9 → ∃ fi ci, m (opName i) = some (.ref fi) ∧ FnAt P h cel pm i fi ci := by
  obtain ⟨N, D, cel, bT, sl, st, hs, ts, fs, cs, pm, k1, k2, t0, t1, t2, t3, hC, hN, hD, hcel, hfs, -⟩ := k
  refine ⟨N, D, _, cel, pm, ⟨⟨_, _, _, _, _, _, hC⟩, ⟨_, _, _, hN, rfl, ?_, fun _ => rfl⟩, ?_, ?_, ?_, ⟨_, hD⟩⟩, hcel, fun i h5 h9 => ⟨fs i, cs i, ?_, hfs i (by omega) h9⟩⟩
  · intro e he
    simp only [kEnt, List.eraseIdx, List.cons_append, List.nil_append, List.mem_toArray, List.mem_cons, List.not_mem_nil, or_false] at he
    rcases he with rfl | rfl | rfl | rfl | rfl | rfl | rfl | rfl | rfl | rfl | rfl | rfl | rfl <;> exact ⟨_, _, rfl⟩
  · kernel_rfl
  · kernel_rfl
  · kernel_rfl
  · obtain rfl | rfl | rfl | rfl | rfl : i = 5 ∨ i = 6 ∨ i = 7 ∨ i = 8 ∨ i = 9 := by omega
    all_goals kernel_rfl
end Mine
end
noncomputable section
open PySem PySem.W PySem.W.X PyProof.Rows
set_option Elab.async false
set_option linter.unusedVariables false
set_option maxRecDepth 100000
namespace Mine
section
variable {prog : Program} {w : World} {h : Heap} {g : Array GenState} {d : Drawn} {t : Nat} {os : OsState} {E : Value → Shared → Prop}
section
local macro_rules | `(tactic| x_close) => `(tactic| (apply_assumption <;> first | assumption | rfl))
set_option maxHeartbeats 0 in
theorem slotget_x {C N D x : Addr} {t3 : Tok} {q : Str} {sl0 sl1 sl2 sl3 sl5 : Option Value} {dx : Option Addr} {v : Value} {Q : Value → Shared → Prop}
   (hC : h.get? C = some ⟨.type "type", none, .cls { name := Str.ofString "K", bases := [.type "object"], mro := [.ref C, .type "object"], ns := N, qualname := q, hasDict := false, slotNames := [Str.ofString "obj"], subclasses := [], abstract := false, collection := none, hasDel := false }, #[sl0, sl1, sl2, sl3, some (.builtin "object.__new__"), sl5]⟩)
   (hD : h.get? D = some ⟨.type "member_descriptor", none, .fields #[.str (Str.ofString "obj") t3, .ref C, .builtin "proto.slot", .builtin "proto.slot#set", .int 0 0], #[]⟩)
   (hx : h.get? x = some ⟨.ref C, dx, .plain, #[some v]⟩)
   (q : Q v ⟨h, g, d, t, os⟩) : wpAny (model prog w) AK (call (.builtin "member_descriptor.__get__") [.ref D, .ref x, .ref C]) Q E ⟨h, g, d, t, os⟩ := by
  x_run
end
theorem md_get : typeLookup (.type "member_descriptor") (Str.ofString "__get__") = pure (some (.builtin "member_descriptor.__get__")) := by rw [typeLookup_type, builtinLookup_eq_fast]; kernel_rfl
theorem md_set : typeLookup (.type "member_descriptor") (Str.ofString "__set__") = pure (some (.builtin "member_descriptor.__set__")) := by rw [typeLookup_type, builtinLookup_eq_fast]; kernel_rfl
theorem hooked_plain : plainId "proto.getattr_hooked" = true := by decide +kernel
theorem ob_obj : typeLookup (.type "object") (Str.ofString "obj") = pure none := by rw [typeLookup_type, builtinLookup_eq_fast]; kernel_rfl
set_option maxHeartbeats 4000000 in
theorem slot_attr {A : Around} {k : Nat} (hA : Bud k A) (hk : 50 ≤ k) {C N D x : Addr} {m : Str → Option Value} {dx : Option Addr} {v : Value} {expr : Bool} {Q : Value → Shared → Prop} (K : KA h C N D m)
   (hx : h.get? x = some ⟨.ref C, dx, .plain, #[some v]⟩) (hh : handedOut v = pure v) (q : Q v ⟨h, g, d, t + 1, os⟩) : wpAny (model prog w) A (getAttr (.ref x) (Str.ofString "obj") expr) Q E ⟨h, g, d, t, os⟩ := by
  obtain ⟨⟨qn, sl0, sl1, sl2, sl3, sl5, hC⟩, hn, hga, hgt, hob, t3, hD⟩ := K
  unfold getAttr getAttrBy
  repeat (first | with_reducible refine wpAny_loadPart_at hx ?_ | (with_reducible refine wpAny_typeLookup_exc hC hn F.mro_object F.lk_object_ga ?_; rw [hga]) | wp_step)
  show wpAny _ _ ((runValue (.builtin "proto.getattr_hooked" ⟨[.ref x, .str (Str.ofString "obj") t], []⟩)).onRaise (noteIf true (.ref x) (.str (Str.ofString "obj") t))) _ _ _
  refine wpAny_onRaise (wpAny_runValue (codeAny_builtin F.plainObj_entry_getattr_hooked ?_))
  unfold Builtin.«proto.getattr_hooked»
  repeat (first | with_reducible refine wpAny_loadPart_at hx ?_ | wp_step)
  refine wpAny_typeLookup_exc hC hn F.mro_object ob_obj ?_
  rw [hob]
  unfold Builtin.ObjectAttr.getOf
  refine wpAny_bind (wpAny_specialOf ⟨_, hD, rfl⟩ md_get ?_)
  refine wpAny_bind ?_
  unfold Builtin.ObjectAttr.dataDescriptor? Builtin.ObjectAttr.takesStores
  refine wpAny_bind (wpAny_bind (wpAny_specialOf ⟨_, hD, rfl⟩ md_set ?_))
  refine bm_if_true rfl ?_
  repeat wp_step
  refine wpAny_typeLookup_exc hC hn F.mro_object F.lk_object_getattr ?_
  rw [hgt]
  rw [Around.under_plainId hooked_plain _]
  unfold Builtin.ObjectAttr.bindWithHook Builtin.ObjectAttr.bindTo
  refine wpAny_bind (wpAny_holding (Bud.wk (k := 49) (hA.mono hk).in1 (by decide) (slotget_x hC hD hx ?_)))
  refine wpAny_pure ?_
  show wpAny _ _ (handedOut v) _ _ _
  rw [hh]
  exact wpAny_pure q
end
end Mine
end
noncomputable section
open PySem PySem.W PySem.W.X PyProof.Rows
set_option Elab.async false
set_option linter.unusedVariables false
set_option maxRecDepth 100000
namespace Mine
variable {prog : Program} {w : World} {G : Heap → Prop} {Z : Addr → Prop}
theorem ev_obj (W : Glob G Z) {k env} {ρ : Rho} {x p pos C d} (hK : ∀ h, G h → ∃ N D m, KA h C N D m) (h₁ : EvS prog w G Z k env ρ (.Name x p) (.key C d)) (hh : ∀ h X v, Rep h X d v → handedOut v = pure v) (hk : 50 ≤ k := by omega) :
    EvS prog w G Z k env ρ (.Attribute (.Name x p) "obj" pos) d := by
  intro A hA X h g dr tk o F
  rw [arm_eval_Attribute]
  refine wpJ_bind ?_
  show wpJ _ _ (eval (.Name x p) env) _ _
  refine h₁.use hA F fun h' t' v g₁ r₁ => ?_
  obtain ⟨x', dx, u, rfl, hx, ho, ru⟩ := r₁
  obtain ⟨N, D, m, K⟩ := hK h' (F.le W g₁).g
  refine wpJ_at (wpJ_bind (wpJ_holding (wpJ.of (slot_attr hA hk K ho (hh _ _ _ ru) ?_))))
  refine wpJ_bind (wpJ_pure ?_)
  exact wpJ_pure ⟨h', _, rfl, g₁, ru⟩
theorem KC.le {P : Params} {h h' : Heap} {C : Addr} {f : Value} (k : KC P h C f) (g : Le h h') : KC P h' C f := KCz.grow k g (fun _ q => q.elim) fun _ q => q.elim
theorem init_eq (P : Params) (cel : Addr) (pm cd ct : Value) : methFd P 4 cel pm cd ct = initDef ⟨15, 21, 15, 25⟩ ⟨15, 27, 15, 30⟩ ⟨16, 12, 16, 16⟩ ⟨16, 12, 16, 20⟩ ⟨16, 23, 16, 26⟩ ⟨16, 12, 16, 26⟩ ⟨15, 8, 16, 26⟩ pm cd ct := by kernel_rfl
/-- a key made -/
theorem key_new {h₀ : Heap} {C : Addr} {f : Value} (fr : ∀ h, G h → Le h₀ h) (K : KC w.params h₀ C f) (stat : ∀ h, G h → h.get? cStatics = some ⟨.none, none, .dict #[] 0, #[]⟩) {d : D} : CallS prog w G 49 (.ref C) [d] (.key C d) := by
  intro A hA X h g dr tk o vs hg hx r
  obtain ⟨v, _, rfl, r, rfl⟩ := r
  obtain ⟨N, D, cel, bT, sl, st, hs, ts, fs, cs, pm, k1, k2, t0, t1, t2, t3, hC, hN, hD, hcel, hfs, -⟩ := K.le (fr h hg)
  obtain ⟨ct, e, c⟩ := hfs 4 (by decide) (by decide)
  obtain ⟨dd, sll, v0, tI, rr, hc⟩ := c.open
  refine wpJ.of (hA.wk (Nat.le_refl _) (inst_x (cI := cs 4) (ct := ct) (pm := pm) hC hN hD (e.trans (by rw [init_eq])) hc (stat h hg) fun x dx o₁ o₂ L h' M => ?_))
  have gr : Le h h' := ⟨fun b o _ e => mm_old M e⟩
  refine ⟨h', _, rfl, gr, x, dx, v, rfl, fun q => ?_, mm_at M (.tail _ (.head _)), r.le gr⟩
  obtain ⟨ob, eb⟩ := hx x q
  have := (M.nw _ (.tail _ (.head _))).2
  rw [eb] at this; cases this
end Mine
end
noncomputable section
open PySem PySem.W PySem.W.X PyProof.Rows
set_option Elab.async false
set_option linter.unusedVariables false
set_option maxRecDepth 100000
namespace Mine
variable {prog : Program} {w : World} {G : Heap → Prop} {Z : Addr → Prop}
section
variable {A : Around} {h : Heap} {g : Array GenState} {d : Drawn} {t : Nat} {os : OsState} {x C fA y : Addr} {B : String}
theorem jOwnCall {M : Model} {name : Str} {args : List Value} {Q : Option Value → Shared → Prop} (X : h.OwnSpecial x C fA B name)
    (hcall : wpJ M A (call (.ref fA) (.ref x :: args)) (fun v => Q (some v)) ⟨h, g, d, t, os⟩) : wpJ M A (callSpecialIfBound? (.ref x) name args) Q ⟨h, g, d, t, os⟩ := by
  have X' := X
  obtain ⟨o, of, _, _, _, _, _, _, _, _, _, _, _, _, _, _, _, _, _, _, _, _, _, _, _, _, hfo, hfc, _, _⟩ := X'
  simp only [callSpecialIfBound?, bindSpecialIfBound?]
  refine wpJ_holding (wpJ_bind (wpJ_bind (wpJ.of (wpAny_specialOf_own X ?_))))
  refine wpJ_bind (wpJ.of (wpAny_askSetting ?_))
  have fin : wpJ M A (call (.ref fA) ([.ref x] ++ args) >>= fun v => pure (some v)) Q ⟨h, g, d, t, os⟩ :=
    wpJ_bind (wpJ_mono hcall (fun v s' h' => wpJ_pure h'))
  split
  · exact wpJ_bind (wpJ.of (wpAny_bindSpecial_def (s := ⟨h, g, d, t, os⟩) hfo hfc (wpJ_pure (by exact fin))))
  · exact wpJ_tryCatch (wpJ_bind (wpJ.of (wpAny_bindSpecial_def (s := ⟨h, g, d, t, os⟩) hfo hfc (wpJ_pure (by exact fin)))))
end
noncomputable def CmpK (prog : Program) (w : World) (G : Heap → Prop) (k : Nat) (op : CmpOp) (d₁ d₂ : D) (b : Bool) : Prop :=
  ∀ A, Bud k A → ∀ X h g dr tk o v₁ v₂, G h → Alive X h → Rep h X d₁ v₁ → Rep h X d₂ v₂ → wpJ (model prog w) A (compareOp op v₁ v₂) (Post g dr o no h fun h' v => Rep h' X (.bool b) v) ⟨h, g, dr, tk, o⟩
section
variable {k : Nat} {env : Env} {ρ : Rho}
end
/-- the operation of method i -/
noncomputable def opOf (i : Nat) : CmpOp := match i with
  | 5 => .Lt | 6 => .Gt | 8 => .LtE | _ => .GtE
/-- what method i says of the comparison's number -/
noncomputable def saysOf (i : Nat) (n : Int) : Bool := match i with
  | 5 => decide (n < 0) | 6 => decide (0 < n) | 8 => decide (n ≤ 0) | _ => decide (0 ≤ n)
theorem meth_bind {P : Params} {i : Nat} {cel : Addr} {pm cd ct a b : Value} (hi : i = 5 ∨ i = 6 ∨ i = 8 ∨ i = 9) : bindArgs (methFd P i cel pm cd ct) ⟨[a, b], []⟩ = pure ((["self", "other"] : List Str).zip [a, b]) := by
  rcases hi with rfl | rfl | rfl | rfl <;> kernel_rfl
theorem meth_clo {P : Params} {i : Nat} {cel : Addr} {pm cd ct : Value} (hi : i = 5 ∨ i = 6 ∨ i = 8 ∨ i = 9) : (methFd P i cel pm cd ct).closure = [(Str.ofString "mycmp", cel)] := by
  rcases hi with rfl | rfl | rfl | rfl <;> kernel_rfl
theorem meth_names {P : Params} {i : Nat} {cel : Addr} {pm cd ct : Value} (hi : i = 5 ∨ i = 6 ∨ i = 8 ∨ i = 9) : (methFd P i cel pm cd ct).scope.names = [(Str.ofString "self", .local), (Str.ofString "other", .local), (Str.ofString "mycmp", .free)] := by
  rcases hi with rfl | rfl | rfl | rfl <;> kernel_rfl
theorem meth_code {P : Params} {i : Nat} {cel : Addr} {pm cd ct : Value} (hi : i = 5 ∨ i = 6 ∨ i = 8 ∨ i = 9) : (methFd P i cel pm cd ct).code = cd ∧ (methFd P i cel pm cd ct).qualname = kq i := by
  rcases hi with rfl | rfl | rfl | rfl <;> exact ⟨by kernel_rfl, by kernel_rfl⟩
theorem meth_flags {P : Params} {i : Nat} {cel : Addr} {pm cd ct : Value} (hi : i = 5 ∨ i = 6 ∨ i = 8 ∨ i = 9) : (methFd P i cel pm cd ct).scope.isCoroutine = false ∧ (methFd P i cel pm cd ct).scope.isGenerator = false ∧ (methFd P i cel pm cd ct).scope.kind = .function := by
  rcases hi with rfl | rfl | rfl | rfl <;> exact ⟨by kernel_rfl, by kernel_rfl, by kernel_rfl⟩
theorem meth_body {P : Params} {i : Nat} {cel : Addr} {pm cd ct : Value} (hi : i = 5 ∨ i = 6 ∨ i = 8 ∨ i = 9) : ∃ p1 p2 p3 p4 p5 p6 p7 p8 p9, (methFd P i cel pm cd ct).body = .stmts [.Return (some (.Compare (.Call (.Name "mycmp" p1) [.Attribute (.Name "self" p2) "obj" p3, .Attribute (.Name "other" p4) "obj" p5] [] p6) [opOf i] [.Constant (.int 0) 0 p7] p8)) p9] := by
  rcases hi with rfl | rfl | rfl | rfl
  · exact ⟨⟨19, 19, 19, 24⟩, ⟨19, 25, 19, 29⟩, ⟨19, 25, 19, 33⟩, ⟨19, 35, 19, 40⟩, ⟨19, 35, 19, 44⟩, ⟨19, 19, 19, 45⟩, ⟨19, 48, 19, 49⟩, ⟨19, 19, 19, 49⟩, ⟨19, 12, 19, 49⟩, by kernel_rfl⟩
  · exact ⟨⟨22, 19, 22, 24⟩, ⟨22, 25, 22, 29⟩, ⟨22, 25, 22, 33⟩, ⟨22, 35, 22, 40⟩, ⟨22, 35, 22, 44⟩, ⟨22, 19, 22, 45⟩, ⟨22, 48, 22, 49⟩, ⟨22, 19, 22, 49⟩, ⟨22, 12, 22, 49⟩, by kernel_rfl⟩
  · exact ⟨⟨28, 19, 28, 24⟩, ⟨28, 25, 28, 29⟩, ⟨28, 25, 28, 33⟩, ⟨28, 35, 28, 40⟩, ⟨28, 35, 28, 44⟩, ⟨28, 19, 28, 45⟩, ⟨28, 49, 28, 50⟩, ⟨28, 19, 28, 50⟩, ⟨28, 12, 28, 50⟩, by kernel_rfl⟩
  · exact ⟨⟨31, 19, 31, 24⟩, ⟨31, 25, 31, 29⟩, ⟨31, 25, 31, 33⟩, ⟨31, 35, 31, 40⟩, ⟨31, 35, 31, 44⟩, ⟨31, 19, 31, 45⟩, ⟨31, 49, 31, 50⟩, ⟨31, 19, 31, 50⟩, ⟨31, 12, 31, 50⟩, by kernel_rfl⟩
set_option maxHeartbeats 4000000 in
/-- a method of a key -/
theorem key_meth (W : Glob G Z) {P : Params} {cel : Addr} {pm ct f : Value} {i : Nat} {fi ci C : Addr} {d₁ d₂ : D} {n : Int} {j : Nat} (hi : i = 5 ∨ i = 6 ∨ i = 8 ∨ i = 9)
    (hf : ∀ h, G h → h.get? fi = some (fnObj (methFd P i cel pm (.ref ci) ct)) ∧ CodeK h ci (kq i) ∧ h.IsCell cel (some f))
    (hK : ∀ h, G h → ∃ N D m, KA h C N D m) (cf : Callee G f) (hc : CallS prog w G j f [d₁, d₂] (.int n))
    (h1 : ∀ h X v, Rep h X d₁ v → handedOut v = pure v) (h2 : ∀ h X v, Rep h X d₂ v → handedOut v = pure v) :
    CallS prog w G (j + 51) (.ref fi) [.key C d₁, .key C d₂] (.bool (saysOf i n)) := by
  have key : ∀ h, G h → ∃ o, h.get? fi = some o ∧ o.data = .func (methFd P i cel pm (.ref ci) ct) ∧ h.CodeRec (methFd P i cel pm (.ref ci) ct).code (methFd P i cel pm (.ref ci) ct).qualname := fun h hg => by
    obtain ⟨a, b, c⟩ := hf h hg
    refine ⟨_, a, rfl, ?_⟩
    rw [(meth_code hi).1, (meth_code hi).2]
    exact b.cr
  have e1 := @meth_bind P i cel pm (.ref ci) ct
  have e2 := @meth_clo P i cel pm (.ref ci) ct hi
  have e3 := @meth_names P i cel pm (.ref ci) ct hi
  have e4 := @meth_flags P i cel pm (.ref ci) ct hi
  obtain ⟨p1, p2, p3, p4, p5, p6, p7, p8, p9, e5⟩ := @meth_body P i cel pm (.ref ci) ct hi
  generalize methFd P i cel pm (.ref ci) ct = fd at key e1 e2 e3 e4 e5
  refine call_clo (k := j + 50) (ρ₀ := upd nil "mycmp" (.val f)) (names := ["self", "other"]) W ⟨key, ?_, ?_⟩ ?_ ?_ ?_ (fun L hL => ?_) e4.1 e4.2.1 e4.2.2
  · intro y d q
    unfold upd at q
    by_cases hy : y = "mycmp"
    · rw [if_pos hy] at q
      cases q
      subst hy
      rw [e2, e3]
      exact ⟨(fun q => nomatch q), cel, rfl, fun h X hg _ => ⟨f, (hf h hg).2.2, rfl⟩⟩
    · rw [if_neg hy] at q; cases q
  · intro x y c hx hy
    rw [e2] at hx hy
    have one : ∀ z, [(Str.ofString "mycmp", cel)].lookup z = some c → z = Str.ofString "mycmp" := fun z hz => by
      rw [List.lookup_cons] at hz
      cases hq : z == Str.ofString "mycmp" with
      | true => exact eq_of_beq hq
      | false => rw [hq] at hz; cases hz
    rw [one x hx, one y hy]
  · intro A s vs _ hv
    obtain ⟨a, b, rfl⟩ := len2 hv
    rw [e1 hi]; exact wpAny_pure ⟨rfl, rfl⟩
  · intro x hx
    rw [e3]
    simp at hx
    rcases hx with rfl | rfl <;> rfl
  · intro x hx
    rw [e3] at hx
    simp at hx
    rcases hx with rfl | rfl | rfl <;> exact fun q => nomatch q
  · have kd : ∀ y, (cloEnv fd L fi).kindOf y = fd.scope.names.lookup y := fun y => rfl
    rw [e3] at kd
    have kf : (cloEnv fd L fi).scope.kind = .function := e4.2.2
    rw [e5]
    refine ⟨nil, ?_⟩
    have ek : EvS prog w G Z (j + 50) (cloEnv fd L fi) (bindR ["self", "other"] [.key C d₁, .key C d₂] (upd nil "mycmp" (.val f))) (.Call (.Name "mycmp" p1) [.Attribute (.Name "self" p2) "obj" p3, .Attribute (.Name "other" p4) "obj" p5] [] p6) (.int n) := by
      refine ev_call W (ev_free rfl (by rw [kd]; rfl) kf) cf (evs_cons W (ev_obj W hK (ev_local rfl (by rw [kd]; rfl) kf) h1) (evs_cons W (ev_obj W hK (ev_local rfl (by rw [kd]; rfl) kf) h2) evs_nil)) hc
    refine Tree.sub (exs_ret (ex_return W ?_)) (fun _ _ e => nomatch e)
    rcases hi with rfl | rfl | rfl | rfl
    · exact ev_cmp W ek ev_int cmp_lt
    · exact ev_cmp W ek ev_int cmp_gt
    · exact ev_cmp W ek ev_int cmp_le
    · exact ev_cmp W ek ev_int cmp_ge
end Mine
end
noncomputable section
open PySem PySem.W PySem.W.X PyProof.Rows
set_option Elab.async false
set_option linter.unusedVariables false
set_option maxRecDepth 100000
namespace Mine
variable {prog : Program} {w : World} {G : Heap → Prop} {Z : Addr → Prop}
theorem ob_lt : typeLookup (.type "object") "__lt__" = pure (some (.builtin "object.__lt__")) := by rw [typeLookup_type, builtinLookup_eq_fast]; kernel_rfl
end Mine
end
noncomputable section
open PySem PySem.W PyProof.Rows
set_option Elab.async false
set_option linter.unusedVariables false
set_option maxRecDepth 100000
namespace Mine
/-- the bytes laid so far within word i -/
noncomputable def Bi (wd : Nat) (data : List UInt8) (b : Array UInt8) (i : Nat) : Nat → Array UInt8
  | 0 => b
  | j + 1 => (Bi wd data b i j).setIfInBounds (i * wd + wd - 1 - j) (data.getD (i * wd + j) 0)
/-- the words laid so far -/
noncomputable def Bo (wd : Nat) (data : List UInt8) : Nat → Array UInt8
  | 0 => Array.replicate data.length 0
  | i + 1 => Bi wd data (Bo wd data i) i wd
theorem Bi_size (wd : Nat) (data : List UInt8) (b : Array UInt8) (i : Nat) : ∀ j, (Bi wd data b i j).size = b.size
  | 0 => rfl
  | j + 1 => by rw [Bi, Array.size_setIfInBounds, Bi_size wd data b i j]
theorem Bo_size (wd : Nat) (data : List UInt8) : ∀ i, (Bo wd data i).size = data.length
  | 0 => by simp [Bo]
  | i + 1 => by rw [Bo, Bi_size, Bo_size wd data i]
theorem stab_ba {a : Addr} {b : Array UInt8} : Stab (fun c => c = a) fun h => h.get? a = some (baObj b) := fun S h h' g hS e => g.get (fun s => hS a s rfl) e (fun q => nomatch q)
variable {prog : Program} {w : World} {G : Heap → Prop} {Z : Addr → Prop}
theorem items_range0 {n : Nat} : items (.range 0 (n : Int) 1) = (List.range n).map fun (i : Nat) => .int (i : Int) := by
  simp only [items_range, rangeL, rangeSize_one]
  have : ((if (0 : Int) < (n : Int) then (n : Int) - 0 else 0)).toNat = n := by split <;> omega
  rw [this]
  simp
theorem log2_small {n : Nat} (h : n ≤ 1000) : ((n : Int)).natAbs.log2 < 9000 := by
  have : ((n : Int)).natAbs = n := rfl
  rw [this]
  exact Nat.lt_of_le_of_lt (Nat.log2_le_self n) (by omega)
theorem rsize {L wd m : Nat} (hw : 1 ≤ wd) (hm : L = m * wd) : Builtin.Range.rangeSize 0 (L : Int) (wd : Int) = (m : Int) := by
  unfold Builtin.Range.rangeSize
  rw [if_pos (show (wd : Int) > 0 by omega)]
  cases m with
  | zero => simp at hm; subst hm; simp
  | succ m =>
    have h1 : L = m * wd + wd := by rw [hm, Nat.add_mul, Nat.one_mul]
    rw [if_pos (by omega)]
    have h2 : ((L : Int) - 0 - 1) = ((wd - 1 : Nat) : Int) + (m : Int) * (wd : Int) := by
      rw [h1]; push_cast; omega
    rw [h2, Int.add_mul_ediv_right _ _ (by omega)]
    rw [show (((wd - 1 : Nat) : Int)) / (wd : Int) = 0 from Int.ediv_eq_zero_of_lt (by omega) (by omega)]
    push_cast; omega
theorem items_len {L wd m : Nat} (hw : 1 ≤ wd) (hm : L = m * wd) : (items (.range 0 (L : Int) (wd : Int))).length = m := by
  simp only [items_range, rangeL, rsize hw hm, List.length_map, List.length_range]
  rfl
theorem items_at {L wd m : Nat} (hw : 1 ≤ wd) (hm : L = m * wd) {i : Nat} {e : D} (he : (items (.range 0 (L : Int) (wd : Int)))[i]? = some e) : i < m ∧ e = .int ((i * wd : Nat) : Int) := by
  simp only [items_range, rangeL, rsize hw hm, List.getElem?_map, Option.map_eq_some_iff] at he
  obtain ⟨j, hj, rfl⟩ := he
  have := List.getElem?_eq_some_iff.mp hj
  obtain ⟨h1, h2⟩ := this
  simp at h1 h2
  subst h2
  exact ⟨h1, by congr 1; simp⟩
theorem can_range3 {L wd : Nat} (hw : 1 ≤ wd) (hw2 : wd ≤ 1000) (hz : L ≤ 1000) : CanIter (.range 0 (L : Int) (wd : Int)) := by
  have hr : 0 ≤ Builtin.Range.rangeSize 0 (L : Int) (wd : Int) ∧ Builtin.Range.rangeSize 0 (L : Int) (wd : Int) ≤ 1001 := by
    unfold Builtin.Range.rangeSize
    rw [if_pos (show (wd : Int) > 0 by omega)]
    split
    · have h1 := Int.ediv_nonneg (a := (L : Int) - 0 - 1) (b := (wd : Int)) (by omega) (by omega)
      have h2 := Int.ediv_le_self (a := (L : Int) - 0 - 1) (wd : Int) (by omega)
      omega
    · omega
  refine ⟨?_, hr.1⟩
  unfold Builtin.Range.small Builtin.Range.rangeFitsLong
  simp only [Bool.and_eq_true, Bool.or_eq_true, decide_eq_true_eq, beq_iff_eq, if_pos (show (wd : Int) > 0 by omega)]
  refine ⟨⟨⟨⟨?_, ?_⟩, ?_⟩, ?_⟩, .inr ?_⟩ <;> omega
theorem idx_lt {i j m wd : Nat} (hi : i < m) (hj : j < wd) : i * wd + j < m * wd := by
  have : (i + 1) * wd ≤ m * wd := Nat.mul_le_mul_right _ hi
  rw [Nat.add_mul, Nat.one_mul] at this
  omega
theorem idx_lt' {i j m wd L : Nat} (hi : i < m) (hj : j < wd) (hm : L = m * wd) : i * wd + wd ≤ L := by
  have : (i + 1) * wd ≤ m * wd := Nat.mul_le_mul_right _ hi
  rw [Nat.add_mul, Nat.one_mul] at this
  omega
set_option maxHeartbeats 4000000 in
theorem byteswap_call (W : Glob G Z) (P : Params) (hfn : ∀ h, G h → ∃ o, h.get? 21 = some o ∧ o.data = .func (fnOf (hd01.heap_1 P) 21) ∧ h.CodeRec (fnOf (hd01.heap_1 P) 21).code (fnOf (hd01.heap_1 P) 21).qualname)
    (g1 : GV G "len" (.builtin "len")) (g2 : GV G "bytearray" (.type "bytearray")) (g3 : GV G "range" (.type "range")) (g4 : GV G "bytes" (.type "bytes"))
    {data : List UInt8} {wd m : Nat} (hw : 1 ≤ wd) (hw2 : wd ≤ 1000) (hm : data.length = m * wd) (hz : data.length ≤ 1000) : CallS prog w G 541 (.ref 21) [.bytes data, .int (wd : Int)] (.bytes (Bo wd data m).toList) := by
  refine call_fn (ρ' := nil) (k := 540) W hfn rfl rfl (names := ["data", "width"]) ?_ ?_ (fun L hL => ?_) rfl rfl rfl
  · intro vs hv
    obtain ⟨a, b, rfl⟩ := len2 hv
    rfl
  · intro x hx
    simp at hx
    rcases hx with rfl | rfl <;> exact .inl rfl
  conv in (fnOf _ _) => whnf
  have hlen : (items (.range 0 (data.length : Int) (wd : Int))).length = m := items_len hw hm
  refine exs_own_ba W (ev_global g2) (ev_call W (ev_global g1) (.inl ⟨_, rfl⟩) (evs_cons W (ev_local rfl) evs_nil) (call_len_bytes (by omega))) (by omega) (by omega) (fun a ha => ?_)
  rw [show ((data.length : Int)).toNat = data.length from rfl]
  refine TrO.sub (ρ' := upd (bindR ["data", "width"] [.bytes data, .int (wd : Int)] nil) "swapped_data" (.val (.ref a))) ?_ (fun _ _ e => nomatch e)
  refine exsO_cons (ex_forO W (Ps := fun i h => h.get? a = some (baObj (Bo wd data i))) (ρs := fun _ => upd (bindR ["data", "width"] [.bytes data, .int (wd : Int)] nil) "swapped_data" (.val (.ref a))) (d := .range 0 (data.length : Int) (wd : Int))
    (ev_call W (ev_global g3) (.inr (.inl ⟨_, rfl⟩)) (evs_cons W ev_int (evs_cons W (ev_call W (ev_global g1) (.inl ⟨_, rfl⟩) (evs_cons W (ev_local rfl) evs_nil) (call_len_bytes (by omega))) (evs_cons W (ev_local rfl) evs_nil))) (call_range3 (by omega) (log2_small hw2))) (can_range3 hw hw2 hz) (fun i => stab_ba) (fun i e he => ?_)) ?_
  · obtain ⟨hi, rfl⟩ := items_at hw hm he
    refine TrO.sub (ρ' := upd (upd (bindR ["data", "width"] [.bytes data, .int (wd : Int)] nil) "swapped_data" (.val (.ref a))) "i" (.int ((i * wd : Nat) : Int))) ?_ ((Sub.refl _).upd rfl)
    refine exsO_cons (P' := fun h => h.get? a = some (baObj (Bi wd data (Bo wd data i) i wd))) ?_ exsO_nil
    have il : (items (.range 0 (wd : Int) 1)).length = wd := by rw [items_range0]; simp
    refine ex_forN W (O := fun c => c = a) (Ps := fun j h => h.get? a = some (baObj (Bi wd data (Bo wd data i) i j))) (ρs := fun _ => upd (upd (bindR ["data", "width"] [.bytes data, .int (wd : Int)] nil) "swapped_data" (.val (.ref a))) "i" (.int ((i * wd : Nat) : Int))) (d := .range 0 (wd : Int) 1) il
      (ev_call W (ev_global g3) (.inr (.inl ⟨_, rfl⟩)) (evs_cons W (ev_local rfl) evs_nil) call_range1) (can_range1 (by omega) (by omega)) (fun j => stab_ba) (fun j e he => ?_)
    rw [items_range0] at he
    simp only [List.getElem?_map, List.getElem?_range, Option.map_eq_some_iff] at he
    obtain ⟨j', hj', rfl⟩ := he
    obtain ⟨hj, hj2⟩ := List.getElem?_eq_some_iff.mp hj'
    simp at hj hj2
    subst hj2
    have hb : i * wd + j < data.length := by rw [hm]; exact idx_lt hi hj
    refine TrO.sub (ρ' := upd (upd (upd (bindR ["data", "width"] [.bytes data, .int (wd : Int)] nil) "swapped_data" (.val (.ref a))) "i" (.int ((i * wd : Nat) : Int))) "j" (.int (j : Int))) ?_ ((Sub.refl _).upd rfl)
    refine exsO_cons ?_ exsO_nil
    have hc : data[i * wd + j]? = some (data.getD (i * wd + j) 0) := by
      rw [List.getD_eq_getElem?_getD]; simp [hb]
    refine ex_set_ba' W (n' := i * wd + wd - 1 - j) (v' := data.getD (i * wd + j) 0) ?_ rfl (ev_sub W (ev_local rfl) (ev_bin W (ev_local rfl) (ev_local rfl) bin_add) (sub_bytes (by omega) ?_ (by omega))) (ev_local rfl) (ev_bin W (ev_bin W (ev_bin W (ev_local rfl) (ev_local rfl) bin_add) ev_int bin_sub) (ev_local rfl) bin_sub) ?_ ?_ ha
    · omega
    · rw [← hc]; congr 1
    · rw [Bi_size, Bo_size]; omega
    · rw [Bi_size, Bo_size]
      have := idx_lt' hi hj hm
      omega
  · rw [hlen]
    exact exs_ret_ba W (b := Bo wd data m) (ev_global g4) (ev_local rfl) (by rw [Bo_size]; omega)
end Mine
end
noncomputable section
open PySem PySem.W PyProof.Rows
set_option Elab.async false
set_option linter.unusedVariables false
set_option maxRecDepth 100000
namespace Mine
variable {prog : Program} {w : World} {G : Heap → Prop} {Z : Addr → Prop}
theorem sub_turn {ρ : Rho} {x y : Str} {a a' e : D} (hy : ρ y = none) (hxy : y ≠ x) : Sub (upd ρ x a') (upd (upd (upd ρ x a) y e) x a') := fun z d q => by
  unfold upd at q ⊢
  by_cases hz : z = x
  · rw [if_pos hz] at q ⊢; exact q
  · rw [if_neg hz] at q ⊢
    by_cases hz' : z = y
    · rw [hz', hy] at q; cases q
    · rw [if_neg hz', if_neg hz]; exact q
set_option maxHeartbeats 4000000 in
theorem reduce_call (W : Glob G Z) (P : Params) (hfn : ∀ h, G h → ∃ o, h.get? 37 = some o ∧ o.data = .func (fnOf (hd01.heap_1 P) 37) ∧ h.CodeRec (fnOf (hd01.heap_1 P) 37).code (fnOf (hd01.heap_1 P) 37).qualname)
    (hbind : ∀ A s (vs : List Value), G s.heap → vs.length = 3 → wpAny (model prog w) A (bindArgs (fnOf (hd01.heap_1 P) 37) ⟨vs, []⟩) (fun b s' => b = (["function", "sequence", "initial"] : List Str).zip vs ∧ s' = s) noE s)
    (g1 : GV G "iter" (.builtin "iter")) (g2 : GV G "_initial_missing" (.ref 29)) (hm : ∀ h, G h → ∃ o, h.get? 29 = some o ∧ o.cls = .type "object")
    {f : Value} (cf : Callee G f) {d : D} {acc : Nat → D} {N k : Nat} (hc : CanIter d) (hN : (items d).length = N) (h0 : (∃ l, acc 0 = .lst l) ∨ (∃ l, acc 0 = .tup l) ∨ ∃ b, acc 0 = .bytes b)
    (hs : ∀ i e, (items d)[i]? = some e → CallS prog w G k f [acc i, e] (acc (i + 1))) : CallS prog w G (k + 5) (.ref 37) [.val f, d, acc 0] (acc N) := by
  refine call_clo (k := k + 4) (ρ₀ := nil) (names := ["function", "sequence", "initial"]) W ⟨hfn, (fun y d q => nomatch q), (fun x y c q => nomatch q)⟩ hbind ?_ ?_ (fun L hL => ?_) rfl rfl rfl
  · intro x hx
    simp at hx
    rcases hx with rfl | rfl | rfl <;> rfl
  · intro x hx
    conv at hx in (fnOf _ _) => whnf
    simp at hx
    rcases hx with rfl | rfl | rfl | rfl | rfl | rfl | rfl | rfl | rfl | rfl | rfl | rfl <;> exact fun q => nomatch q
  conv in (fnOf _ _) => whnf
  refine ⟨nil, ?_⟩
  refine exs_iter_for W (d := d) (ρs := fun I i => upd (upd (bindR ["function", "sequence", "initial"] [.val f, d, acc 0] nil) "it" (.val (.ref I))) "value" (acc i)) hN
    (ev_global g1) (ev_local rfl) hc (fun I => ?_) (fun I => ev_local rfl) (fun I i e he => ?_) (fun I => ?_)
  · exact ex_if W (test_cmp W (ev_local rfl) (ev_global g2) (cmp_is_obj hm h0)) (fun q => nomatch q) (fun _ => exs_cons (ex_assign W (ev_local rfl)) exs_nil)
  · refine Tree.sub ?_ (sub_turn (y := "element") (e := e) (a := acc i) rfl (by decide))
    exact exs_cons (ex_assign W (ev_call W (ev_local rfl) cf (evs_cons W (ev_local rfl) (evs_cons W (ev_local rfl) evs_nil)) (hs i e he))) exs_nil
  · exact Tree.sub (exs_ret (ex_return W (ev_local rfl))) (fun _ _ e => nomatch e)
end Mine
end
noncomputable section
open PySem PySem.W PySem.W.X PyProof.Rows
set_option Elab.async false
set_option linter.unusedVariables false
set_option maxRecDepth 100000
set_option exponentiation.threshold 10000
namespace Mine
variable {prog : Program} {w : World} {G : Heap → Prop} {Z : Addr → Prop}
theorem EvS.eq {k env} {ρ : Rho} {e d d'} (h : EvS prog w G Z k env ρ e d) (q : d = d') : EvS prog w G Z k env ρ e d' := q ▸ h
theorem EvS.int {k env} {ρ : Rho} {e i j} (h : EvS prog w G Z k env ρ e (.int i)) (q : i = j) : EvS prog w G Z k env ρ e (.int j) := q ▸ h
theorem cut_nat {α : Type} (l : List α) (i j : Nat) (hi : i ≤ j) (hj : j ≤ l.length) : cutL l (some (i : Int)) (some (j : Int)) = (l.drop i).take (j - i) := by
  unfold cutL
  simp only [Option.elim, clipAt_nat]
  rw [Nat.min_eq_left (Nat.le_trans hi hj), Nat.min_eq_left hj]
theorem cut_to {α : Type} (l : List α) (j : Nat) (hj : j ≤ l.length) : cutL l none (some (j : Int)) = l.take j := by
  unfold cutL
  simp only [Option.elim, clipAt_nat, List.drop_zero]
  rw [Nat.min_eq_left hj, Nat.sub_zero]
theorem cut_from {α : Type} (l : List α) (i : Nat) (hi : i ≤ l.length) : cutL l (some (i : Int)) none = l.drop i := by
  unfold cutL
  simp only [Option.elim, clipAt_nat]
  rw [Nat.min_eq_left hi, List.take_of_length_le (Nat.le_of_eq List.length_drop)]
/-- a text that ends with a return -/
noncomputable def RetS (prog : Program) (w : World) (G : Heap → Prop) (Z : Addr → Prop) (k : Nat) (env : Env) (ρ : Rho) (st : List Stmt) (d : D) : Prop := ∃ ρ', ExsS prog w G Z k env ρ st (.ret d) ρ'
section
variable {k : Nat} {env : Env} {ρ ρ' : Rho}
theorem ret_cons {st rest d} (h₁ : ExS prog w G Z k env ρ st .next ρ') (h₂ : RetS prog w G Z k env ρ' rest d) : RetS prog w G Z k env ρ (st :: rest) d := let ⟨r, h⟩ := h₂; ⟨r, exs_cons h₁ h⟩
theorem ret_ret (W : Glob G Z) {e pos rest d} (h₁ : EvS prog w G Z k env ρ e d) : RetS prog w G Z k env ρ (.Return (some e) pos :: rest) d := ⟨_, exs_ret (ex_return W h₁)⟩
theorem ret_if (W : Glob G Z) {test body orelse pos rest d} (h₁ : TestS prog w G Z k env ρ test true) (h₂ : RetS prog w G Z k env ρ body d) : RetS prog w G Z k env ρ (.If test body orelse pos :: rest) d := let ⟨r, h⟩ := h₂; ⟨r, exs_ret (ex_if W h₁ (fun _ => h) fun q => nomatch q)⟩
theorem ret_ifnot (W : Glob G Z) {test body pos rest d} (h₁ : TestS prog w G Z k env ρ test false) (h₂ : RetS prog w G Z k env ρ rest d) : RetS prog w G Z k env ρ (.If test body [] pos :: rest) d := ret_cons (ex_if W h₁ (fun q => nomatch q) fun _ => exs_nil) h₂
end
theorem call_fn' (W : Glob G Z) {a : Addr} {fd : FuncData} {body : List Stmt} {names : List Str} {ds : List D} {d : D} {k : Nat}
    (hG : ∀ h, G h → ∃ o, h.get? a = some o ∧ o.data = .func fd ∧ h.CodeRec fd.code fd.qualname)
    (hbody : fd.body = .stmts body) (hclo : fd.closure = [])
    (hbind : ∀ vs : List Value, vs.length = ds.length → bindArgs fd ⟨vs, []⟩ = pure (names.zip vs))
    (hloc : ∀ x ∈ names, fd.scope.names.lookup x = some .local ∨ fd.scope.names.lookup x = some .cell)
    (H : ∀ L, ¬ Z L → RetS prog w G Z k (callEnvC fd L a) (bindR names ds nil) body d)
    (hco : fd.scope.isCoroutine = false := by rfl) (hgen : fd.scope.isGenerator = false := by rfl) (hk : fd.scope.kind = .function := by rfl) : CallS prog w G (k + 1) (.ref a) ds d :=
  call_fn (ρ' := nil) W hG hbody hclo hbind hloc (fun L hL => let ⟨_, h⟩ := H L hL; Tree.sub h fun _ _ e => nomatch e) hco hgen hk
theorem stab_true {O : Addr → Prop} : Stab O (fun _ => True) := fun _ _ _ _ _ _ => trivial
theorem ex_for (W : Glob G Z) {k env} {ρs : Nat → Rho} {x : Str} {p : Pos} {iter : Expr} {body : List Stmt} {pos : Pos} {d : D} {N : Nat} (hN : (items d).length = N)
    (h₁ : EvS prog w G Z k env (ρs 0) iter d) (hc : CanIter d)
    (hb : ∀ i e, (items d)[i]? = some e → ExsS prog w G Z k env (upd (ρs i) x e) body .next (ρs (i + 1)))
    (hl : env.kindOf x = some .local ∨ env.kindOf x = some .cell := by first | exact .inl rfl | exact .inr rfl) (hf : env.scope.kind = .function := by rfl)
    (hs : ∀ v, foldedSetIterable iter env v = pure v := by intro _; rfl) : ExS prog w G Z k env (ρs 0) (.For (.Name x p) iter body [] pos) .next (ρs N) :=
  TrO.plain (ex_forN W (O := no) (Ps := fun _ _ => True) hN h₁ hc (fun _ => stab_true) (fun i e he => TrO.of stab_true (hb i e he)) hl hf hs)
theorem test_eq {k env} {ρ : Rho} {e b b'} (h : TestS prog w G Z k env ρ e b) (q : b = b') : TestS prog w G Z k env ρ e b' := q ▸ h
theorem take_to {α : Type} (l : List α) (j : Nat) : cutL l none (some (j : Int)) = l.take j := by
  unfold cutL
  simp only [Option.elim, clipAt_nat, List.drop_zero, Nat.sub_zero]
  rcases Nat.le_total j l.length with h | h
  · rw [Nat.min_eq_left h]
  · rw [Nat.min_eq_right h, List.take_of_length_le (Nat.le_refl _), List.take_of_length_le h]
theorem fmod_nn (a : Int) (n : Nat) (h : 0 < n) : 0 ≤ a.fmod n ∧ a.fmod n < n := by
  rw [Int.fmod_eq_emod_of_nonneg _ (by omega)]
  exact ⟨Int.emod_nonneg _ (by omega), Int.emod_lt_of_pos _ (by omega)⟩
theorem range_at {n : Nat} {i : Nat} {e : D} (he : (items (.range 0 (n : Int) 1))[i]? = some e) : i < n ∧ e = .int (i : Int) := by
  rw [items_range0] at he
  simp only [List.getElem?_map, Option.map_eq_some_iff] at he
  obtain ⟨j', hj', rfl⟩ := he
  obtain ⟨hj, hj2⟩ := List.getElem?_eq_some_iff.mp hj'
  simp at hj hj2
  exact ⟨hj, by rw [hj2]⟩
theorem range_len {n : Nat} : (items (.range 0 (n : Int) 1)).length = n := by rw [items_range0]; simp
theorem flat_one {α β : Type} (f : α → β) : ∀ l : List α, l.flatMap (fun x => [f x]) = l.map f
  | [] => rfl
  | x :: l => by rw [List.flatMap_cons, flat_one f l]; rfl
theorem ne_loc {o : Option NameKind} {k : NameKind} (h : o = some k) (hk : (k == .local) = false) : o ≠ some .local := fun q => by
  rw [h] at q; cases q; cases hk
theorem comp_cell {l : List (Str × NameKind)} (h : l.all (fun y => y.2 != .cell) = true) : ∀ y ∈ l, y.2 ≠ .cell := fun y hy q => by
  have := List.all_eq_true.mp h y hy
  rw [q] at this; cases this
theorem comp_names {l : List (Str × NameKind)} (h : l.all (fun y => y.2 != .local || l.lookup y.1 == some .local) = true) : ∀ y ∈ l, y.2 = .local → l.lookup y.1 = some .local := fun y hy q => by
  have := List.all_eq_true.mp h y hy
  rw [q] at this
  exact eq_of_beq (by simpa using this)
noncomputable def FnOk (G : Heap → Prop) (a : Addr) (fd : FuncData) : Prop := ∀ h, G h → ∃ o, h.get? a = some o ∧ o.data = .func fd ∧ h.CodeRec fd.code fd.qualname
theorem FnOk.callee {a fd} (x : FnOk G a fd) : Callee G (.ref a) := .inr (.inr ⟨a, rfl, fun h hg => let ⟨o, e, d, _⟩ := x h hg; ⟨o, e, .inl ⟨_, d⟩⟩⟩)
theorem Cl.eq {k env elt gs} {ρ : Rho} {o o' : List D} (h : Cl prog w G Z k env elt gs ρ o) (e : o = o') : Cl prog w G Z k env elt gs ρ o' := e ▸ h
end Mine
end
noncomputable section
open PySem PySem.W PySem.W.X PyProof.Rows
set_option Elab.async false
set_option linter.unusedVariables false
set_option maxRecDepth 100000
namespace Mine
variable {prog : Program} {w : World} {G : Heap → Prop} {Z : Addr → Prop}
/-- a stretch -/
noncomputable def strD (p : Nat × Nat × Nat) : D := .tup [.int (p.1 : Int), .int (p.2.1 : Int), .int (p.2.2 : Int)]
noncomputable def shorterI (p q : Nat × Nat × Nat) : Int := (p.2.1 : Int) - p.1 - ((q.2.1 : Int) - q.1)
noncomputable def soonerI (p q : Nat × Nat × Nat) : Int := if p.2.1 = q.2.1 then (q.1 : Int) - p.1 else (p.2.1 : Int) - q.2.1
noncomputable def laterI (p q : Nat × Nat × Nat) : Int := if p.1 = q.1 then (p.2.1 : Int) - q.2.1 else (q.1 : Int) - p.1
section
variable {k : Nat} {env : Env} {ρ : Rho}
theorem ev_at (W : Glob G Z) {x p pos p' c} {q : Nat × Nat × Nat} (h : ρ x = some (strD q)) (hl : env.kindOf x = some .local) (hf : env.scope.kind = .function) (hd : (x == ("__debug__" : Str)) = false) {i : Int} {v : Int} (hi : 0 ≤ i) (hv : ([.int (q.1 : Int), .int (q.2.1 : Int), .int (q.2.2 : Int)] : List D)[i.toNat]? = some (.int v)) (hk : 4 ≤ k) : EvS prog w G Z k env ρ (.Subscript (.Name x p) (.Constant (.int i) c p') pos) (.int v) :=
  ev_sub W (ev_local h hl hf hd) ev_int (sub_tup hi hv (Nat.le_of_ble_eq_true rfl)) hk
end
theorem bind_two {fd : FuncData} {names : List Str} (hb : ∀ a b : Value, bindArgs fd ⟨[a, b], []⟩ = pure (names.zip [a, b])) (d₁ d₂ : D) : ∀ vs : List Value, vs.length = [d₁, d₂].length → bindArgs fd ⟨vs, []⟩ = pure (names.zip vs) := fun vs hv => by
  obtain ⟨a, b, rfl⟩ := len2 hv
  exact hb a b
set_option maxHeartbeats 4000000 in
theorem shorter_call (W : Glob G Z) (P : Params) (hfn : ∀ h, G h → ∃ o, h.get? 66 = some o ∧ o.data = .func (fnOf (hd01.heap_1 P) 66) ∧ h.CodeRec (fnOf (hd01.heap_1 P) 66).code (fnOf (hd01.heap_1 P) 66).qualname)
    {p q : Nat × Nat × Nat} : CallS prog w G 11 (.ref 66) [strD p, strD q] (.int (shorterI p q)) := by
  refine call_fn' (k := 10) W hfn rfl rfl (names := ["one", "two"]) (bind_two (fun a b => rfl) _ _) ?_ (fun L hL => ?_) rfl rfl rfl
  · intro x hx
    simp at hx
    rcases hx with rfl | rfl <;> exact .inl rfl
  conv in (fnOf _ _) => whnf
  exact ret_ret W (ev_bin W (ev_bin W (ev_at W rfl rfl rfl (by decide) (by decide) rfl (by decide)) (ev_at W rfl rfl rfl (by decide) (by decide) rfl (by decide)) bin_sub) (ev_bin W (ev_at W rfl rfl rfl (by decide) (by decide) rfl (by decide)) (ev_at W rfl rfl rfl (by decide) (by decide) rfl (by decide)) bin_sub) bin_sub)
theorem bne_cast (a b : Nat) : ((a : Int) != (b : Int)) = !decide (a = b) := by
  rw [Bool.eq_iff_iff]; simp; omega
set_option maxHeartbeats 4000000 in
theorem sooner_call (W : Glob G Z) (P : Params) (hfn : ∀ h, G h → ∃ o, h.get? 73 = some o ∧ o.data = .func (fnOf (hd01.heap_1 P) 73) ∧ h.CodeRec (fnOf (hd01.heap_1 P) 73).code (fnOf (hd01.heap_1 P) 73).qualname)
    {p q : Nat × Nat × Nat} : CallS prog w G 11 (.ref 73) [strD p, strD q] (.int (soonerI p q)) := by
  refine call_fn' (k := 10) W hfn rfl rfl (names := ["one", "two"]) (bind_two (fun a b => rfl) _ _) ?_ (fun L hL => ?_) rfl rfl rfl
  · intro x hx
    simp at hx
    rcases hx with rfl | rfl <;> exact .inl rfl
  conv in (fnOf _ _) => whnf
  refine ret_ret W (ev_ifexp W (test_eq (test_cmp W (ev_at W rfl rfl rfl (by decide) (by decide) rfl (by decide)) (ev_at W rfl rfl rfl (by decide) (by decide) rfl (by decide)) cmp_ne) (bne_cast _ _)) (fun e => ?_) (fun e => ?_))
  · have e' : ¬ p.2.1 = q.2.1 := by simpa using e
    unfold soonerI; rw [if_neg e']
    exact ev_bin W (ev_at W rfl rfl rfl (by decide) (by decide) rfl (by decide)) (ev_at W rfl rfl rfl (by decide) (by decide) rfl (by decide)) bin_sub
  · have e' : p.2.1 = q.2.1 := by simpa using e
    unfold soonerI; rw [if_pos e']
    exact ev_bin W (ev_at W rfl rfl rfl (by decide) (by decide) rfl (by decide)) (ev_at W rfl rfl rfl (by decide) (by decide) rfl (by decide)) bin_sub
set_option maxHeartbeats 4000000 in
theorem later_call (W : Glob G Z) (P : Params) (hfn : ∀ h, G h → ∃ o, h.get? 80 = some o ∧ o.data = .func (fnOf (hd01.heap_1 P) 80) ∧ h.CodeRec (fnOf (hd01.heap_1 P) 80).code (fnOf (hd01.heap_1 P) 80).qualname)
    {p q : Nat × Nat × Nat} : CallS prog w G 11 (.ref 80) [strD p, strD q] (.int (laterI p q)) := by
  refine call_fn' (k := 10) W hfn rfl rfl (names := ["one", "two"]) (bind_two (fun a b => rfl) _ _) ?_ (fun L hL => ?_) rfl rfl rfl
  · intro x hx
    simp at hx
    rcases hx with rfl | rfl <;> exact .inl rfl
  conv in (fnOf _ _) => whnf
  refine ret_ret W (ev_ifexp W (test_eq (test_cmp W (ev_at W rfl rfl rfl (by decide) (by decide) rfl (by decide)) (ev_at W rfl rfl rfl (by decide) (by decide) rfl (by decide)) cmp_ne) (bne_cast _ _)) (fun e => ?_) (fun e => ?_))
  · have e' : ¬ p.1 = q.1 := by simpa using e
    unfold laterI; rw [if_neg e']
    exact ev_bin W (ev_at W rfl rfl rfl (by decide) (by decide) rfl (by decide)) (ev_at W rfl rfl rfl (by decide) (by decide) rfl (by decide)) bin_sub
  · have e' : p.1 = q.1 := by simpa using e
    unfold laterI; rw [if_pos e']
    exact ev_bin W (ev_at W rfl rfl rfl (by decide) (by decide) rfl (by decide)) (ev_at W rfl rfl rfl (by decide) (by decide) rfl (by decide)) bin_sub
end Mine
end
noncomputable section
open PySem PySem.W PyProof.Rows
set_option Elab.async false
set_option linter.unusedVariables false
namespace Mine
/-! the sort's questions, answered by ranks -/
noncomputable def kok {α : Type} (n : Nat) (lt : Nat → Nat → Bool) (R : α → Prop) : KasT α → Prop
  | .ret a => R a
  | .ask i j k => i < n ∧ j < n ∧ kok n lt R (k (lt i j))
theorem kok_bind {α β : Type} {n : Nat} {lt : Nat → Nat → Bool} {R : β → Prop} {f : α → KasT β} : ∀ t : KasT α, kok n lt (fun a => kok n lt R (f a)) t → kok n lt R (t.bind f)
  | .ret a, q => q
  | .ask i j k, ⟨a, b, q⟩ => ⟨a, b, kok_bind _ q⟩
/-- the questions asked of the world -/
theorem kok_wp {α : Type} {n : Nat} {lt : Nat → Nat → Bool} {R : α → Prop} {I : Shared → Prop} {cmp : Nat → Nat → (Bool → Shared → Prop) → Shared → Prop} {Q : α → Shared → Prop}
    (hc : ∀ i j (C : Bool → Shared → Prop) s, i < n → j < n → I s → (∀ s', I s' → C (lt i j) s') → cmp i j C s) (hq : ∀ a s, R a → I s → Q a s) : ∀ (t : KasT α) (s : Shared), kok n lt R t → I s → t.kasWp cmp Q s
  | .ret a, s, r, i => hq a s r i
  | .ask i j k, s, ⟨a, b, q⟩, hi => hc i j _ s a b hi fun s' hi' => kok_wp hc hq _ s' q hi'
section
variable {n : Nat} {r : Nat → Int}
noncomputable def rlt (r : Nat → Int) (i j : Nat) : Bool := decide (r i < r j)
noncomputable def pk (r : Nat → Int) (p : Array Nat) (i : Nat) : Int := r (p.getD i 0)
structure PB (n : Nat) (p : Array Nat) : Prop where
  size : p.size = n
  perm : p.toList.Perm (List.range n)
theorem PB.lt {p : Array Nat} (h : PB n p) (h0 : 0 < n) (i : Nat) : p.getD i 0 < n := by
  by_cases hi : i < p.size
  · have e : p.getD i 0 = p[i] := by simp [Array.getD, hi]
    rw [e]
    have : p[i] ∈ p.toList := by simp
    exact List.mem_range.mp (h.perm.mem_iff.mp this)
  · have e : p.getD i 0 = 0 := by simp [Array.getD, hi]
    rw [e]; exact h0
theorem getD_eq (p : Array Nat) (i : Nat) : p.getD i 0 = (p[i]?).getD 0 := by
  by_cases h : i < p.size
  · simp [Array.getD, h]
  · simp [Array.getD, h]
theorem PB.rev {p : Array Nat} (h : PB n p) (i j : Nat) : PB n (kas_rev p i j) := ⟨(mirror_size _ _ _ _).trans h.size, ((mirror_perm p i j _).toList).trans h.perm⟩
theorem PB.bub {p : Array Nat} (h : PB n p) (k d : Nat) : PB n (bubble p k d) := ⟨(bubble_size _ _ _).trans h.size, ((bubble_perm p k d).toList).trans h.perm⟩
theorem pk_rev {p : Array Nat} (h : PB n p) {i j : Nat} (hj : j ≤ n) (k : Nat) : pk r (kas_rev p i j) k = if i ≤ k ∧ k < j then pk r p (i + j - 1 - k) else pk r p k := by
  unfold pk kas_rev
  rw [getD_eq, getElem?_mirror_all (by rw [h.size]; exact hj), getD_eq, getD_eq]
  split <;> rfl
theorem pk_bub {p : Array Nat} (h : PB n p) {k d : Nat} (hk : k < n) (hd : d ≤ k) (i : Nat) : pk r (bubble p k d) i = if i = k - d then pk r p k else if k - d < i ∧ i ≤ k then pk r p (i - 1) else pk r p i := by
  unfold pk
  rw [getD_eq, getElem?_bubble (by rw [h.size]; exact hk) d hd, getD_eq, getD_eq, getD_eq]
  split
  · rfl
  · split <;> rfl
theorem rlt_t {p : Array Nat} {a b : Nat} (e : rlt r (p.getD a 0) (p.getD b 0) = true) : pk r p a < pk r p b := of_decide_eq_true e
theorem rlt_f {p : Array Nat} {a b : Nat} (e : rlt r (p.getD a 0) (p.getD b 0) = false) : ¬ pk r p a < pk r p b := of_decide_eq_false e
noncomputable def Srt (r : Nat → Int) (p : Array Nat) (k : Nat) : Prop := ∀ i j, i ≤ j → j < k → pk r p i ≤ pk r p j
noncomputable def Nin (r : Nat → Int) (p : Array Nat) (k : Nat) : Prop := ∀ i j, i ≤ j → j < k → pk r p j ≤ pk r p i
theorem Srt.succ {p : Array Nat} {k : Nat} (h : Srt r p k) (h1 : 1 ≤ k) (hl : pk r p (k - 1) ≤ pk r p k) : Srt r p (k + 1) := fun i j a b => by
  by_cases e : j = k
  · subst e
    by_cases e' : i = j
    · subst e'; exact Int.le_refl _
    · exact Int.le_trans (h i (j - 1) (by omega) (by omega)) hl
  · exact h i j a (by omega)
theorem Nin.succ {p : Array Nat} {k : Nat} (h : Nin r p k) (h1 : 1 ≤ k) (hl : pk r p k ≤ pk r p (k - 1)) : Nin r p (k + 1) := fun i j a b => by
  by_cases e : j = k
  · subst e
    by_cases e' : i = j
    · subst e'; exact Int.le_refl _
    · exact Int.le_trans hl (h i (j - 1) (by omega) (by omega))
  · exact h i j a (by omega)
theorem asc_ok {p : Array Nat} (h : PB n p) {R : Nat → Prop} : ∀ (f k : Nat), 1 ≤ k → k + f = n → Srt r p k → (∀ m, k ≤ m → m ≤ n → Srt r p m → (m < n → pk r p m < pk r p (m - 1)) → R m) → kok n (rlt r) R (kas_asc p f k)
  | 0, k, h1, hk, hs, q => q k (Nat.le_refl _) (by omega) hs (fun z => by omega)
  | f + 1, k, h1, hk, hs, q => by
    have h0 : 0 < n := by omega
    refine ⟨h.lt h0 _, h.lt h0 _, ?_⟩
    cases e : rlt r (p.getD k 0) (p.getD (k - 1) 0) with
    | true => exact q k (Nat.le_refl _) (by omega) hs (fun _ => rlt_t e)
    | false =>
      have : ¬ pk r p k < pk r p (k - 1) := rlt_f e
      exact asc_ok h f (k + 1) (by omega) (by omega) (hs.succ h1 (by omega)) fun m a b => q m (by omega) b
theorem tail_ok {p : Array Nat} (h : PB n p) {m : Nat} (h1 : 1 ≤ m) (hm : m ≤ n) (hn : Nin r p m) {R : Nat × Array Nat → Prop} (q : ∀ k p', PB n p' → 1 ≤ k → k ≤ n → Srt r p' k → R (k, p')) : kok n (rlt r) R (kas_tail3 m n p) := by
  refine kok_bind _ (asc_ok (h.rev 0 m) (n - m) m h1 (by omega) (fun i j a b => ?_) fun k a b hs _ => q k _ (h.rev 0 m) (by omega) b hs)
  rw [pk_rev h hm, pk_rev h hm, if_pos (by omega), if_pos (by omega)]
  exact hn _ _ (by omega) (by omega)
/-- the last q + 1 keys are alike -/
noncomputable def Eqs (r : Nat → Int) (p : Array Nat) (k q : Nat) : Prop := ∀ i, k - (q + 1) ≤ i → i < k → pk r p i = pk r p (k - 1)
theorem pk_eqs {p : Array Nat} (h : PB n p) {k q : Nat} (hk : k ≤ n) (hq : q + 1 ≤ k) (he : Eqs r p k q) (i : Nat) : pk r (kas_rev p (k - (q + 1)) k) i = pk r p i := by
  rw [pk_rev h hk]
  split
  · rw [he _ (by omega) (by omega), he i (by omega) (by omega)]
  · rfl
theorem desc_ok {R : Array Nat × Nat × Nat → Prop} (qq : ∀ p k q, PB n p → 1 ≤ k → k ≤ n → q + 1 ≤ k → Nin r p k → Eqs r p k q → R (p, k, q)) : ∀ (f : Nat) (p : Array Nat) (k q : Nat), PB n p → 1 ≤ k → k + f = n → q + 1 ≤ k → Nin r p k → Eqs r p k q → kok n (rlt r) R (kas_desc f p k q)
  | 0, p, k, q, h, h1, hk, hq, hn, he => qq p k q h h1 (by omega) hq hn he
  | f + 1, p, k, q, h, h1, hk, hq, hn, he => by
    have h0 : 0 < n := by omega
    refine ⟨h.lt h0 _, h.lt h0 _, ?_⟩
    cases e : rlt r (p.getD k 0) (p.getD (k - 1) 0) with
    | true =>
      have hl : pk r p k < pk r p (k - 1) := rlt_t e
      have hz : ∀ p' : Array Nat, Eqs r p' (k + 1) 0 := fun p' i a b => by rw [show i = k + 1 - 1 by omega]
      dsimp only
      rw [if_pos rfl]
      by_cases q0 : q > 0
      · rw [if_pos q0]
        have ke := pk_eqs h (by omega) hq he
        refine desc_ok qq f _ (k + 1) 0 (h.rev _ _) (by omega) (by omega) (by omega) ?_ (hz _)
        intro i j a b
        rw [ke, ke]
        exact hn.succ h1 (by omega) i j a b
      · rw [if_neg q0]
        exact desc_ok qq f _ (k + 1) 0 h (by omega) (by omega) (by omega) (hn.succ h1 (by omega)) (hz _)
    | false =>
      have hl : ¬ pk r p k < pk r p (k - 1) := rlt_f e
      dsimp only
      rw [if_neg Bool.false_ne_true]
      refine ⟨h.lt h0 _, h.lt h0 _, ?_⟩
      cases e2 : rlt r (p.getD (k - 1) 0) (p.getD k 0) with
      | true => exact qq p k q h h1 (by omega) hq hn he
      | false =>
        have hg : ¬ pk r p (k - 1) < pk r p k := rlt_f e2
        dsimp only
        rw [if_neg Bool.false_ne_true]
        refine desc_ok qq f _ (k + 1) (q + 1) h (by omega) (by omega) (by omega) (hn.succ h1 (by omega)) fun i a b => ?_
        by_cases e3 : i = k
        · rw [e3]; rfl
        · have e4 := he i (by omega) (by omega)
          rw [e4, show k + 1 - 1 = k from rfl]; omega
theorem part_ok {p : Array Nat} (h : PB n p) {m : Nat} (h1 : 1 ≤ m) (hm : m < n) (hn : Nin r p m) (hl : pk r p m < pk r p (m - 1)) {R : Nat × Array Nat → Prop} (q : ∀ k p', PB n p' → 1 ≤ k → k ≤ n → Srt r p' k → R (k, p')) : kok n (rlt r) R (kas_descPart m n p) := by
  refine kok_bind _ (desc_ok (fun p k q' h1' h2 h3 h4 h5 h6 => ?_) (n - (m + 1)) p (m + 1) 0 h (by omega) (by omega) (by omega) (hn.succ h1 (by omega)) fun i a b => by rw [show i = m + 1 - 1 by omega])
  dsimp only
  by_cases q0 : q' > 0
  · rw [if_pos q0]
    have ke := pk_eqs h1' h3 h4 h6
    refine tail_ok (h1'.rev _ _) h2 h3 (fun i j a b => ?_) q
    rw [ke, ke]; exact h5 i j a b
  · rw [if_neg q0]
    exact tail_ok h1' h2 h3 h5 q
theorem count_ok {p : Array Nat} (h : PB n p) (h1 : 1 ≤ n) {R : Nat × Array Nat → Prop} (q : ∀ k p', PB n p' → 1 ≤ k → k ≤ n → Srt r p' k → R (k, p')) : kok n (rlt r) R (kas_count n p) := by
  refine kok_bind _ (asc_ok h (n - 1) 1 (Nat.le_refl _) (by omega) (fun i j a b => by rw [show i = j by omega]; exact Int.le_refl _) fun m a b hs hlt => ?_)
  by_cases e : m = n
  · rw [if_pos (by simpa using e)]
    subst e
    exact q _ _ h a (Nat.le_refl _) hs
  · rw [if_neg (by simpa using e)]
    have hl := hlt (by omega)
    by_cases e1 : m > 1
    · rw [if_pos e1]
      refine ⟨h.lt (by omega) _, h.lt (by omega) _, ?_⟩
      cases e2 : rlt r (p.getD 0 0) (p.getD (m - 1) 0) with
      | true => exact q _ _ h a b hs
      | false =>
        have hg : ¬ pk r p 0 < pk r p (m - 1) := rlt_f e2
        dsimp only
        rw [if_neg Bool.false_ne_true]
        have al : ∀ i, i < m → pk r p i = pk r p 0 := fun i hi => by
          have := hs 0 i (by omega) hi
          have := hs i (m - 1) (by omega) (by omega)
          omega
        have ke : ∀ i, pk r (kas_rev p 0 m) i = pk r p i := fun i => by
          rw [pk_rev h b]
          split
          · rw [al _ (by omega), al i (by omega)]
          · rfl
        refine part_ok (h.rev _ _) a (by omega) (fun i j x y => ?_) (by rw [ke, ke]; exact hl) q
        rw [ke, ke, al i (by omega), al j (by omega)]; exact Int.le_refl _
    · rw [if_neg e1]
      exact part_ok h a (by omega) (fun i j x y => by rw [show i = j by omega]; exact Int.le_refl _) hl q
theorem place_ok {p : Array Nat} (h : PB n p) {k : Nat} (hk : k < n) (hs : Srt r p k) {R : Nat → Prop} (q : ∀ l, l ≤ k → (∀ i, i < l → pk r p i ≤ pk r p k) → (∀ i, l ≤ i → i < k → pk r p k < pk r p i) → R l) : ∀ (f l t : Nat), l ≤ t → t ≤ k → t - l ≤ f → (∀ i, i < l → pk r p i ≤ pk r p k) → (∀ i, t ≤ i → i < k → pk r p k < pk r p i) → kok n (rlt r) R (kas_place p k f l t)
  | 0, l, t, a, b, c, d, e => q l (by omega) d fun i x y => e i (by omega) y
  | f + 1, l, t, a, b, c, d, e => by
    unfold kas_place
    by_cases g : l ≥ t
    · rw [if_pos g]; exact q l (by omega) d fun i x y => e i (by omega) y
    · rw [if_neg g]
      refine ⟨h.lt (by omega) _, h.lt (by omega) _, ?_⟩
      cases e2 : rlt r (p.getD k 0) (p.getD ((l + t) / 2) 0) with
      | true =>
        have hl : pk r p k < pk r p ((l + t) / 2) := rlt_t e2
        refine place_ok h hk hs q f l ((l + t) / 2) (by omega) (by omega) (by omega) d fun i x y => ?_
        exact Int.lt_of_lt_of_le hl (hs _ _ x y)
      | false =>
        have hl : ¬ pk r p k < pk r p ((l + t) / 2) := rlt_f e2
        refine place_ok h hk hs q f ((l + t) / 2 + 1) t (by omega) b (by omega) (fun i x => ?_) e
        have := hs i ((l + t) / 2) (by omega) (by omega)
        omega
theorem bin_ok {R : Array Nat → Prop} (q : ∀ p, PB n p → Srt r p n → R p) : ∀ (f : Nat) (p : Array Nat) (k : Nat), PB n p → k + f = n → Srt r p k → kok n (rlt r) R (kas_bin f p k)
  | 0, p, k, h, hk, hs => q p h (by rw [← hk]; exact hs)
  | f + 1, p, k, h, hk, hs => by
    refine kok_bind _ (place_ok h (by omega) hs (fun l hl hlo hhi => ?_) k 0 k (Nat.zero_le _) (Nat.le_refl _) (by omega) (fun i x => by omega) fun i x y => by omega)
    refine bin_ok q f _ (k + 1) (h.bub _ _) (by omega) fun i j a b => ?_
    rw [pk_bub h (by omega) (by omega), pk_bub h (by omega) (by omega)]
    have e : k - (k - l) = l := by omega
    rw [e]
    by_cases i1 : i = l
    · rw [if_pos i1]
      by_cases j1 : j = l
      · rw [if_pos j1]; exact Int.le_refl _
      · rw [if_neg j1, if_pos (by omega)]
        exact Int.le_of_lt (hhi _ (by omega) (by omega))
    · rw [if_neg i1]
      by_cases i2 : l < i ∧ i ≤ k
      · rw [if_pos i2, if_neg (by omega), if_pos (by omega)]
        exact hs _ _ (by omega) (by omega)
      · rw [if_neg i2]
        by_cases j1 : j = l
        · rw [if_pos j1]; exact hlo _ (by omega)
        · rw [if_neg j1]
          by_cases j2 : l < j ∧ j ≤ k
          · rw [if_pos j2]; exact hs _ _ (by omega) (by omega)
          · rw [if_neg j2]; exact hs _ _ a (by omega)
theorem sort_ok (h1 : 1 ≤ n) : kok n (rlt r) (fun p => PB n p ∧ Srt r p n) (kas_sort n) := by
  refine kok_bind _ (count_ok ⟨by simp, by simp⟩ h1 fun k p' hp a b hs => ?_)
  dsimp only
  by_cases e : k < n
  · rw [if_pos e]
    have : max k 1 = k := by omega
    rw [this]
    exact bin_ok (fun p x y => ⟨x, y⟩) _ _ _ hp (by omega) hs
  · rw [if_neg e]
    exact ⟨hp, by rw [show n = k by omega]; exact (by rw [show k = n by omega] at hs; rw [show k = n by omega]; exact hs)⟩
end
end Mine
end
noncomputable section
open PySem PySem.W PySem.W.X PyProof.Rows PySem.Builtin
set_option Elab.async false
set_option linter.unusedVariables false
set_option maxRecDepth 100000
namespace Mine
variable {prog : Program} {w : World} {G : Heap → Prop} {Z : Addr → Prop}
section
variable {A : Around} {h : Heap} {g : Array GenState} {d : Drawn} {t : Nat} {os : OsState} {x C fA : Addr} {y : Value} {B : String}
theorem jKeyLt {Q : Bool → Shared → Prop} (X : h.OwnSpecial x C fA B "__lt__") (hu : A.units < cLine)
    (hcall : wpJ (model prog w) A (call (.ref fA) [.ref x, y]) (fun v s' => ∃ b, v = .bool b ∧ Q b s') ⟨h, g, d, t, os⟩) : wpJ (model prog w) A (keyLt' oneType' (.ref x) y) Q ⟨h, g, d, t, os⟩ := by
  rw [keyLt'_oneType, oneLt'_eq]
  simp only [if_true]
  refine wpJ_bind (wpJ.of (wpAny_cRoomFor hu ?_))
  refine wpJ_bind (jOwnCall X (wpJ_mono hcall fun v s' hv => ?_))
  obtain ⟨b, rfl, q⟩ := hv
  exact wpJ.of (wpAny_truthy_bool q)
end
/-- one key ahead of another, as the sort asks -/
noncomputable def LtK (prog : Program) (w : World) (G : Heap → Prop) (k : Nat) (d₁ d₂ : D) (b : Bool) : Prop :=
  ∀ A, Bud k A → ∀ X h g dr tk o v₁ v₂, G h → Alive X h → Rep h X d₁ v₁ → Rep h X d₂ v₂ → wpJ (model prog w) A (keyLt' oneType' v₁ v₂) (fun r s' => ∃ h' t', s' = ⟨h', g, dr, t', o⟩ ∧ Le h h' ∧ r = b) ⟨h, g, dr, tk, o⟩
theorem key_lt (W : Glob G Z) {P : Params} {h₀ : Heap} {C : Addr} {f : Value} (fr : ∀ h, G h → Le h₀ h) (K : KC P h₀ C f) (cf : Callee G f) {d₁ d₂ : D} {n : Int} {j : Nat} (hc : CallS prog w G j f [d₁, d₂] (.int n))
    (h1 : ∀ h X v, Rep h X d₁ v → handedOut v = pure v) (h2 : ∀ h X v, Rep h X d₂ v → handedOut v = pure v) : LtK prog w G (j + 51) (.key C d₁) (.key C d₂) (saysOf 5 n) := by
  obtain ⟨N, D, m, cel, pm, KK, hcel, hfs⟩ := K.face
  obtain ⟨fi, ci, hm, ct, hfi, hci⟩ := hfs 5 (by omega) (by omega)
  have up : ∀ h, G h → KA h C N D m := fun h hg => by
    have kk : ∀ b o, h₀.get? b = some o → h.get? b = some o := fun b o e => (fr h hg).old b o (fun q => q) e
    obtain ⟨⟨a1, a2, a3, a4, a5, a6, a7⟩, b, c, e, f, a8, a9⟩ := KK
    exact ⟨⟨a1, a2, a3, a4, a5, a6, kk _ _ a7⟩, (fr h hg).ns (fun q => q) b, c, e, f, a8, kk _ _ a9⟩
  have hf : ∀ h, G h → h.get? fi = some (fnObj (methFd P 5 cel pm (.ref ci) ct)) ∧ CodeK h ci (kq 5) ∧ h.IsCell cel (some f) := fun h hg => by
    have kk : ∀ b o, h₀.get? b = some o → h.get? b = some o := fun b o e => (fr h hg).old b o (fun q => q) e
    exact ⟨kk _ _ hfi, hci.keeps kk, (fr h hg).cell (fun q => q) hcel⟩
  have M := key_meth (prog := prog) (w := w) W (.inl rfl) hf (fun h hg => ⟨N, D, m, up h hg⟩) cf hc h1 h2 (C := C)
  intro A hA X h g dr tk o v₁ v₂ hg hx r₁ r₂
  obtain ⟨x, dx, u, rfl, nx, ex, rx⟩ := r₁
  obtain ⟨y, dy, v, rfl, ny, ey, ry⟩ := r₂
  obtain ⟨⟨a1, a2, a3, a4, a5, a6, a7⟩, b, -⟩ := up h hg
  refine jKeyLt (B := "object") ⟨_, _, _, _, _, _, _, _, _, _, _, _, _, _, _, _, _, _, _, _, _, ex, rfl, a7, b, hm, (hf h hg).1, rfl, F.mro_object, ob_lt⟩ hA.un ?_
  refine M.use hA hg hx ⟨_, _, rfl, ⟨x, dx, u, rfl, nx, ex, rx⟩, _, _, rfl, ⟨y, dy, v, rfl, ny, ey, ry⟩, rfl⟩ fun h' t' r gr rr => ?_
  cases rr
  exact ⟨_, rfl, h', t', rfl, gr, rfl⟩
noncomputable abbrev up (A : Around) : Around := { A with units := 5000 }
theorem Reps.of_get {X : Addr → Prop} {h : Heap} : ∀ {ds : List D} {vs : List Value}, vs.length = ds.length → (∀ (i : Nat) d v, ds[i]? = some d → vs[i]? = some v → Rep h X d v) → Reps h X ds vs
  | [], vs, e, _ => List.length_eq_zero_iff.mp e
  | d :: ds, [], e, _ => by simp at e
  | d :: ds, v :: vs, e, q => ⟨v, vs, rfl, q 0 d v rfl rfl, Reps.of_get (by simpa using e) fun i d' v' h1 h2 => q (i + 1) d' v' (by simpa using h1) (by simpa using h2)⟩
/-- an owned list has turned -/
theorem own_seq (W : Glob G Z) {h0 H : Heap} {a : Addr} {X : Addr → Prop} {xs : Array Value} {n : Nat} {f : Array Value → Array Value} (h0a : h0.objs.size ≤ a) (hz : ∀ b, h0.objs.size ≤ b → ¬ Z b) (e : H.get? a = some (seqObj "list" xs n)) (g0 : Le h0 H) (hG : G H) (xa : X a) (al : Alive X H) :
    Le h0 (H.update a (Obj.mapSeq f)) ∧ G (H.update a (Obj.mapSeq f)) ∧ Alive X (H.update a (Obj.mapSeq f)) ∧ (∃ c, (H.update a (Obj.mapSeq f)).get? a = some (seqObj "list" (f xs) c)) ∧ (∀ ds vs, Reps H X ds vs → Reps (H.update a (Obj.mapSeq f)) X ds vs) ∧ (∀ b o, b ≠ a → H.get? b = some o → (H.update a (Obj.mapSeq f)).get? b = some o) := by
  have sb := Heap.SameBut.update H a (Obj.mapSeq f)
  have gS : Grow (fun b => b = a) H (H.update a (Obj.mapSeq f)) := .same sb rfl
  have e' := get?_update_seq e f
  refine ⟨⟨fun b o _ q => gS.old b o (fun z => Nat.not_lt.mpr h0a (z ▸ Heap.lt_size q)) (g0.old b o (fun x => x) q)⟩, W.grow (fun b => b = a) _ _ (fun b z => z ▸ hz a h0a) gS hG, fun b xb => ?_, ⟨_, e'⟩, fun ds vs rs => rs.grow gS (fun b z => .inl (z ▸ xa)) fun _ _ q => q, fun b o nb q => (sb.2 b nb).trans q⟩
  by_cases z : b = a
  · subst z; exact ⟨_, e'⟩
  · obtain ⟨o, q⟩ := al b xb; exact ⟨o, (sb.2 b z).trans q⟩
/-- the sort's state: the heap holds the list sorted and the list of keys -/
structure SI (G : Heap → Prop) (X : Addr → Prop) (h0 : Heap) (a kS : Addr) (ds : List D) (vs : List Value) (C : Addr) (H : Heap) (e1 : Nat) (kA : Array Value) (i : Nat) : Prop where
  le : Le h0 H
  g : G H
  al : Alive X H
  la : H.get? a = some (seqObj "list" #[] e1)
  lk : ∃ e, H.get? kS = some (seqObj "list" kA e)
  it : Reps H X ds vs
  ke : Reps H X ((ds.take i).map (.key C)) kA.toList
theorem SI.keep (W : Glob G Z) {X h0 a kS ds vs C H H' e1 kA i} (s : SI G X h0 a kS ds vs C H e1 kA i) (g : Le H H') : SI G X h0 a kS ds vs C H' e1 kA i :=
  ⟨s.le.trans g, W.grow no _ _ (fun _ q => q.elim) g s.g, s.al.le g, g.old _ _ (fun q => q) s.la, let ⟨e, q⟩ := s.lk; ⟨e, g.old _ _ (fun q => q) q⟩, s.it.le g, s.ke.le g⟩
theorem rep_key_type {H : Heap} {X : Addr → Prop} {C : Addr} {d : D} {v : Value} (r : Rep H X (.key C d) v) {M : Model} : Looks M H (typeOf v) (.ref C) := by
  obtain ⟨x, dx, u, rfl, -, e, -⟩ := r
  intro A Q E s k q
  exact wpAny_typeOf_ref (k _ _ e) q
section
variable {C : Addr} {ds : List D} {vs : List Value} {r : Nat → Int} {A : Around} {X : Addr → Prop} {h0 : Heap} {a kS : Addr} {g : Array GenState} {dr : Drawn} {o : OsState} {e1 : Nat} {P : PySem.Fin → Shared → Prop}
set_option maxHeartbeats 1000000 in
theorem tail_any (W : Glob G Z) (hz : ∀ b, h0.objs.size ≤ b → ¬ Z b) (h0a : h0.objs.size ≤ a) (h0k : h0.objs.size ≤ kS) (hne : kS ≠ a) (xa : X a) (xk : X kS) {H : Heap} {tk : Nat} {kA : Array Value} {i : Nat} (S : SI G X h0 a kS ds vs C H e1 kA i) (hn : kA.size ≤ 64) {st : SortSt} {out : Array Value} (hf : failedOf st = none) (ho : (arrOf st).map (·.2) = out) (h64 : out.size ≤ 64)
    (q : ∀ h' tk' c, Le h0 h' → G h' → Alive X h' → h'.get? a = some (seqObj "list" out c) → Reps h' X ds vs → P (.done (.ret .none)) ⟨h', g, dr, tk', o⟩) : wpAny (model prog w) A (ksk_tail a false e1 (.ref kS) st) P noE ⟨H, g, dr, tk, o⟩ := by
  obtain ⟨e, hk⟩ := S.lk
  obtain ⟨l1, g1, a1, ⟨c1, e2⟩, r1, k1⟩ := own_seq W (f := fun _ => #[]) h0k hz hk S.le S.g xk S.al
  have la1 := k1 a _ (fun z => hne z.symm) S.la
  obtain ⟨l2, g2, a2, ⟨c2, e3⟩, r2, k2⟩ := own_seq W (f := fun _ => out) h0a hz la1 l1 g1 xa a1
  unfold ksk_tail
  dsimp only
  refine wpAny_bind (listUpdate_at hk rfl ?_ (by rw [sizeLine_eq]; omega) (Nat.zero_le _))
  refine wpAny_bind (wpAny_letGo ?_)
  refine wpAny_bind (seqEpoch_at la1 rfl ?_)
  rw [ho]
  simp only [Bool.false_eq_true, if_false]
  refine wpAny_bind (listUpdate_at la1 rfl ?_ (Nat.zero_le _) (by rw [sizeLine_eq]; omega))
  rw [hf]
  simp only [bne_self_eq_false, Bool.false_eq_true, if_false]
  exact wpAny_pure (q _ _ c2 l2 g2 a2 e3 (r2 _ _ (r1 _ _ S.it)))
theorem zip_snd {ks xs : Array Value} (h : ks.size = xs.size) : (ks.zip xs).map (·.2) = xs := by
  apply Array.ext
  · simp [h]
  · intro i h1 h2; simp
theorem range_getD (l : List Value) : (List.range l.length).map (fun i => l.getD i Value.none) = l := by
  apply List.ext_getElem
  · simp
  · intro i h1 h2; simp at h1 h2 ⊢; simp [h2]
theorem item_zip {ks xs : Array Value} {i : Nat} (h1 : i < ks.size) (h2 : i < xs.size) : kas_item (ks.zip xs) i = (ks[i], xs[i]) := by
  have h : i < (ks.zip xs).size := by simp; omega
  unfold kas_item
  have e : (ks.zip xs).getD i (Value.none, Value.none) = (ks.zip xs)[i] := by unfold Array.getD; rw [dif_pos h]; rfl
  rw [e]; simp
set_option maxHeartbeats 1000000 in
theorem end_any (W : Glob G Z) (hz : ∀ b, h0.objs.size ≤ b → ¬ Z b) (h0a : h0.objs.size ≤ a) (h0k : h0.objs.size ≤ kS) (hne : kS ≠ a) (xa : X a) (xk : X kS) {H : Heap} {tk : Nat} {kA : Array Value} (S : SI G X h0 a kS ds vs C H e1 kA ds.length) (hlen : vs.length = ds.length) (h64 : ds.length < 64)
    (hA : Bud 100 (up A)) (hu : A.units ≤ 5000) (hlt : ∀ i j, i < ds.length → j < ds.length → LtK prog w G 90 (.key C (ds.getD i .none)) (.key C (ds.getD j .none)) (rlt r i j))
    (q : ∀ h' tk' c p, PB ds.length p → Srt r p ds.length → Le h0 h' → G h' → Alive X h' → h'.get? a = some (seqObj "list" (List.toArray (p.toList.map fun i => vs.getD i Value.none)) c) → Reps h' X ds vs → P (.done (.ret .none)) ⟨h', g, dr, tk', o⟩) :
    wpAny (model prog w) A (ksk_end a false vs.toArray e1 (.ref kS) kA) P noE ⟨H, g, dr, tk, o⟩ := by
  have hk : kA.toList.length = ds.length := by rw [S.ke.length, List.length_map, List.length_take]; omega
  rw [Array.length_toList] at hk
  have hzz : kA.size = vs.toArray.size := by rw [hk, List.size_toArray, hlen]
  unfold ksk_end
  simp only [Bool.false_eq_true, if_false]
  by_cases h2 : vs.toArray.size < 2
  · rw [if_pos h2, if_pos h2]
    refine wpAny_bind (wpAny_pure ?_)
    rw [StateT.run_pure]
    refine wpAny_bind (wpAny_pure ?_)
    have h2' : vs.length < 2 := by simpa using h2
    refine tail_any W hz h0a h0k hne xa xk S (by omega) (out := vs.toArray) rfl (zip_snd hzz) (by rw [List.size_toArray]; omega) fun h' tk' c x1 x2 x3 x4 x5 => q h' tk' c (List.toArray (List.range ds.length)) ⟨by simp, by simp⟩ (fun i j b1 b2 => ?_) x1 x2 x3 ?_ x5
    · rw [show i = j by omega]; exact Int.le_refl _
    · rw [show (List.toArray (List.range ds.length)).toList = List.range ds.length from rfl, ← hlen, range_getD]; exact x4
  · rw [if_neg h2, if_neg h2]
    have h2' : 2 ≤ ds.length := by rw [List.size_toArray] at h2; omega
    have kl : kA.toList.toArray = kA := by simp
    refine wpAny_bind ?_
    rw [← kl]
    refine kas_kind (T := .ref C) (by rw [Array.length_toList]; omega) (fun v hv => ?_) rfl (by simp) ?_
    · obtain ⟨i, hi⟩ := List.getElem?_of_mem hv
      have hil : i < ds.length := by have := (List.getElem?_eq_some_iff.mp hi).1; rw [Array.length_toList] at this; omega
      obtain ⟨v', hv', rv⟩ := S.ke.get (i := i) (d := .key C ds[i]) (by simp [hil])
      rw [hi] at hv'; cases hv'
      exact rep_key_type rv
    rw [kl]
    have hit : (kA.zip vs.toArray).size = ds.length := by rw [Array.size_zip, hk, List.size_toArray, hlen, Nat.min_self]
    have est : SortSt.mk' oneType' (kA.zip vs.toArray) #[] 7 none = kas_st oneType' (kA.zip vs.toArray) (List.toArray (List.range ds.length)) := by
      have e := kas_range (kA.zip vs.toArray)
      rw [hit] at e
      unfold kas_st
      rw [e]
    have run := kas_runs (prog := prog) (w := w) (A := A) (E := noE) (κ := oneType') (it := kA.zip vs.toArray) (n := ds.length) (s := ⟨H, g, dr, tk, o⟩)
      (Q := fun _ st' s' => ∃ p, PB ds.length p ∧ Srt r p ds.length ∧ arrOf st' = p.map (kas_item (kA.zip vs.toArray)) ∧ failedOf st' = none ∧ ∃ H' tk', s' = ⟨H', g, dr, tk', o⟩ ∧ SI G X h0 a kS ds vs C H' e1 kA ds.length)
      (G := fun p s' => (PB ds.length p ∧ Srt r p ds.length) ∧ ∃ H' tk', s' = ⟨H', g, dr, tk', o⟩ ∧ SI G X h0 a kS ds vs C H' e1 kA ds.length) h2' h64
      (fun p' st' s' _ a2 a3 a4 => ⟨p', a4.1.1, a4.1.2, a2, a3, a4.2⟩)
      (kok_wp (lt := rlt r) (I := fun s' => ∃ H' tk', s' = ⟨H', g, dr, tk', o⟩ ∧ SI G X h0 a kS ds vs C H' e1 kA ds.length) (fun i j C' s' hi hj hs hC => ?_) (fun p s' hp hs => ⟨hp, hs⟩) _ _ (sort_ok (by omega)) ⟨H, tk, rfl, S⟩)
    · rw [← est] at run
      refine wpAny_bind (wpAny_mono run (fun rr s' hs => ?_) fun _ _ e => e)
      obtain ⟨⟨⟩, st'⟩ := rr
      obtain ⟨p, hp, hsr, har, hf, H', tk', rfl, S'⟩ := hs
      dsimp only at har hf ⊢
      refine tail_any W hz h0a h0k hne xa xk S' (by omega) (out := List.toArray (p.toList.map fun i => vs.getD i Value.none)) hf ?_ (by rw [List.size_toArray, List.length_map, Array.length_toList, hp.size]; omega) fun h' tk'' c x1 x2 x3 x4 x5 => q h' tk'' c p hp hsr x1 x2 x3 x4 x5
      apply Array.toList_inj.mp
      rw [har, Array.map_map, Array.toList_map]
      refine List.map_congr_left fun i hi => ?_
      have hil : i < ds.length := List.mem_range.mp (hp.perm.mem_iff.mp hi)
      show (kas_item (kA.zip vs.toArray) i).2 = _
      rw [item_zip (by omega) (by rw [List.size_toArray]; omega)]
      have : i < vs.length := by omega
      simp [this]
    · obtain ⟨H', tk', rfl, S'⟩ := hs
      unfold kas_cmp
      rw [item_zip (by omega) (by rw [List.size_toArray]; omega), item_zip (by omega) (by rw [List.size_toArray]; omega)]
      have ri : ∀ i (hi : i < ds.length), Rep H' X (.key C (ds.getD i .none)) (kA[i]'(by omega)) := fun i hi => by
        obtain ⟨v', hv', rv⟩ := S'.ke.get (i := i) (d := .key C (ds.getD i .none)) (by simp [hi])
        have hv2 : kA.toList[i]? = some (kA[i]'(by omega)) := by simp
        rw [hv2] at hv'; cases hv'; exact rv
      refine wpJ.toAny hu (wpJ_mono (hlt i j hi hj (up A) (hA.mono (by decide)) X H' g dr tk' o _ _ S'.g S'.al (ri i hi) (ri j hj)) fun rr s' hs => ?_)
      obtain ⟨h', t', rfl, gl, rfl⟩ := hs
      exact hC _ ⟨h', t', rfl, S'.keep W gl⟩
set_option maxHeartbeats 1000000 in
theorem rest_any (W : Glob G Z) (hz : ∀ b, h0.objs.size ≤ b → ¬ Z b) (h0a : h0.objs.size ≤ a) (h0k : h0.objs.size ≤ kS) (hne : kS ≠ a) (xa : X a) (xk : X kS) {H : Heap} {tk : Nat} (S : SI G X h0 a kS ds vs C H e1 #[] 0) (hlen : vs.length = ds.length) (h64 : ds.length < 64)
    (hA : Bud 100 (up A)) (hu : A.units ≤ 5000) (key : ∀ {d : D}, CallS prog w G 49 (.ref C) [d] (.key C d)) (hlt : ∀ i j, i < ds.length → j < ds.length → LtK prog w G 90 (.key C (ds.getD i .none)) (.key C (ds.getD j .none)) (rlt r i j))
    (q : ∀ h' tk' c p, PB ds.length p → Srt r p ds.length → Le h0 h' → G h' → Alive X h' → h'.get? a = some (seqObj "list" (List.toArray (p.toList.map fun i => vs.getD i Value.none)) c) → Reps h' X ds vs → P (.done (.ret .none)) ⟨h', g, dr, tk', o⟩) :
    wpAny (model prog w) A (ksk_rest a (.ref C) false vs.toArray e1 (.ref kS)) P noE ⟨H, g, dr, tk, o⟩ := by
  unfold ksk_rest
  refine wpAny_bind (wpAny_rule ?_)
  rw [List.forIn_toArray]
  refine wpAny_bind (ksk_fold (fun i s' => ∃ H' tk' kA, s' = ⟨H', g, dr, tk', o⟩ ∧ SI G X h0 a kS ds vs C H' e1 kA i) vs 0 _ ⟨H, tk, #[], rfl, S⟩ (fun j x s' hx hI => ?_) fun s' hI => ?_)
  · obtain ⟨H', tk', kA, rfl, S'⟩ := hI
    rw [Nat.zero_add] at S' ⊢
    have hj : j < ds.length := by have := (List.getElem?_eq_some_iff.mp hx).1; omega
    obtain ⟨v', hv', rv⟩ := S'.it.get (i := j) (d := ds[j]) (by simp [hj])
    rw [hx] at hv'; cases hv'
    refine wpAny_bind (wpAny_attempt ?_)
    refine wpAny_mono (wpJ.toAny (Q := fun v2 s' => ∃ h2 t2, s' = ⟨h2, g, dr, t2, o⟩ ∧ Le H' h2 ∧ Rep h2 X (.key C ds[j]) v2) hu (key.use (hA.mono (by decide)) S'.g S'.al ⟨x, [], rfl, rv, rfl⟩ fun h2 t2 v2 g2 r2 => ⟨h2, t2, rfl, g2, r2⟩)) (fun v2 s' hh => ?_) fun _ _ x => x.elim
    obtain ⟨h2, t2, rfl, g2, r2⟩ := hh
    have S2 := S'.keep W g2
    obtain ⟨e, hk⟩ := S2.lk
    obtain ⟨l1, g1, a1, ⟨c1, e2⟩, r1, k1⟩ := own_seq W (f := (·.push v2)) h0k hz hk S2.le S2.g xk S2.al
    have hks : kA.size ≤ 64 := by
      have := S2.ke.length
      rw [Array.length_toList, List.length_map, List.length_take] at this; omega
    dsimp only
    refine wpAny_bind (listUpdate_at hk rfl ?_ (by rw [sizeLine_eq]; omega) (by rw [Array.size_push, sizeLine_eq]; omega))
    refine wpAny_pure ⟨rfl, _, _, kA.push v2, rfl, l1, g1, a1, k1 _ _ (fun z => hne z.symm) S2.la, ⟨_, e2⟩, r1 _ _ S2.it, ?_⟩
    rw [Array.toList_push, List.take_add_one, show ds[j]? = some ds[j] by simp [hj], Option.toList_some, List.map_append]
    have r2' : Reps h2 X [.key C ds[j]] [v2] := ⟨v2, [], rfl, r2, rfl⟩
    exact (r1 _ _ S2.ke).append (r1 _ _ r2')
  · obtain ⟨H', tk', kA, rfl, S'⟩ := hI
    rw [Nat.zero_add, hlen] at S'
    obtain ⟨e, hk⟩ := S'.lk
    refine wpAny_bind (listItems_at hk rfl ?_)
    exact end_any W hz h0a h0k hne xa xk S' hlen h64 hA hu hlt q
end
/-- sorted(x, key=C) -/
theorem sorted_call (W : Glob G Z) {C : Addr} {ds : List D} {r : Nat → Int} (h64 : ds.length < 64) (key : ∀ {d : D}, CallS prog w G 49 (.ref C) [d] (.key C d)) (hlt : ∀ i j, i < ds.length → j < ds.length → LtK prog w G 90 (.key C (ds.getD i .none)) (.key C (ds.getD j .none)) (rlt r i j))
    {A : Around} (hA : Bud 600 A) {X : Addr → Prop} {h : Heap} {g : Array GenState} {dr : Drawn} {tk : Nat} {o : OsState} {v : Value} (hg : G h) (hx : Alive X h) (rv : Rep h X (.lst ds) v) {Q : Value → Shared → Prop}
    (q : ∀ h' t' v' p, PB ds.length p → Srt r p ds.length → Le h h' → Rep h' X (.lst (p.toList.map fun i => ds.getD i .none)) v' → Q v' ⟨h', g, dr, t', o⟩) : wpJ (model prog w) A (call (.builtin "sorted") [v] [(Str.ofString "key", .ref C)]) Q ⟨h, g, dr, tk, o⟩ := by
  obtain ⟨l, vs, rfl, nl, hl, rs⟩ := rv
  have hlen := rs.length
  have hu : A.units + 2 ≤ 5000 := by have := hA.units; omega
  have hA' : Bud 100 (up A) := ⟨hA.handled, by have := hA.depth; show A.depth + 100 < 1000; omega, by show 5000 + 10 * 100 < 9900; decide, hA.guards⟩
  refine wpJ.of ?_
  refine call_function_entry_kw kind_sorted plain_sorted entry_sorted (ksk_s1 _ _) ?_
  unfold Builtin.«sorted»
  refine wpAny_bind (m := checkCount "sorted" 1 1 _) (wpAny_pure ?_)
  refine wpAny_bind (collect_list hl ?_ (by rw [sizeLine_eq]; omega))
  refine wpAny_bind (wpAny_newList ?_ (by rw [sizeLine_eq]; omega))
  dsimp only
  generalize hH1 : (h.push (seqObj "list" #[] 0)).update h.objs.size (Obj.mapSeq (· ++ vs.toArray)) = H1
  have z1 : H1.objs.size = h.objs.size + 1 := by rw [← hH1, Heap.size_update, size_push']
  have k1 : ∀ b ob, h.get? b = some ob → H1.get? b = some ob := fun b ob e => by
    have hlt' := Heap.lt_size e
    rw [← hH1, Heap.get?_update_ne _ _ _ _ (Nat.ne_of_lt hlt'), Heap.get?_push_ne _ _ _ (Nat.ne_of_lt hlt')]
    exact e
  have k2 : ∀ b ob, h.get? b = some ob → (H1.push (seqObj "list" vs.toArray 0)).get? b = some ob := fun b ob e => Heap.get?_push_of_some _ (k1 b ob e)
  have hz : ∀ b, h.objs.size ≤ b → ¬ Z b := fun b => W.fresh h hg b
  have ea : (H1.push (seqObj "list" vs.toArray 0)).get? H1.objs.size = some (seqObj "list" vs.toArray 0) := Heap.get?_push_size _ rfl
  refine wpAny_bind (wpAny_holding (wpAny_call_entry_kw slot_list_sort ⟨_, ea, rfl⟩ entry_list_sort ?_ (ksk_l1 _ _)))
  rw [ksk_t1]
  -- the list sorted, and the list of keys
  have gr2 : Le h (H1.push (seqObj "list" vs.toArray 0)) := .keeps k2
  obtain ⟨l3, g3, a3, ⟨c3, e3⟩, r3, k3⟩ := own_seq (X := fun b => X b ∨ b = H1.objs.size) W (f := fun _ => #[]) (by omega : h.objs.size ≤ H1.objs.size) hz ea gr2 (W.grow no _ _ (fun _ q => q.elim) gr2 hg) (.inr rfl) (fun b q => q.elim (fun q => (hx.le gr2) b q) fun q => ⟨_, q ▸ ea⟩)
  unfold ksk_tree
  refine wpAny_bind (listItems_at ea rfl ?_)
  refine wpAny_bind (listUpdate_at ea rfl ?_ (by rw [List.size_toArray, sizeLine_eq]; omega) (Nat.zero_le _))
  refine wpAny_bind (seqEpoch_at e3 rfl ?_)
  refine wpAny_bind (wpAny_newTuple ?_ (by show vs.length ≤ _; rw [sizeLine_eq]; omega))
  refine wpAny_bind (wpAny_newList ?_ (Nat.zero_le _))
  refine wpAny_holding ?_
  dsimp only
  generalize hH3 : (H1.push (seqObj "list" vs.toArray 0)).update H1.objs.size (Obj.mapSeq fun _ => #[]) = H3 at l3 g3 a3 e3 r3 k3
  have z3 : H3.objs.size = h.objs.size + 2 := by rw [← hH3, Heap.size_update, size_push', z1]
  have g4 : Le H3 ((H3.push { cls := .type "tuple", data := .seq vs.toArray.toList.toArray }).push { cls := .type "list", data := .seq #[] }) := .keeps fun b ob e => Heap.get?_push_of_some _ (Heap.get?_push_of_some _ e)
  have z4 : (H3.push { cls := .type "tuple", data := .seq vs.toArray.toList.toArray }).objs.size = h.objs.size + 3 := by rw [size_push', z3]
  have ek : ((H3.push { cls := .type "tuple", data := .seq vs.toArray.toList.toArray }).push { cls := .type "list", data := .seq #[] }).get? (H3.push { cls := .type "tuple", data := .seq vs.toArray.toList.toArray }).objs.size = some (seqObj "list" #[] 0) := Heap.get?_push_size _ rfl
  have nx : ∀ b, b < h.objs.size → (X b ∨ b = H1.objs.size) ∨ b = (H3.push { cls := .type "tuple", data := .seq vs.toArray.toList.toArray }).objs.size → X b := fun b hb q => by
    rcases q with (q | q) | q
    · exact q
    · have := aeq q; omega
    · have := aeq q; omega
  refine rest_any (X := fun b => (X b ∨ b = H1.objs.size) ∨ b = (H3.push { cls := .type "tuple", data := .seq vs.toArray.toList.toArray }).objs.size) (h0 := h) (ds := ds) (r := r) W hz (by omega) (by omega) (fun z => by have := aeq z; omega) (.inl (.inr rfl)) (.inr rfl)
    ⟨l3.trans g4, W.grow no _ _ (fun _ q => q.elim) g4 g3, fun b q => q.elim (fun q => (a3.le g4) b q) fun q => ⟨_, q ▸ ek⟩, g4.old _ _ (fun q => q) e3, ⟨_, ek⟩, (rs.grow (S := no) (l3.trans g4) (fun _ q => q.elim) nx), rfl⟩ hlen h64 hA' hu key hlt fun h' tk' c p hp hsr x1 x2 x3 x4 x5 => ?_
  refine ⟨_, rfl, wpAny_pure ⟨_, rfl, q h' tk' _ p hp hsr x1 ⟨_, p.toList.map fun i => vs.getD i Value.none, rfl, fun xa => ?_, ⟨_, x4, rfl, c, rfl⟩, ?_⟩⟩⟩
  · obtain ⟨ob, e⟩ := hx _ xa; have := alt e; omega
  · refine Reps.of_get (by simp) fun i d v' e1 e2 => ?_
    simp only [List.getElem?_map, Option.map_eq_some_iff] at e1 e2
    obtain ⟨j, ej, rfl⟩ := e1
    obtain ⟨j', ej', rfl⟩ := e2
    rw [ej] at ej'; cases ej'
    have hj : j < ds.length := List.mem_range.mp (hp.perm.mem_iff.mp (List.mem_of_getElem? ej))
    obtain ⟨v2, hv2, r2⟩ := x5.get (i := j) (d := ds.getD j .none) (by simp [hj])
    have : vs.getD j Value.none = v2 := by rw [List.getD_eq_getElem?_getD, hv2]; rfl
    rw [this]
    exact r2.grow (S := no) (.refl no _) (fun _ q => q.elim) fun b _ q => .inl (.inl q)
end Mine
end
noncomputable section
open PySem PySem.W PySem.W.X PyProof.Rows
set_option Elab.async false
set_option linter.unusedVariables false
set_option maxRecDepth 100000
namespace Mine
variable {prog : Program} {w : World} {G : Heap → Prop} {Z : Addr → Prop}
inductive TR where
  | leaf (t : Bool) (ws : List (List Nat))
  | block (t : Bool) (ps : List TR)
noncomputable def wordD (w : List Nat) : D := .lst (w.map fun (n : Nat) => .int (n : Int))
mutual
noncomputable def trD : TR → D
  | .leaf t ws => .tup [.bool t, .lst [], .lst (ws.map wordD)]
  | .block t ps => .tup [.bool t, .lst (trDs ps), .lst []]
noncomputable def trDs : List TR → List D
  | [] => []
  | x :: r => trD x :: trDs r
end
mutual
noncomputable def tlen : TR → Nat
  | .leaf _ ws => (ws.map List.length).sum
  | .block _ ps => tlens ps
noncomputable def tlens : List TR → Nat
  | [] => 0
  | x :: r => tlen x + tlens r
end
mutual
noncomputable def tstr : TR → Nat → List (Nat × Nat × Nat)
  | .leaf t ws, f => if t then [(f, f + (ws.map List.length).sum, (ws.headD []).length)] else []
  | .block t ps, f => (if t then [(f, f + tlens ps, tlens ps)] else []) ++ tstrs ps f
noncomputable def tstrs : List TR → Nat → List (Nat × Nat × Nat)
  | [], _ => []
  | x :: r, f => tstr x f ++ tstrs r (f + tlen x)
end
mutual
noncomputable def trd : TR → Bool → List Nat
  | .leaf t ws, o => let s := ws.flatMap fun w => if t then w.reverse else w; if o then s.reverse else s
  | .block t ps, o => (if (o != t) then (trds ps (o != t)).reverse else trds ps (o != t)).flatMap fun x => x
noncomputable def trds : List TR → Bool → List (List Nat)
  | [], _ => []
  | x :: r, o => trd x o :: trds r o
end
mutual
/-- the depth, and the number of nodes -/
noncomputable def tdep : TR → Nat
  | .leaf _ _ => 0
  | .block _ ps => tdeps ps + 1
noncomputable def tdeps : List TR → Nat
  | [] => 0
  | x :: r => max (tdep x) (tdeps r)
end
mutual
/-- words are there and of one width; nothing is too long -/
noncomputable def tok : TR → Prop
  | .leaf _ ws => ws ≠ [] ∧ ws.length ≤ 100 ∧ ∀ w ∈ ws, w.length ≤ 100
  | .block _ ps => ps.length ≤ 100 ∧ toks ps
noncomputable def toks : List TR → Prop
  | [] => True
  | x :: r => tok x ∧ toks r
end
theorem trDs_len : ∀ l : List TR, (trDs l).length = l.length
  | [] => by simp [trDs]
  | _ :: r => by simp [trDs, trDs_len r]
theorem trDs_get : ∀ (l : List TR) (i : Nat), (trDs l)[i]? = l[i]?.map trD
  | [], i => by simp [trDs]
  | x :: r, 0 => by simp [trDs]
  | x :: r, i + 1 => by simp [trDs, trDs_get r i]
theorem trds_get : ∀ (l : List TR) (o : Bool) (i : Nat), (trds l o)[i]? = l[i]?.map fun x => trd x o
  | [], o, i => by simp [trds]
  | x :: r, o, 0 => by simp [trds]
  | x :: r, o, i + 1 => by simp [trds, trds_get r o i]
theorem trds_len (l : List TR) (o : Bool) : (trds l o).length = l.length := by
  induction l with
  | nil => simp [trds]
  | cons x r ih => simp [trds, ih]
theorem toks_get : ∀ {l : List TR}, toks l → ∀ {i : Nat} {x : TR}, l[i]? = some x → tok x
  | [], _, _, _, e => by simp at e
  | y :: r, h, 0, x, e => by simp at e; subst e; exact h.1
  | y :: r, h, i + 1, x, e => toks_get h.2 (by simpa using e)
theorem tdeps_get : ∀ {l : List TR} {i : Nat} {x : TR}, l[i]? = some x → tdep x ≤ tdeps l
  | [], _, _, e => by simp at e
  | y :: r, 0, x, e => by simp at e; subst e; unfold tdeps; omega
  | y :: r, i + 1, x, e => by have := tdeps_get (l := r) (i := i) (x := x) (by simpa using e); unfold tdeps; omega
theorem tlens_take : ∀ (l : List TR) (i : Nat) (x : TR), l[i]? = some x → tlens (l.take (i + 1)) = tlens (l.take i) + tlen x
  | [], _, _, e => by simp at e
  | y :: r, 0, x, e => by simp at e; subst e; simp [tlens]
  | y :: r, i + 1, x, e => by
    have := tlens_take r i x (by simpa using e)
    simp only [List.take_succ_cons, tlens] at this ⊢
    omega
theorem tstrs_take : ∀ (l : List TR) (i : Nat) (x : TR) (f : Nat), l[i]? = some x → tstrs (l.take (i + 1)) f = tstrs (l.take i) f ++ tstr x (f + tlens (l.take i))
  | [], _, _, _, e => by simp at e
  | y :: r, 0, x, f, e => by simp at e; subst e; simp [tstrs, tlens]
  | y :: r, i + 1, x, f, e => by
    have := tstrs_take r i x (f + tlen y) (by simpa using e)
    simp only [List.take_succ_cons, tstrs, tlens] at this ⊢
    rw [this, List.append_assoc, Nat.add_assoc]
/-- sum(x) of a list of ints -/
theorem call_sum {ns : List Int} : CallS prog w G 4 (.builtin "sum") [.lst (ns.map D.int)] (.int ns.sum) := by
  intro A hA X h g dr tk o vs hg hx r
  obtain ⟨v, _, rfl, ⟨l, vs, rfl, nl, hl, rs⟩, rfl⟩ := r
  have hi := Reps.ints rs
  obtain ⟨xs, e⟩ := hi.allInts.items
  refine wpJ.of (sum_intListG (xs := xs) hA.handled (e ▸ hl) fun h' tk' t' k => ?_)
  have en : ns.sum = preSum (numAt xs) xs.size := by
    rw [preSum_eq, List.take_of_length_le (by simp), ← nums_intItems, ← e]
    have := hi.numsOf
    rw [this]
  rw [← en]
  exact ⟨h', tk', rfl, .keeps k, _, rfl⟩
/-- the text with one stretch turned -/
noncomputable def turnL (b : List UInt8) (p : Nat × Nat × Nat) (m : Nat) : List UInt8 := b.take p.1 ++ (Bo p.2.2 ((b.drop p.1).take (p.2.1 - p.1)) m).toList ++ b.drop p.2.1
set_option maxHeartbeats 4000000 in
theorem turn_call (W : Glob G Z) (P : Params) (hfn : ∀ h, G h → ∃ o, h.get? 59 = some o ∧ o.data = .func (fnOf (hd01.heap_1 P) 59) ∧ h.CodeRec (fnOf (hd01.heap_1 P) 59).code (fnOf (hd01.heap_1 P) 59).qualname)
    (g5 : GV G "_byteswap" (.ref 21)) (c5 : Callee G (.ref 21)) (Hb : ∀ {data : List UInt8} {wd m : Nat}, 1 ≤ wd → wd ≤ 1000 → data.length = m * wd → data.length ≤ 1000 → CallS prog w G 541 (.ref 21) [.bytes data, .int (wd : Int)] (.bytes (Bo wd data m).toList))
    {b : List UInt8} {p : Nat × Nat × Nat} {m : Nat} (h1 : p.1 ≤ p.2.1) (h2 : p.2.1 ≤ b.length) (hz : b.length ≤ 1000) (hm : p.2.1 - p.1 = m * p.2.2) (hw : 1 ≤ p.2.2) (hw2 : p.2.2 ≤ 1000) : CallS prog w G 551 (.ref 59) [.bytes b, strD p] (.bytes (turnL b p m)) := by
  refine call_fn' (k := 550) W hfn rfl rfl (names := ["text", "stretch"]) (bind_two (fun a b => rfl) _ _) ?_ (fun L hL => ?_) rfl rfl rfl
  · intro x hx
    simp at hx
    rcases hx with rfl | rfl <;> exact .inl rfl
  conv in (fnOf _ _) => whnf
  refine ret_cons (ex_unpack W (ev_local rfl) (.name (.name (.name .nil))) rfl (by intro x hx; simp at hx; rcases hx with rfl | rfl | rfl <;> exact .inl rfl)) ?_
  have e1 : cutL b none (some (p.1 : Int)) = b.take p.1 := cut_to b _ (by omega)
  have e2 : cutL b (some (p.1 : Int)) (some (p.2.1 : Int)) = (b.drop p.1).take (p.2.1 - p.1) := cut_nat b _ _ h1 h2
  have e3 : cutL b (some (p.2.1 : Int)) none = b.drop p.2.1 := cut_from b _ h2
  have l2 : ((b.drop p.1).take (p.2.1 - p.1)).length = p.2.1 - p.1 := by rw [List.length_take, List.length_drop]; omega
  have lB : (Bo p.2.2 ((b.drop p.1).take (p.2.1 - p.1)) m).toList.length = p.2.1 - p.1 := by rw [Array.length_toList, Bo_size, l2]
  refine ret_ret W (ev_bin W (ev_bin W (EvS.eq (ev_cut_bytes W (ev_local rfl) part_none (part_some (ev_local rfl)) (by omega)) (congrArg D.bytes e1)) (ev_call W (ev_global g5) c5 (evs_cons W (EvS.eq (ev_cut_bytes W (ev_local rfl) (part_some (ev_local rfl)) (part_some (ev_local rfl)) (by omega)) (congrArg D.bytes e2)) (evs_cons W (ev_local rfl) evs_nil)) (Hb hw hw2 (l2.trans hm) (by omega))) (bin_bytes ?_)) (EvS.eq (ev_cut_bytes W (ev_local rfl) (part_some (ev_local rfl)) part_none (by omega)) (congrArg D.bytes e3)) (bin_bytes ?_))
  · rw [lB, List.length_take]; omega
  · rw [List.length_append, lB, List.length_take, List.length_drop]; omega
end Mine
end
noncomputable section
open PySem PySem.W PySem.W.X PyProof.Rows
set_option Elab.async false
set_option linter.unusedVariables false
set_option maxRecDepth 100000
namespace Mine
variable {prog : Program} {w : World} {G : Heap → Prop} {Z : Addr → Prop}
noncomputable def tpcs : TR → List TR
  | .leaf _ _ => []
  | .block _ ps => ps
noncomputable def twds : TR → List (List Nat)
  | .leaf _ ws => ws
  | .block _ _ => []
noncomputable def ttn : TR → Bool
  | .leaf t _ => t
  | .block t _ => t
theorem trD_eq : ∀ t : TR, trD t = .tup [.bool (ttn t), .lst (trDs (tpcs t)), .lst ((twds t).map wordD)]
  | .leaf t ws => by rw [trD]; simp [ttn, tpcs, twds, trDs]
  | .block t ps => by rw [trD]; simp [ttn, tpcs, twds]
noncomputable def wsum (ws : List (List Nat)) : Nat := (ws.map List.length).sum
theorem tlen_eq : ∀ t : TR, tlen t = wsum (twds t) + tlens (tpcs t)
  | .leaf t ws => by simp [tlen, wsum, twds, tpcs, tlens]
  | .block t ps => by simp [tlen, wsum, twds, tpcs]
noncomputable def twid (t : TR) : Nat := if twds t = [] then tlen t else ((twds t).headD []).length
theorem tstr_eq : ∀ (t : TR) (f : Nat), tok t → tstr t f = (if ttn t then [(f, f + tlen t, twid t)] else []) ++ tstrs (tpcs t) (f + wsum (twds t))
  | .leaf t ws, f, h => by
    have : ws ≠ [] := by unfold tok at h; exact h.1
    simp [tstr, ttn, tlen, twid, tpcs, tstrs, twds, this]
  | .block t ps, f, h => by simp [tstr, ttn, tlen, twid, tpcs, twds, wsum]
mutual
noncomputable def tcnt : TR → Nat
  | .leaf _ _ => 1
  | .block _ ps => tcnts ps + 1
noncomputable def tcnts : List TR → Nat
  | [] => 0
  | x :: r => tcnt x + tcnts r
end
theorem tcnts_get : ∀ {l : List TR} {i : Nat} {x : TR}, l[i]? = some x → tcnt x ≤ tcnts l
  | [], _, _, e => by simp at e
  | y :: r, 0, x, e => by simp at e; subst e; unfold tcnts; omega
  | y :: r, i + 1, x, e => by have := tcnts_get (l := r) (i := i) (x := x) (by simpa using e); unfold tcnts; omega
theorem tcnts_take : ∀ (l : List TR) (i : Nat), tcnts (l.take i) ≤ tcnts l
  | [], i => by simp
  | y :: r, 0 => by simp [tcnts]
  | y :: r, i + 1 => by have := tcnts_take r i; simp only [List.take_succ_cons, tcnts]; omega
mutual
theorem tstr_len : ∀ (t : TR) (f : Nat), (tstr t f).length ≤ tcnt t
  | .leaf t ws, f => by rw [tstr, tcnt]; split <;> simp
  | .block t ps, f => by
    have := tstrs_len ps f
    rw [tstr, tcnt, List.length_append]
    split
    · simp; omega
    · simp; omega
theorem tstrs_len : ∀ (l : List TR) (f : Nat), (tstrs l f).length ≤ tcnts l
  | [], f => by simp [tstrs, tcnts]
  | x :: r, f => by
    have h1 := tstr_len x f
    have h2 := tstrs_len r (f + tlen x)
    rw [tstrs, tcnts, List.length_append]
    omega
end
theorem tcnt_pcs : ∀ t : TR, tcnts (tpcs t) + 1 ≤ tcnt t
  | .leaf _ _ => by simp [tpcs, tcnts, tcnt]
  | .block _ ps => by simp [tpcs, tcnt]
theorem tdep_pcs : ∀ {t : TR} {n : Nat}, tdep t ≤ n → ∀ {i : Nat} {x : TR}, (tpcs t)[i]? = some x → ∃ m, n = m + 1 ∧ tdep x ≤ m
  | .leaf _ _, n, h, i, x, e => by simp [tpcs] at e
  | .block _ ps, n, h, i, x, e => by
    have := tdeps_get e
    unfold tdep at h
    exact ⟨n - 1, by omega, by simp only [tpcs] at this; omega⟩
theorem tok_pcs : ∀ {t : TR}, tok t → toks (tpcs t) ∧ (tpcs t).length ≤ 100 ∧ (twds t).length ≤ 100 ∧ (∀ w ∈ twds t, w.length ≤ 100)
  | .leaf _ ws, h => by unfold tok at h; exact ⟨by simp [tpcs, toks], by simp [tpcs], h.2.1, h.2.2⟩
  | .block _ ps, h => by unfold tok at h; exact ⟨h.2, h.1, by simp [twds], by simp [twds]⟩
noncomputable def sB (t : TR) (f : Nat) : Rho := upd (upd (upd (bindR ["piece", "first"] [trD t, .int (f : Int)] nil) "turned" (.bool (ttn t))) "pieces" (.lst (trDs (tpcs t)))) "words" (.lst ((twds t).map wordD))
noncomputable def sR (t : TR) (f : Nat) (i : Nat) : Rho := upd (upd (sB t f) "inner" (.lst ((tstrs ((tpcs t).take i) (f + wsum (twds t))).map strD))) "behind" (.int ((f + wsum (twds t) + tlens ((tpcs t).take i) : Nat) : Int))
theorem sum_cast : ∀ ws : List (List Nat), (ws.map fun w => (w.length : Int)).sum = ((wsum ws : Nat) : Int)
  | [] => rfl
  | w :: ws => by
    have := sum_cast ws
    unfold wsum at this ⊢
    simp only [List.map_cons, List.sum_cons, this]; omega
set_option maxHeartbeats 4000000 in
theorem stretches_call (W : Glob G Z) (P : Params) (hfn : FnOk G 52 (fnOf (hd01.heap_1 P) 52)) (g1 : GV G "len" (.builtin "len")) (g2 : GV G "sum" (.builtin "sum")) (g3 : GV G "_law_stretches" (.ref 52)) :
    ∀ (n : Nat) (t : TR) (f : Nat), tdep t ≤ n → tok t → tcnt t ≤ 1000 → CallS prog w G (31 + n) (.ref 52) [trD t, .int (f : Int)] (.tup [.int ((f + tlen t : Nat) : Int), .lst ((tstr t f).map strD)]) := by
  intro n
  induction n using Nat.strongRecOn with
  | ind n ih =>
  intro t f hd hok hc
  obtain ⟨ok1, ok2, ok3, ok4⟩ := tok_pcs hok
  have hc1 := tcnt_pcs t
  rw [show 31 + n = (30 + n) + 1 by omega]
  refine call_fn' (k := 30 + n) W hfn rfl rfl (names := ["piece", "first"]) (bind_two (fun a b => rfl) _ _) ?_ (fun L hL => ?_) rfl rfl rfl
  · intro x hx
    simp at hx
    rcases hx with rfl | rfl <;> exact .inl rfl
  conv in (fnOf _ _) => whnf
  have hpc : bindR ["piece", "first"] [trD t, .int (f : Int)] nil "piece" = some (.tup [.bool (ttn t), .lst (trDs (tpcs t)), .lst ((twds t).map wordD)]) := by rw [← trD_eq]; rfl
  refine ret_cons (ex_unpack W (ev_local hpc) (.name (.name (.name .nil))) rfl (by intro x hx; simp at hx; rcases hx with rfl | rfl | rfl <;> exact .inl rfl)) ?_
  show RetS _ _ _ _ _ _ (sB t f) _ _
  have e0 : sR t f 0 = upds (sB t f) ["inner", "behind"] [.lst [], .int ((f + wsum (twds t) : Nat) : Int)] := by
    unfold sR; simp [tstrs, tlens]; rfl
  refine ret_cons (ρ' := sR t f 0) (by
    rw [e0]
    refine ex_unpack_swap (xs := ["behind", "inner"]) (ds := [.int ((f + wsum (twds t) : Nat) : Int), .lst []]) W (ev_tuple W (evs_cons W (EvS.int (ev_bin W (ev_local rfl) (ev_call W (ev_global g2) (.inl ⟨_, rfl⟩) (evs_cons W (d := .lst (((twds t).map fun w => (w.length : Int)).map D.int)) ?_ evs_nil) call_sum) bin_add) ?_) (evs_cons W (ev_list W evs_nil) evs_nil))) rfl (.bind (.bind .nil)) rfl (by intro x hx; simp at hx; rcases hx with rfl | rfl <;> exact .inl rfl)
    · refine ev_comp W (d := .lst ((twds t).map wordD)) (cl := []) (ρc := nil) (outs := fun i => [.int ((((twds t).getD i []).length : Nat) : Int)]) (b := fun _ => true) ⟨by kernel_rfl, comp_cell (by decide +kernel), rfl, comp_names (by decide +kernel), trivial, ⟨(fun q => nomatch q), (fun q => nomatch q), (fun q => nomatch q), trivial⟩, All.nil⟩ (ev_local rfl) trivial ?_ ?_ rfl (by kernel_rfl) (fun C i e he => tests_nil) (fun C i e he _ => ?_) (fun i q => nomatch q)
      · rw [items_lst, List.length_map, flat_one fun i => D.int ((((twds t).getD i []).length : Nat) : Int), List.map_map]
        apply List.ext_getElem
        · simp
        · intro i h1 h2; simp at h1; simp [h1]
      · simp; omega
      · rw [items_lst] at he
        simp only [List.getElem?_map, Option.map_eq_some_iff] at he
        obtain ⟨w', hw', rfl⟩ := he
        have hm := List.mem_of_getElem? hw'
        have hl := ok4 w' hm
        have e2 : (twds t).getD i [] = w' := by rw [List.getD_eq_getElem?_getD, hw']; rfl
        rw [e2]
        refine .emit (EvS.int (ev_call W (ev_global g1) (.inl ⟨_, rfl⟩) (evs_cons W (ev_local rfl) evs_nil) (call_len_list (l := w'.map fun (n : Nat) => .int (n : Int)) (by simp; omega))) (by simp))
    · rw [sum_cast]; omega) ?_
  have il : (items (.lst (trDs (tpcs t)))).length = (tpcs t).length := by rw [items_lst, trDs_len]
  refine ret_cons (ex_for W (ρs := sR t f) (d := .lst (trDs (tpcs t))) il (ev_local rfl) trivial (fun i e he => ?_)) ?_
  · rw [items_lst, trDs_get, Option.map_eq_some_iff] at he
    obtain ⟨x, hx, rfl⟩ := he
    obtain ⟨m, rfl, hm⟩ := tdep_pcs hd hx
    have hcx := tcnts_get hx
    have hct := tcnts_take (tpcs t) i
    have hli := tstrs_len ((tpcs t).take i) (f + wsum (twds t))
    have hlx := tstr_len x (f + wsum (twds t) + tlens ((tpcs t).take i))
    refine Tree.sub (exs_cons (ex_unpack W (ev_call W (ev_global g3) hfn.callee (evs_cons W (ev_local rfl) (evs_cons W (ev_local rfl) evs_nil)) (ih m (by omega) x _ hm (toks_get ok1 hx) (by omega))) (.name (.name .nil)) rfl (by intro x hx; simp at hx; rcases hx with rfl | rfl <;> exact .inl rfl)) (exs_cons (ex_assign W (ev_bin W (ev_local rfl) (ev_local rfl) (bin_list (by rw [List.length_map, List.length_map]; omega)))) exs_nil)) ?_
    intro z d q
    have e1 := tstrs_take (tpcs t) i x (f + wsum (twds t)) hx
    have e2 := tlens_take (tpcs t) i x hx
    unfold sR at q
    rw [e1, e2, List.map_append] at q
    by_cases h1 : z = "inner"
    · subst h1
      exact q
    · by_cases h2 : z = "behind"
      · subst h2
        rw [show f + wsum (twds t) + (tlens ((tpcs t).take i) + tlen x) = f + wsum (twds t) + tlens ((tpcs t).take i) + tlen x by omega] at q
        exact q
      · by_cases h3 : z = "one"
        · subst h3; exact nomatch (show (none : Option D) = some d from q)
        · by_cases h4 : z = "more"
          · subst h4; exact nomatch (show (none : Option D) = some d from q)
          · unfold upds upds upds sR upd
            unfold upd at q
            simp only [if_neg h1, if_neg h2, if_neg h3, if_neg h4] at q ⊢
            exact q
  have eF : sR t f (tpcs t).length = upd (upd (sB t f) "inner" (.lst ((tstrs (tpcs t) (f + wsum (twds t))).map strD))) "behind" (.int ((f + tlen t : Nat) : Int)) := by
    unfold sR; rw [List.take_length, tlen_eq, Nat.add_assoc]
  rw [eF]
  refine ret_cons (ex_assign W (d := .int ((twid t : Nat) : Int)) (ev_ifexp W (test_list W (ev_local rfl) (by rw [List.length_map]; omega)) (fun e => ?_) (fun e => ?_))) ?_
  · have hw : twds t ≠ [] := fun z => by rw [z] at e; simp at e
    obtain ⟨w0, r0, ew⟩ : ∃ w0 r0, twds t = w0 :: r0 := by
      cases h : twds t with
      | nil => exact absurd h hw
      | cons a b => exact ⟨a, b, rfl⟩
    have hl := ok4 w0 (by rw [ew]; exact .head _)
    have e1 : twid t = w0.length := by unfold twid; rw [if_neg hw, ew]; rfl
    rw [e1]
    exact EvS.int (ev_call W (ev_global g1) (.inl ⟨_, rfl⟩) (evs_cons W (ev_sub W (ev_local rfl) ev_int (sub_list (d := wordD w0) (by decide) (by rw [ew]; rfl) (by rw [List.length_map]; omega))) evs_nil) (call_len_list (l := w0.map fun (n : Nat) => .int (n : Int)) (by simp; omega))) (by simp)
  · have hw : twds t = [] := by
      cases h : twds t with
      | nil => rfl
      | cons a b => rw [h] at e; simp at e
    have e1 : twid t = tlen t := by unfold twid; rw [if_pos hw]
    rw [e1]
    exact EvS.int (ev_bin W (ev_local rfl) (ev_local rfl) bin_sub) (by omega)
  have hli := tstrs_len (tpcs t) (f + wsum (twds t))
  rw [tstr_eq t f hok, List.map_append]
  refine ret_ret W (ev_tuple W (evs_cons W (ev_local rfl) (evs_cons W (ev_bin W (d₁ := .lst ((if ttn t then [(f, f + tlen t, twid t)] else []).map strD)) (ev_ifexp W (test_bool W (ev_local rfl)) (fun e => ?_) (fun e => ?_)) (ev_local rfl) (bin_list ?_)) evs_nil)))
  · rw [if_pos e]
    exact ev_list W (evs_cons W (ev_tuple W (evs_cons W (ev_local rfl) (evs_cons W (ev_local rfl) (evs_cons W (ev_local rfl) evs_nil)))) evs_nil)
  · rw [if_neg (by rw [e]; decide)]
    exact ev_list W evs_nil
  · rw [List.length_map, List.length_map]
    split
    · simp; omega
    · simp; omega
end Mine
end
noncomputable section
open PySem PySem.W PySem.W.X PyProof.Rows
set_option Elab.async false
set_option linter.unusedVariables false
set_option maxRecDepth 100000
namespace Mine
variable {prog : Program} {w : World} {G : Heap → Prop} {Z : Addr → Prop}
theorem range_map_getD {α β : Type} (d : α) (f : α → β) (l : List α) : (List.range l.length).map (fun i => f (l.getD i d)) = l.map f := by
  apply List.ext_getElem
  · simp
  · intro i h1 h2; simp at h1; simp [h1]
theorem range_flat_getD {α β : Type} (d : α) (f : α → List β) (l : List α) : (List.range l.length).flatMap (fun i => f (l.getD i d)) = l.flatMap f := by
  have := range_map_getD d f l
  rw [List.flatMap_def, List.flatMap_def, this]
theorem wordD_items (l : List Nat) : items (wordD l) = l.map fun (n : Nat) => .int (n : Int) := rfl
theorem wordD_at {l : List Nat} {i : Nat} {e : D} (he : (items (wordD l))[i]? = some e) : i < l.length ∧ e = .int ((l.getD i 0 : Nat) : Int) := by
  rw [wordD_items] at he
  simp only [List.getElem?_map, Option.map_eq_some_iff] at he
  obtain ⟨c, hc, rfl⟩ := he
  refine ⟨(List.getElem?_eq_some_iff.mp hc).1, ?_⟩
  rw [List.getD_eq_getElem?_getD, hc]; rfl
/-- the signs of one word, one by one -/
theorem cl_word (W : Glob G Z) {k env} {ρ : Rho} {l : List Nat} {iter : Expr} {px sp : Pos} (h : EvS prog w G Z k env ρ iter (wordD l)) (hx : ρ "sign" = none) (hl : env.kindOf "sign" = some .local) (hf : env.scope.kind = .function) (hs : ∀ v, foldedSetIterable iter env v = pure v) :
    Cl prog w G Z k env (.Name "sign" sp) [⟨.Name "sign" px, iter, [], 0⟩] ρ (l.map fun (n : Nat) => .int (n : Int)) := by
  refine Cl.eq (Cl.clause (d := wordD l) (fun j => [.int ((l.getD j 0 : Nat) : Int)]) (fun j => true) h trivial hx hl hs (fun j e he => tests_nil) (fun j e he _ => ?_) (fun j q => nomatch q)) ?_
  · obtain ⟨hj, rfl⟩ := wordD_at he
    exact .emit (ev_local (by unfold upd; rw [if_pos rfl]) hl hf)
  · rw [wordD_items, List.length_map, flat_one fun j => D.int ((l.getD j 0 : Nat) : Int)]
    exact range_map_getD 0 (fun (n : Nat) => D.int (n : Int)) l
theorem flat_rev_len {α : Type} : ∀ (l : List (List α)) (b : Bool), (l.flatMap fun x => if b then x.reverse else x).length = (l.map List.length).sum
  | [], b => rfl
  | x :: l, b => by
    rw [List.flatMap_cons, List.length_append, flat_rev_len l b]
    cases b <;> simp
theorem flat_len {α : Type} (l : List (List α)) : (l.flatMap fun x => x).length = (l.map List.length).sum := by
  have := flat_rev_len l false
  simpa using this
theorem rev_len_sum {α : Type} (l : List (List α)) : (l.reverse.map List.length).sum = (l.map List.length).sum := by
  rw [List.map_reverse]
  exact List.sum_reverse_nat _
mutual
theorem trd_len : ∀ (t : TR) (o : Bool), (trd t o).length = tlen t
  | .leaf t ws, o => by
    rw [trd, tlen]
    have := flat_rev_len ws t
    cases o
    · simpa using this
    · simpa using this
  | .block t ps, o => by
    rw [trd, tlen, flat_len, ← trds_sum ps (o != t)]
    cases o != t
    · rfl
    · exact rev_len_sum _
theorem trds_sum : ∀ (l : List TR) (o : Bool), ((trds l o).map List.length).sum = tlens l
  | [], o => by simp [trds, tlens]
  | x :: r, o => by
    have h1 := trd_len x o
    have h2 := trds_sum r o
    simp only [trds, tlens, List.map_cons, List.sum_cons, h1, h2]
end
theorem tlens_get : ∀ {l : List TR} {i : Nat} {x : TR}, l[i]? = some x → tlen x ≤ tlens l
  | [], _, _, e => by simp at e
  | y :: r, 0, x, e => by simp at e; subst e; unfold tlens; omega
  | y :: r, i + 1, x, e => by have := tlens_get (l := r) (i := i) (x := x) (by simpa using e); unfold tlens; omega
noncomputable def dB (t : TR) (o : Bool) : Rho := upd (upd (upd (bindR ["piece", "odd"] [trD t, .bool o] nil) "turned" (.bool (ttn t))) "pieces" (.lst (trDs (tpcs t)))) "words" (.lst ((twds t).map wordD))
set_option maxHeartbeats 4000000 in
theorem read_call (W : Glob G Z) (P : Params) (hfn : FnOk G 47 (fnOf (hd01.heap_1 P) 47)) (g3 : GV G "_law_read" (.ref 47)) :
    ∀ (n : Nat) (t : TR) (o : Bool), tdep t ≤ n → tok t → tlen t ≤ 10000 → CallS prog w G (31 + n) (.ref 47) [trD t, .bool o] (wordD (trd t o)) := by
  intro n
  induction n using Nat.strongRecOn with
  | ind n ih =>
  intro t o hd hok hc
  obtain ⟨ok1, ok2, ok3, ok4⟩ := tok_pcs hok
  rw [show 31 + n = (30 + n) + 1 by omega]
  refine call_fn' (k := 30 + n) W hfn rfl rfl (names := ["piece", "odd"]) (bind_two (fun a b => rfl) _ _) ?_ (fun L hL => ?_) rfl rfl rfl
  · intro x hx
    simp at hx
    rcases hx with rfl | rfl
    · exact .inl rfl
    · exact .inr rfl
  conv in (fnOf _ _) => whnf
  have hpc : bindR ["piece", "odd"] [trD t, .bool o] nil "piece" = some (.tup [.bool (ttn t), .lst (trDs (tpcs t)), .lst ((twds t).map wordD)]) := by rw [← trD_eq]; rfl
  refine ret_cons (ex_unpack W (ev_local hpc) (.name (.name (.name .nil))) rfl (by intro x hx; simp at hx; rcases hx with rfl | rfl | rfl <;> first | exact .inl rfl | exact .inr rfl)) ?_
  show RetS _ _ _ _ _ _ (dB t o) _ _
  cases t with
  | leaf tt ws =>
    have hw : ws ≠ [] := by unfold tok at hok; exact hok.1
    refine ret_if W (test_eq (test_list W (ev_local rfl) (by rw [List.length_map]; omega)) (by simp [twds, hw])) ?_
    have hl : (ws.flatMap fun x => if tt then x.reverse else x).length ≤ 10000 := by rw [flat_rev_len]; exact hc
    refine ret_cons (ex_comp W (d := .lst (ws.map wordD)) (cl := [("turned", L + 2)]) (ρc := upd nil "turned" (.bool tt)) (out := (ws.flatMap fun x => if tt then x.reverse else x).map fun (n : Nat) => .int (n : Int)) (outs := fun i => (if tt then (ws.getD i []).reverse else ws.getD i []).map fun (n : Nat) => .int (n : Int)) (b := fun _ => true) ⟨by kernel_rfl, comp_cell (by decide +kernel), rfl, comp_names (by decide +kernel), ⟨rfl, trivial⟩, ⟨(fun q => nomatch q), (fun q => nomatch q), (fun q => nomatch q), (fun _ => rfl), trivial⟩, All.nil.upd ⟨rfl, ne_loc (k := .cell) rfl rfl, ne_loc (k := .cell) (by kernel_rfl) rfl, rfl⟩⟩ (ev_local rfl) trivial ?_ ?_ rfl (by kernel_rfl) (fun C i e he => tests_nil) (fun C i e he _ => ?_) (fun i q => nomatch q)) ?_
    · rw [items_lst, List.length_map, range_flat_getD [] (fun x : List Nat => (if tt then x.reverse else x).map fun (n : Nat) => D.int (n : Int)), List.map_flatMap]
    · rw [List.length_map]; omega
    · rw [items_lst] at he
      simp only [List.getElem?_map, Option.map_eq_some_iff] at he
      obtain ⟨w', hw', rfl⟩ := he
      have hl4 := ok4 w' (List.mem_of_getElem? hw')
      have e2 : ws.getD i [] = w' := by rw [List.getD_eq_getElem?_getD, hw']; rfl
      rw [e2]
      refine cl_word W (ev_ifexp W (test_bool W (ev_cell rfl)) (fun e => ?_) (fun e => ?_)) rfl (by kernel_rfl) rfl (by intro _; rfl)
      · rw [if_pos e]
        exact EvS.eq (ev_rev_list W (l := w'.map fun (n : Nat) => .int (n : Int)) (ev_local rfl) (ev_neg W ev_int) (by rw [List.length_map]; omega)) (by unfold wordD; rw [List.map_reverse])
      · rw [if_neg (by rw [e]; decide)]
        exact ev_local rfl
    · refine ret_ret W (ev_ifexp W (test_bool W (ev_cell rfl)) (fun e => ?_) (fun e => ?_))
      · have : trd (.leaf tt ws) o = (ws.flatMap fun x => if tt then x.reverse else x).reverse := by rw [trd]; simp [e]
        rw [this]
        exact EvS.eq (ev_rev_list W (ev_local rfl) (ev_neg W ev_int) (by rw [List.length_map]; omega)) (by unfold wordD; rw [List.map_reverse])
      · have : trd (.leaf tt ws) o = ws.flatMap fun x => if tt then x.reverse else x := by rw [trd]; simp [e]
        rw [this]
        exact ev_local rfl
  | block tt ps =>
    refine ret_ifnot W (test_eq (test_list W (ev_local rfl) (Nat.le_of_ble_eq_true rfl)) rfl) ?_
    have htl : tlen (.block tt ps) = tlens ps := by rw [tlen]
    refine ret_cons (ex_assign W (ev_cmp W (ev_cell rfl) (ev_cell rfl) cmp_ne_bool)) ?_
    refine ret_cons (ex_comp W (d := .lst (trDs ps)) (cl := [("odd", L + 1)]) (ρc := upd nil "odd" (.bool (o != tt))) (out := (trds ps (o != tt)).map wordD) (outs := fun i => [wordD ((trds ps (o != tt)).getD i [])]) (b := fun _ => true) ⟨by kernel_rfl, comp_cell (by decide +kernel), rfl, comp_names (by decide +kernel), ⟨rfl, trivial⟩, ⟨(fun q => nomatch q), (fun q => nomatch q), (fun q => nomatch q), (fun _ => rfl), trivial⟩, All.nil.upd ⟨rfl, ne_loc (k := .cell) rfl rfl, ne_loc (k := .cell) (by kernel_rfl) rfl, rfl⟩⟩ (ev_local rfl) trivial ?_ ?_ rfl (by kernel_rfl) (fun C i e he => tests_nil) (fun C i e he _ => ?_) (fun i q => nomatch q)) ?_
    · rw [items_lst, trDs_len, flat_one fun i => wordD ((trds ps (o != tt)).getD i []), ← trds_len ps (o != tt)]
      exact range_map_getD [] wordD _
    · simp only [tpcs] at ok2; rw [List.length_map, trds_len]; omega
    · rw [items_lst, trDs_get, Option.map_eq_some_iff] at he
      obtain ⟨x, hx, rfl⟩ := he
      obtain ⟨m, rfl, hm⟩ := tdep_pcs (t := .block tt ps) hd hx
      have hlx := tlens_get hx
      have e2 : (trds ps (o != tt)).getD i [] = trd x (o != tt) := by rw [List.getD_eq_getElem?_getD, trds_get, hx]; rfl
      rw [e2]
      exact .emit (ev_call W (ev_global g3) hfn.callee (evs_cons W (ev_local rfl) (evs_cons W (ev_cell rfl) evs_nil)) (ih m (by omega) x _ hm (toks_get ok1 hx) (by omega)))
    · have hz : (if (o != tt) then (trds ps (o != tt)).reverse else trds ps (o != tt)).length ≤ 100 := by
        simp only [tpcs] at ok2
        split
        · rw [List.length_reverse, trds_len]; omega
        · rw [trds_len]; omega
      have hl := trd_len (.block tt ps) o
      have er : trd (.block tt ps) o = (if (o != tt) then (trds ps (o != tt)).reverse else trds ps (o != tt)).flatMap fun x => x := by rw [trd]
      rw [er] at hl
      rw [er]
      generalize hq : (if (o != tt) then (trds ps (o != tt)).reverse else trds ps (o != tt)) = q at hl hz ⊢
      refine ret_ret W (ev_comp W (d := .lst (q.map wordD)) (cl := []) (ρc := nil) (out := (q.flatMap fun x => x).map fun (n : Nat) => .int (n : Int)) (outs := fun i => (q.getD i []).map fun (n : Nat) => .int (n : Int)) (b := fun _ => true) ⟨by kernel_rfl, comp_cell (by decide +kernel), rfl, comp_names (by decide +kernel), trivial, ⟨(fun q => nomatch q), (fun q => nomatch q), (fun q => nomatch q), trivial⟩, All.nil⟩ ?_ trivial ?_ ?_ rfl (by kernel_rfl) (fun C i e he => tests_nil) (fun C i e he _ => ?_) (fun i q => nomatch q))
      · refine ev_ifexp W (test_bool W (ev_cell rfl)) (fun e => ?_) (fun e => ?_)
        · have e' : (o != tt) = true := e
          rw [← hq, if_pos e']
          exact EvS.eq (ev_rev_list W (ev_local rfl) (ev_neg W ev_int) (by simp only [tpcs] at ok2; rw [List.length_map, trds_len]; omega)) (by rw [List.map_reverse])
        · have e' : (o != tt) = false := e
          rw [← hq, if_neg (by rw [e']; decide)]
          exact ev_local rfl
      · rw [items_lst, List.length_map, range_flat_getD [] (fun x : List Nat => x.map fun (n : Nat) => D.int (n : Int)), List.map_flatMap]
      · rw [List.length_map]; omega
      · rw [items_lst] at he
        simp only [List.getElem?_map, Option.map_eq_some_iff] at he
        obtain ⟨w', hw', rfl⟩ := he
        have e2 : q.getD i [] = w' := by rw [List.getD_eq_getElem?_getD, hw']; rfl
        rw [e2]
        exact cl_word W (ev_local rfl) rfl (by kernel_rfl) rfl (by intro _; rfl)
end Mine
end
noncomputable section
open PySem PySem.W PySem.Calls PyProof.Rows
set_option Elab.async false
set_option linter.unusedVariables false
set_option maxRecDepth 100000
namespace Mine
section
variable {M : Model} {A : Around} {s : Shared} {env : Env}
theorem jDropNone {e pos} {Q : Flow → Shared → Prop} (h : Q .next s) : wpJ M A (dropValue e pos .none) Q s := by
  rw [dropValue_plain (by intro a q; cases q)]
  exact wpJ_pure h
theorem jExpr_none {e pos} {Q : Flow → Shared → Prop} (h : wpJ M A (eval e env) (fun v s' => v = .none ∧ Q .next s') s) (hi : interactive env = false := by rfl) (hs : swapsWith e none pos.line env = pure false := by rfl) : wpJ M A (exec (.Expr e pos) env) Q s := by
  rw [exec_Expr env e pos hi hs]
  refine wpJ_at (wpJ_bind (wpJ_mono h fun v s' hv => ?_))
  obtain ⟨rfl, hq⟩ := hv
  exact jDropNone hq
theorem jCallWith1 {pos : Pos} {f v : Value} {args : List (Bool × Sem Value)} {Q : Value → Shared → Prop} (hp : args.any (·.1) = false)
    (h : wpJ M A (spliced args) (fun vs s₁ => (∀ {Q' : Keeper → Shared → Prop}, Q' .machine s₁ → wpAny M A (keeperOf f) Q' noE s₁) ∧ wpJ M A (call f (v :: vs)) Q s₁) s) : wpJ M A (callWith pos f [v] args []) Q s := by
  unfold callWith
  refine wpJ_bind (wpJ_holding (jArgs hp (wpJ_mono h fun vs s₁ h₁ => wpJ_at ?_)))
  obtain ⟨hkp, hc⟩ := h₁
  simp only [hp, List.any_nil, Bool.or_false]
  refine wpJ_bind (wpJ.of (hkp ?_))
  exact wpJ_bind (wpJ_mono hc fun r s₂ hr => wpJ_bind (wpJ_holding (wpJ.of (wpAny_point (wpJ_pure hr)))))
theorem jCall_append {o elt : Expr} {apos pos : Pos} {Q : Value → Shared → Prop}
    (hbase : attributeBase o "append" env (eval o env) = eval o env)
    (hfew : methodCallForm (([elt] : List Expr).length + ([] : List Keyword).length) (backTo pos (starEach [elt] env)) (backToKw pos (keywordEach [] env)) = true)
    (hline : (apos.endLine == pos.line) = true)
    (htrees : backTo pos (starEach [elt] env) = [(false, eval elt env)])
    (h : wpJ M A (eval o env) (fun ov s₁ => ∃ D its, ov = .ref D ∧ PlainL s₁.heap D its ∧
      wpJ M A (eval elt env) (fun y s₂ => wpJ M A (call (.builtin "list.append") [.ref D, y]) Q s₂) s₁) s) :
    wpJ M A (eval (.Call (.Attribute o "append" apos) [elt] [] pos) env) Q s := by
  rw [arm_eval_Call, hbase]
  refine wpJ_bind (wpJ_mono h fun ov s₁ h₁ => ?_)
  obtain ⟨D, its, rfl, ⟨ob, n, hob, hc, hd, _⟩, hcall⟩ := h₁
  refine wpJ_at ?_
  have hpos : methodCallPos true o env apos pos = pure pos := by unfold methodCallPos; simp [hline]
  unfold methodCall
  rw [hfew]
  refine wpJ_bind (wpJ_holding (wpJ.of (getMethod_list_append hob hc hd ?_)))
  show wpJ _ _ _ _ _
  rw [hpos]
  refine wpJ_bind (wpJ_pure ?_)
  rw [htrees]
  refine jCallWith1 rfl (jSpliced_cons (wpJ_mono hcall fun y s₂ h₂ => jSpliced_nil ⟨fun q => wpAny_pure q, h₂⟩))
end
variable {prog : Program} {w : World} {G : Heap → Prop} {Z : Addr → Prop}
/-- as TrO; what the own objects hold may lie outside X -/
noncomputable def TrX (prog : Program) (w : World) (G : Heap → Prop) (Z : Addr → Prop) (k : Nat) (env : Env) (O : Addr → Prop) (P : (Addr → Prop) → Heap → Prop) (ρ : Rho) (t : Sem Flow) (f : Fl) (ρ' : Rho) (P' : (Addr → Prop) → Heap → Prop) : Prop :=
  ∀ A, Bud k A → ∀ X h g dr tk o, (∀ b, O b → X b ∧ ¬ Mut env b) → Fok G Z X h env ρ → P X h →
    wpJ (model prog w) A t (Post g dr o (fun b => Mut env b ∨ O b) h fun h' r => f.Is X h' r ∧ Fok G Z X h' env ρ' ∧ P' X h') ⟨h, g, dr, tk, o⟩
noncomputable def StabX (O : Addr → Prop) (P : (Addr → Prop) → Heap → Prop) : Prop := ∀ X S h h', Grow S h h' → (∀ b, S b → ¬ O b) → (∀ b, S b → X b ∨ ∀ o, h.get? b = some o → Bare o) → P X h → P X h'
section
variable {k : Nat} {env : Env} {ρ ρ' ρ'' : Rho} {O : Addr → Prop} {P P' P'' : (Addr → Prop) → Heap → Prop}
theorem TrX.use {t : Sem Flow} {f : Fl} (H : TrX prog w G Z k env O P ρ t f ρ' P') {A : Around} (hA : Bud k A) {X h g dr tk o} (hO : ∀ b, O b → X b ∧ ¬ Mut env b) (F : Fok G Z X h env ρ) (hP : P X h) {Q : Flow → Shared → Prop}
    (q : ∀ h' t' r, Grow (fun b => Mut env b ∨ O b) h h' → f.Is X h' r → Fok G Z X h' env ρ' → P' X h' → Q r ⟨h', g, dr, t', o⟩) : wpJ (model prog w) A t Q ⟨h, g, dr, tk, o⟩ :=
  wpJ_mono (H A hA X h g dr tk o hO F hP) fun v s' ⟨h', t', e, gr, r1, r2, r3⟩ => e ▸ q h' t' v gr r1 r2 r3
theorem TrX.of {t : Sem Flow} {f : Fl} (hs : StabX O P) (H : Tree prog w G Z k env ρ t (Mut env) fun X h r => f.Is X h r ∧ Fok G Z X h env ρ') : TrX prog w G Z k env O P ρ t f ρ' P := by
  intro A hA X h g dr tk o hO F hP
  exact H.use hA F fun h' t' v gr r => ⟨h', t', rfl, gr.mono fun _ => .inl, r.1, r.2, hs _ _ _ _ gr (fun b m q => (hO b q).2 m) (fun b m => .inr (Mut.noSeq F m)) hP⟩
theorem exsX_nil : TrX prog w G Z k env O P ρ (execs [] env) .next ρ P := fun A hA X h g dr tk o hO F hP => jExecs_nil ⟨h, tk, rfl, .refl _ _, rfl, F, hP⟩
theorem exsX_cons {st rest f} (h₁ : TrX prog w G Z k env O P ρ (exec st env) .next ρ' P') (h₂ : TrX prog w G Z k env O P' ρ' (execs rest env) f ρ'' P'') : TrX prog w G Z k env O P ρ (execs (st :: rest) env) f ρ'' P'' := by
  intro A hA X h g dr tk o hO F hP
  refine jExecs_cons (h₁.use hA hO F hP fun h' t' fl g₁ e F' hP' => ?_)
  cases e
  exact h₂.use hA hO F' hP' fun h3 t3 v3 g₃ r₃ F₃ P₃ => ⟨h3, t3, rfl, g₁.trans g₃, r₃, F₃, P₃⟩
theorem TrX.sub {t : Sem Flow} {f : Fl} {ρ2 : Rho} (H : TrX prog w G Z k env O P ρ t f ρ' P') (s : Sub ρ2 ρ') : TrX prog w G Z k env O P ρ t f ρ2 P' := fun A hA X h g dr tk o hO F hP =>
  H.use hA hO F hP fun h' t' r gr fr F' P1 => ⟨h', t', rfl, gr, fr, F'.sub s, P1⟩
theorem ex_forX (W : Glob G Z) {Ps : Nat → (Addr → Prop) → Heap → Prop} {ρs : Nat → Rho} {x : Str} {p : Pos} {iter : Expr} {body : List Stmt} {pos : Pos} {d : D}
    (h₁ : EvS prog w G Z k env (ρs 0) iter d) (hc : CanIter d) (hst : ∀ i, StabX O (Ps i))
    (hb : ∀ i e, (items d)[i]? = some e → TrX prog w G Z k env O (Ps i) (upd (ρs i) x e) (execs body env) .next (ρs (i + 1)) (Ps (i + 1)))
    (hl : env.kindOf x = some .local ∨ env.kindOf x = some .cell := by first | exact .inl rfl | exact .inr rfl) (hf : env.scope.kind = .function := by rfl)
    (hs : ∀ v, foldedSetIterable iter env v = pure v := by intro _; rfl) :
    TrX prog w G Z k env O (Ps 0) (ρs 0) (exec (.For (.Name x p) iter body [] pos) env) .next (ρs (items d).length) (Ps (items d).length) := by
  intro A hA X h g dr tk o hO F hP
  refine jFor (h₁.use hA F fun h1 t1 v g1 r1 => ?_) hs
  have F1 := F.le W g1
  have hP1 : Ps 0 X h1 := hst 0 X no h h1 g1 (fun _ q => q.elim) (fun _ q => q.elim) hP
  refine wpJ.of <| start_iter hA.handled hc r1 fun fp P' St ob T st => ?_
  have nI : ¬ ∃ o, h1.get? h1.objs.size = some o := fun ⟨_, e⟩ => Nat.lt_irrefl _ (Heap.lt_size e)
  have mI : ¬ Mut env h1.objs.size := fun m => let ⟨o', e, _⟩ := Mut.kind F1 m; nI ⟨o', e⟩
  have xI : ¬ X h1.objs.size := fun q => nI (F1.xs _ q)
  have oI : ¬ O h1.objs.size := fun q => xI (hO _ q).1
  have lowI : ¬ Z h1.objs.size := W.fresh h1 F1.g _ (Nat.le_refl _)
  have ft : ∀ b ∈ fp, ¬ (Mut env b ∨ O b) := fun b hb q => by
    rcases T.feet b hb with rfl | ⟨⟨o', e, xs, n, hd⟩, hx⟩
    · exact q.elim mI oI
    · rcases q with q | q
      · obtain ⟨o2, e2, k2⟩ := Mut.kind F1 q
        rw [e] at e2; cases e2
        rcases k2 with ⟨_, _, k2⟩ | ⟨_, k2⟩ <;> (rw [hd] at k2; cases k2)
      · exact hx (hO b q).1
  refine codeJ_forLoop (fun n s => ∃ i H tk', i ≤ (items d).length ∧ n = (items d).length - i ∧ s = ⟨H, g, dr, tk', o⟩ ∧ St i H ∧ Fok G Z X H env (ρs i) ∧ Ps i X H ∧ Grow (fun b => (Mut env b ∨ O b) ∨ b = h1.objs.size) h1 H) ?_ (items d).length
    ⟨0, _, _, Nat.zero_le _, rfl, rfl, st, F1.le W (.push _ _), hst 0 X no h1 _ (.push _ _) (fun _ q => q.elim) (fun _ q => q.elim) hP1, .push _ _⟩
  rintro n s ⟨i, H, tk', hi, rfl, rfl, stH, FH, hPH, gH⟩
  have step : ∀ H1, (∀ b o, b ∉ [h1.objs.size] → H.get? b = some o → H1.get? b = some o) → Fok G Z X H1 env (ρs i) ∧ Ps i X H1 ∧ Grow (fun b => (Mut env b ∨ O b) ∨ b = h1.objs.size) h1 H1 := fun H1 kp => by
    have gI : Grow (fun b => b = h1.objs.size) H H1 := ⟨fun b o' nb e => kp b o' (by simpa using nb) e⟩
    refine ⟨FH.turn W gI (fun b e => e ▸ lowI) (fun b e q => absurd (e ▸ q) xI) (fun b e => ?_), hst i X _ H H1 gI (fun b e q => oI (e ▸ q)) (fun b e => ?_) hPH, gH.trans (gI.mono fun b e => .inr e)⟩
    · obtain ⟨o', e', b1, b2, b3⟩ := T.bare i H stH
      exact ⟨o', e ▸ e', .inr b1, b2, b3⟩
    · obtain ⟨o', e', b1, b2, b3⟩ := T.bare i H stH
      exact .inr fun o2 e2 => by rw [e, e'] at e2; cases e2; exact b1
  by_cases hlt : i < (items d).length
  · refine wpJ.of <| T.walks.item i _ _ _ hlt stH fun v' H1 tk1 hPv stH1 kp => ?_
    obtain ⟨F1', hP1', g1'⟩ := step H1 kp
    obtain ⟨e, he, re⟩ := T.item i v' hPv
    have re' : Rep H1 X e v' := re.grow g1' (fun b q => by
      rcases q with (q | q) | q
      · exact .inr (Mut.noSeq F1 q)
      · exact .inl (hO b q).1
      · exact .inr fun o' e' => absurd ⟨o', q ▸ e'⟩ nI) fun _ _ x => x
    refine jAssignName (store_S W hl hf F1' re' fun H2 t2 g2 F2 => ?_)
    refine (hb i e he).use hA hO F2 (hst i X _ H1 H2 g2 (fun b m q => (hO b q).2 m) (fun b m => .inr (Mut.noSeq F1' m)) hP1') fun H3 t3 r g3 er F3 hP3 => ?_
    cases er
    refine ⟨(items d).length - (i + 1), by omega, i + 1, H3, t3, hlt, rfl, rfl, T.walks.frame (i + 1) H1 H3 stH1 fun b hb' o' e' => ?_, F3, hP3, ?_⟩
    · have g23 : Grow (fun b => Mut env b ∨ O b) H1 H3 := (g2.mono fun _ => .inl).trans g3
      exact g23.get (ft b hb') e' (T.named (i + 1) H1 stH1 b hb' o' e')
    · exact g1'.trans (((g2.mono fun _ => .inl).trans g3).mono fun b q => .inl q)
  · have hi' : i = (items d).length := by omega
    refine wpJ.of <| T.walks.done _ _ _ (hi' ▸ stH) fun H1 tk1 kp => ?_
    obtain ⟨F1', hP1', g1'⟩ := step H1 kp
    refine jExecs_nil ⟨H1, tk1, rfl, ?_, rfl, hi' ▸ F1', hi' ▸ hP1'⟩
    refine ⟨fun b o' nb e => ?_⟩
    have e1 := g1.old b o' (fun x => x) e
    exact g1'.old b o' (fun q => q.elim nb fun q => nI ⟨o', q ▸ e1⟩) e1
/-- a plain list of one's own -/
noncomputable def AccP (a : Addr) (ds : List D) (X : Addr → Prop) (h : Heap) : Prop := ∃ vs, PlainL h a (List.toArray vs) ∧ Reps h X ds vs
theorem stab_accp {a : Addr} {ds : List D} : StabX (fun c => c = a) (AccP a ds) := fun X S h h' g hS hb ⟨vs, ⟨o, n, e, r⟩, rs⟩ =>
  ⟨vs, ⟨o, n, g.old a o (fun q => hS a q rfl) e, r⟩, rs.grow g hb fun _ _ q => q⟩
/-- x.append(e) -/
theorem ex_append (W : Glob G Z) {x xp elt apos pos pos'} {a : Addr} {ds : List D} {d : D} (hx : ρ x = some (.val (.ref a))) (h₁ : EvS prog w G Z k env ρ elt d) (hlow : ¬ Z a) (hz : ds.length ≤ 100000)
    (hl : env.kindOf x = some .local := by rfl) (hf : env.scope.kind = .function := by rfl) (hd : (x == ("__debug__" : Str)) = false := by decide)
    (hbase : attributeBase (.Name x xp) "append" env (eval (.Name x xp) env) = eval (.Name x xp) env := by rfl)
    (hfew : methodCallForm (([elt] : List Expr).length + ([] : List Keyword).length) (backTo pos (starEach [elt] env)) (backToKw pos (keywordEach [] env)) = true := by rfl)
    (hline : (apos.endLine == pos.line) = true := by rfl)
    (htrees : starEach [elt] env = [(false, eval elt env)] := by rfl)
    (hi : interactive env = false := by rfl) (hs : swapsWith (.Call (.Attribute (.Name x xp) "append" apos) [elt] [] pos) none pos'.line env = pure false := by rfl) :
    TrX prog w G Z k env (fun c => c = a) (AccP a ds) ρ (exec (.Expr (.Call (.Attribute (.Name x xp) "append" apos) [elt] [] pos) pos') env) .next ρ (AccP a (ds ++ [d])) := by
  intro A hA X h g dr tk o hO F hP
  refine jExpr_none (jCall_append hbase hfew hline (by rw [htrees]; rfl) ((ev_local hx hl hf hd).use hA F fun h1 t1 v g1 r1 => ?_)) hi hs
  cases r1
  obtain ⟨vs, hv, rv⟩ := hP
  have hv1 : PlainL h1 a vs.toArray := hv.keeps fun b o' e => g1.old b o' (fun q => q) e
  refine ⟨a, _, rfl, hv1, h₁.use hA (F.le W g1) fun h2 t2 v2 g2 r2 => ?_⟩
  have hv2 : PlainL h2 a vs.toArray := hv1.keeps fun b o' e => g2.old b o' (fun q => q) e
  refine wpJ.of (list_append_plainL hv2 (fun h3 hl3 hs3 => ?_) (by have := rv.length; simp only [List.size_toArray, sizeLine]; omega))
  have g12 := g1.trans g2
  have g3 : Grow (fun c => c = a) h2 h3 := .same hs3 rfl
  have F2 := F.le W g12
  obtain ⟨oa, n, hoa, _, _, hda⟩ := id hv2
  refine ⟨rfl, h3, t2, rfl, (Grow.any g12).trans (g3.mono fun _ => .inr), rfl, F2.turn W g3 (fun c e => e ▸ hlow) (fun c e _ => let ⟨o3, _, e3, _⟩ := hl3; ⟨o3, e ▸ e3⟩) (fun c e => ⟨oa, e ▸ hoa, .inl (hO c e).1, (fun _ _ q => by rw [hda] at q; cases q), (fun _ q => by rw [hda] at q; cases q)⟩), vs ++ [v2], by simpa using hl3, ?_⟩
  exact ((rv.le g12).append (show Reps h2 X [d] [v2] from ⟨v2, [], rfl, r2, rfl⟩)).grow g3 (fun c e => .inl (hO c e).1) fun _ _ q => q
end
end Mine
end
noncomputable section
open PySem PySem.W PySem.Calls PyProof.Rows
set_option Elab.async false
set_option linter.unusedVariables false
set_option maxRecDepth 100000
namespace Mine
variable {prog : Program} {w : World} {G : Heap → Prop} {Z : Addr → Prop}
section
variable {k : Nat} {env : Env} {ρ ρ' ρ'' : Rho}
/-- what was set apart is let go: it is a datum now -/
theorem Fok.release (W : Glob G Z) {X h} {y : Str} {a : Addr} {ds : List D} (F : Fok G Z (fun b => X b ∨ b = a) h env ρ) (hy : ρ y = some (.val (.ref a))) (hl : env.kindOf y = some .local) (ac : AccP a ds (fun b => X b ∨ b = a) h) (na : ¬ X a) :
    Fok G Z X h env (upd ρ y (.lst ds)) := by
  have F' : Fok G Z X h env ρ := F.more W (.refl _ _) (fun b _ q => .inl q) fun b q => F.xs b (.inl q)
  refine { F' with loc := ?_, cel := ?_ }
  · obtain ⟨m, n, q⟩ := F'.loc
    refine ⟨m, n, fun z d e kz => ?_⟩
    by_cases hz : z = y
    · subst hz
      unfold upd at e
      rw [if_pos rfl] at e
      cases e
      obtain ⟨v, hv, r⟩ := q z _ hy hl
      have r' : v = .ref a := r
      obtain ⟨vs, hp, rs⟩ := ac
      exact ⟨v, hv, a, vs, r', na, hp.isList, rs.grow (.refl no _) (fun _ q => q.elim) fun _ _ q => .inl q⟩
    · unfold upd at e
      rw [if_neg hz] at e
      exact q z d e kz
  · intro z d e kz
    have hz : z ≠ y := fun q => kz (q ▸ hl)
    unfold upd at e
    rw [if_neg hz] at e
    exact F'.cel z d e kz
/-- x, y = (e, []); then y is filled; then it is a list as any other -/
theorem exs_make (W : Glob G Z) {x y : Str} {px py n tpos e1 lp c vpos pos lst rest f} {d1 : D} {ρ1 : Addr → Rho} {ds : List D}
    (h₁ : EvS prog w G Z k env ρ e1 d1)
    (H : ∀ a, ¬ Z a → TrX prog w G Z k env (fun c => c = a) (AccP a []) (upd (upd ρ y (.val (.ref a))) x d1) (exec lst env) .next (ρ1 a) (AccP a ds))
    (hy : ∀ a, ρ1 a y = some (.val (.ref a)))
    (K : ∀ a, ExsS prog w G Z k env (upd (ρ1 a) y (.lst ds)) rest f ρ'')
    (hw : swappedStores [.Tuple [.Name x px, .Name y py] n tpos] (.Tuple [e1, .List [] lp] c vpos) env = pure (some [x, y]) := by rfl)
    (hse : starEach [e1, .List [] lp] env = [(false, eval e1 env), (false, eval (.List [] lp) env)] := by rfl)
    (hlx : env.kindOf x = some .local := by rfl) (hly : env.kindOf y = some .local := by rfl) (hf : env.scope.kind = .function := by rfl)
    (hs : swapsWithSole [.Tuple [.Name x px, .Name y py] n tpos] (.Tuple [e1, .List [] lp] c vpos) pos.line env = pure false := by rfl) :
    ExsS prog w G Z k env ρ (.Assign [.Tuple [.Name x px, .Name y py] n tpos] (.Tuple [e1, .List [] lp] c vpos) pos :: lst :: rest) f ρ'' := by
  intro A hA X h g dr tk o F
  refine jExecs_cons ?_
  rw [exec_Assign]
  refine wpJ_at ?_
  rw [hs]
  refine wpJ_bind (wpJ_pure ?_)
  rw [if_neg (by decide)]
  refine wpJ_bind (jTuple ?_)
  rw [hse]
  refine jSpliced_cons (h₁.use hA F fun h1 t1 v1 g1 r1 => jSpliced_cons (jList (jSpliced_nil (wpJ.of (wpAny_newObj_type (jSpliced_nil (wpJ.of (wpAny_newObj_type ?_ (by size_fits)))) (by size_fits))))))
  rw [hw]
  refine wpJ_bind (wpJ_pure ?_)
  show wpJ _ A (do rule "assign.swapped-stores"; let items ← unpackItems _ 2 none; assignInOrder ([y, x].map fun n => bindName env n) items.reverse; pure Flow.next) _ _
  refine wpJ_bind (wpJ.of (wpAny_rule (wpJ_bind ?_)))
  generalize hH : (h1.push { cls := .type "list", data := .seq ([] : List Value).toArray }) = h2
  have F1 := F.le W g1
  have g2 : Le h1 h2 := hH ▸ .push _ _
  have hL : h2.get? h1.objs.size = some { cls := .type "list", data := .seq ([] : List Value).toArray } := hH ▸ Heap.get?_push_size _ rfl
  have g3 : Le h2 (h2.push { cls := .type "tuple", data := .seq ([v1, .ref h1.objs.size] : List Value).toArray }) := .push _ _
  refine wpJ.of (unpackItems_tuple hA.handled (items := ([v1, .ref h1.objs.size] : List Value).toArray) ⟨_, Heap.get?_push_size _ rfl, rfl, _, rfl⟩ fun h4 e4 => ?_)
  have g4 := Le.extBut e4
  have g14 : Le h1 h4 := (g2.trans g3).trans g4
  have g24 : Le h2 h4 := g3.trans g4
  have hL4 := g24.get (fun q => q) hL (fun q => nomatch q)
  generalize ha : h1.objs.size = a at *
  have nal : ¬ ∃ o, h1.get? a = some o := fun ⟨_, e⟩ => Nat.lt_irrefl _ (ha ▸ Heap.lt_size e)
  have hne : ∀ b, b < h1.objs.size → b ≠ a := fun b hb e => by
    have e1 := aeq e
    have e2 := aeq ha
    have e3 : @LT.lt Nat _ b h1.objs.size := hb
    omega
  have hX : ∀ b, b < h1.objs.size → (X b ∨ b = a) → X b := fun b hb q => q.elim id fun q => absurd q (hne b hb)
  have F4 : Fok G Z (fun b => X b ∨ b = a) h4 env ρ := F1.more W g14 hX (fun b q => q.elim (fun q => (F1.xs.le g14) b q) fun q => q ▸ ⟨_, hL4⟩)
  have low : ¬ Z a := W.fresh h1 F1.g _ (ha ▸ Nat.le_refl _)
  have nM : ¬ Mut env a := fun m => let ⟨o', e, _⟩ := Mut.kind F1 m; nal ⟨o', e⟩
  have nX : ¬ X a := fun q => nal (F1.xs _ q)
  refine wpJ_bind (stores W hf (.bind (.bind .nil)) (by intro z hz; simp at hz; rcases hz with rfl | rfl <;> first | exact .inl hly | exact .inl hlx) F4 (ds := [.val (.ref a), d1]) ⟨_, _, rfl, rfl, _, _, rfl, r1.grow g14 (fun _ q => q.elim) hX, rfl⟩ rfl fun h5 t5 g5 F5 => wpJ_pure ?_)
  refine jExecs_cons ((H a low).use hA (fun b q => ⟨.inr q, q ▸ nM⟩) F5 (stab_accp _ (Mut env) h4 h5 g5 (fun b m e => nM (e ▸ m)) (fun b m => .inr (Mut.noSeq F4 m)) ⟨[], ⟨_, 0, hL4, rfl, rfl, rfl⟩, rfl⟩) fun h6 t6 r6 g6 er F6 P6 => ?_)
  cases er
  refine (K a).use hA (Fok.release W F6 (hy a) hly P6 nX) fun h8 t8 r8 g8 fr => ⟨h8, t8, rfl, ?_, fr⟩
  exact Grow.cut g1 ((Grow.any g14).trans ((g5.mono fun _ => .inl).trans (g6.trans (g8.mono fun _ => .inl)))) fun b e => e ▸ nal
end
end Mine
end
noncomputable section
open PySem PySem.W PySem.W.X PyProof.Rows
set_option Elab.async false
set_option linter.unusedVariables false
set_option maxRecDepth 100000
namespace Mine
theorem trDs_eq : ∀ l : List TR, trDs l = l.map trD
  | [] => by simp [trDs]
  | x :: r => by simp [trDs, trDs_eq r]
noncomputable def manyI (n : Int) : Nat := if n.fmod 4 = 2 then 2 else if n.fmod 4 = 3 then 3 else 0
noncomputable def mkWords (b w c : Nat) : List (List Nat) := (List.range c).map fun i => (List.range w).map fun j => b + i * w + j
noncomputable def widI (n : Int) : Nat := ((n.fdiv 4).fmod 3).toNat + 1
noncomputable def cntI (n : Int) : Nat := (((n.fdiv 4).fdiv 3).fmod 2).toNat + 1
noncomputable def step (s : List TR × Nat) (n : Int) : List TR × Nat :=
  if 0 < manyI n ∧ manyI n ≤ s.1.length then (s.1.take (s.1.length - manyI n) ++ [.block ((n.fdiv 4).fmod 2 == 1) (s.1.drop (s.1.length - manyI n))], s.2)
  else (s.1 ++ [.leaf (((n.fdiv 4).fdiv 6).fmod 2 == 1) (mkWords s.2 (widI n) (cntI n))], s.2 + cntI n * widI n)
noncomputable def stAt (ns : List Int) (i : Nat) : List TR × Nat := (ns.take i).foldl step ([], 0)
noncomputable def mkTree (ns : List Int) : TR := .block (((ns.headD 0).fdiv 48).fmod 2 == 1) (stAt ns ns.length).1
theorem stAt_succ {ns : List Int} {i : Nat} {n : Int} (h : ns[i]? = some n) : stAt ns (i + 1) = step (stAt ns i) n := by
  unfold stAt
  rw [List.take_add_one, h, List.foldl_append]
  rfl
theorem many_at (n : Int) : ([.int 0, .int 0, .int 2, .int 3] : List D)[(n.fmod 4).toNat]? = some (.int ((manyI n : Nat) : Int)) := by
  obtain ⟨h1, h2⟩ := fmod_nn n 4 (by decide)
  have h3 : n.fmod 4 = 0 ∨ n.fmod 4 = 1 ∨ n.fmod 4 = 2 ∨ n.fmod 4 = 3 := by
    have a1 : 0 ≤ n.fmod 4 := h1
    have a2 : n.fmod 4 < 4 := h2
    omega
  unfold manyI
  rcases h3 with h | h | h | h <;> (rw [h]; rfl)
theorem tdeps_app : ∀ l m : List TR, tdeps (l ++ m) = max (tdeps l) (tdeps m)
  | [], m => by simp [tdeps]
  | x :: r, m => by have := tdeps_app r m; simp only [List.cons_append, tdeps]; omega
theorem tcnts_app : ∀ l m : List TR, tcnts (l ++ m) = tcnts l + tcnts m
  | [], m => by simp [tcnts]
  | x :: r, m => by have := tcnts_app r m; simp only [List.cons_append, tcnts]; omega
theorem tlens_app : ∀ l m : List TR, tlens (l ++ m) = tlens l + tlens m
  | [], m => by simp [tlens]
  | x :: r, m => by have := tlens_app r m; simp only [List.cons_append, tlens]; omega
theorem toks_app : ∀ l m : List TR, toks (l ++ m) ↔ toks l ∧ toks m
  | [], m => by simp [toks]
  | x :: r, m => by have := toks_app r m; simp only [List.cons_append, toks, this]; exact and_assoc.symm
theorem mkWords_len {b w c : Nat} : (mkWords b w c).length = c := by simp [mkWords]
theorem mkWords_mem {b w c : Nat} {x : List Nat} (h : x ∈ mkWords b w c) : x.length = w := by
  simp only [mkWords, List.mem_map] at h
  obtain ⟨i, _, rfl⟩ := h
  simp
theorem wsum_mk {b w : Nat} : ∀ c : Nat, wsum (mkWords b w c) = c * w := by
  intro c
  unfold wsum mkWords
  rw [List.map_map]
  have : (List.length ∘ fun i => (List.range w).map fun j => b + i * w + j) = fun _ => w := by funext i; simp
  rw [this]
  induction c with
  | zero => simp
  | succ c ih => rw [List.range_succ, List.map_append, List.sum_append_nat, ih]; simp [Nat.succ_mul]
theorem widI_le (n : Int) : 1 ≤ widI n ∧ widI n ≤ 3 := by
  obtain ⟨h1, h2⟩ := fmod_nn (n.fdiv 4) 3 (by decide)
  have a1 : 0 ≤ (n.fdiv 4).fmod 3 := h1
  have a2 : (n.fdiv 4).fmod 3 < 3 := h2
  unfold widI; omega
theorem cntI_le (n : Int) : 1 ≤ cntI n ∧ cntI n ≤ 2 := by
  obtain ⟨h1, h2⟩ := fmod_nn ((n.fdiv 4).fdiv 3) 2 (by decide)
  have a1 : 0 ≤ ((n.fdiv 4).fdiv 3).fmod 2 := h1
  have a2 : ((n.fdiv 4).fdiv 3).fmod 2 < 2 := h2
  unfold cntI; omega
structure SInv (i : Nat) (s : List TR × Nat) : Prop where
  len : s.1.length ≤ i
  dep : tdeps s.1 ≤ i
  cnt : tcnts s.1 ≤ i
  lay : tlens s.1 = s.2
  sum : s.2 ≤ 6 * i
  ok : toks s.1
theorem SInv.step {i : Nat} {s : List TR × Nat} (I : SInv i s) (hi : i ≤ 50) (n : Int) : SInv (i + 1) (step s n) := by
  obtain ⟨l1, l2, l3, l4, l5, l6⟩ := I
  unfold Mine.step
  split
  · next h =>
    obtain ⟨h1, h2⟩ := h
    generalize hm : s.1.length - manyI n = m
    have e := List.take_append_drop m s.1
    have d1 := tdeps_app (s.1.take m) (s.1.drop m)
    have c1 := tcnts_app (s.1.take m) (s.1.drop m)
    have t1 := tlens_app (s.1.take m) (s.1.drop m)
    have o1 := toks_app (s.1.take m) (s.1.drop m)
    rw [e] at d1 c1 t1 o1
    have o2 := o1.mp l6
    have ld : (s.1.drop m).length ≤ 100 := by rw [List.length_drop]; omega
    refine ⟨?_, ?_, ?_, ?_, ?_, ?_⟩
    · rw [List.length_append, List.length_take]; show _ + 1 ≤ _; omega
    · rw [tdeps_app]; simp only [tdeps, tdep]; omega
    · rw [tcnts_app]; simp only [tcnts, tcnt]; omega
    · rw [tlens_app]; simp only [tlens, tlen]; omega
    · show s.2 ≤ _; omega
    · rw [toks_app]; refine ⟨o2.1, ?_⟩
      simp only [toks, tok]; exact ⟨⟨ld, o2.2⟩, trivial⟩
  · obtain ⟨w1, w2⟩ := widI_le n
    obtain ⟨c1, c2⟩ := cntI_le n
    have hs := wsum_mk (b := s.2) (w := widI n) (cntI n)
    have hp : cntI n * widI n ≤ 2 * 3 := Nat.mul_le_mul c2 w2
    refine ⟨?_, ?_, ?_, ?_, ?_, ?_⟩
    · rw [List.length_append]; show _ + 1 ≤ _; omega
    · rw [tdeps_app]; simp only [tdeps, tdep]; omega
    · rw [tcnts_app]; simp only [tcnts, tcnt]; omega
    · rw [tlens_app]; simp only [tlens, tlen]; unfold wsum at hs; rw [hs]; omega
    · show s.2 + _ ≤ _; omega
    · rw [toks_app]; refine ⟨l6, ?_⟩
      simp only [toks, tok]
      refine ⟨⟨?_, by rw [mkWords_len]; omega, fun x hx => by rw [mkWords_mem hx]; omega⟩, trivial⟩
      intro q
      have := congrArg List.length q
      rw [mkWords_len] at this
      simp at this
      omega
theorem sinv_at (ns : List Int) (hn : ns.length ≤ 50) : ∀ i, i ≤ ns.length → SInv i (stAt ns i)
  | 0, _ => ⟨by simp [stAt], by simp [stAt, tdeps], by simp [stAt, tcnts], by simp [stAt, tlens], by simp [stAt], by simp [stAt, toks]⟩
  | i + 1, h => by
    have e : ns[i]? = some (ns[i]'(by omega)) := List.getElem?_eq_getElem _
    rw [stAt_succ e]
    exact (sinv_at ns hn i (by omega)).step (by omega) _
theorem mkTree_ok (ns : List Int) (hn : ns.length ≤ 8) : tok (mkTree ns) ∧ tdep (mkTree ns) ≤ 9 ∧ tcnt (mkTree ns) ≤ 9 ∧ tlen (mkTree ns) ≤ 48 := by
  obtain ⟨l1, l2, l3, l4, l5, l6⟩ := sinv_at ns (by omega) ns.length (Nat.le_refl _)
  unfold mkTree
  refine ⟨?_, ?_, ?_, ?_⟩
  · unfold tok; exact ⟨by omega, l6⟩
  · unfold tdep; omega
  · unfold tcnt; omega
  · unfold tlen; omega
theorem clip_neg {n m : Nat} (h1 : 0 < m) (h2 : m ≤ n) : clipAt n (-(m : Int)) = n - m := by
  unfold clipAt
  rw [if_pos (by omega), show -(m : Int) + (n : Int) = ((n - m : Nat) : Int) by omega]
  rw [Int.min_eq_left (by omega), Int.max_eq_right (by omega)]
  exact Int.toNat_natCast _
theorem cut_head {α : Type} (l : List α) {m : Nat} (h1 : 0 < m) (h2 : m ≤ l.length) : cutL l none (some (-(m : Int))) = l.take (l.length - m) := by
  unfold cutL
  simp only [Option.elim, clip_neg h1 h2, List.drop_zero, Nat.sub_zero]
theorem cut_tail {α : Type} (l : List α) {m : Nat} (h1 : 0 < m) (h2 : m ≤ l.length) : cutL l (some (-(m : Int))) none = l.drop (l.length - m) := by
  unfold cutL
  simp only [Option.elim, clip_neg h1 h2]
  exact List.take_of_length_le (by rw [List.length_drop]; omega)
end Mine
end
noncomputable section
open PySem PySem.W PySem.W.X PyProof.Rows
set_option Elab.async false
set_option linter.unusedVariables false
set_option maxRecDepth 100000
namespace Mine
variable {prog : Program} {w : World} {G : Heap → Prop} {Z : Addr → Prop}
theorem TrX.pre {k env O P P'} {ρ ρ' ρ'' : Rho} {t : Sem Flow} {f : Fl} (H : TrX prog w G Z k env O P ρ t f ρ' P') (s : Sub ρ ρ'') : TrX prog w G Z k env O P ρ'' t f ρ' P' := fun A hA X h g dr tk o hO F hP => H A hA X h g dr tk o hO (F.sub s) hP
theorem TrX.to {k env O P P' P2} {ρ ρ' : Rho} {t : Sem Flow} {f : Fl} (H : TrX prog w G Z k env O P ρ t f ρ' P') (e : P' = P2) : TrX prog w G Z k env O P ρ t f ρ' P2 := e ▸ H
theorem ex_forXN (W : Glob G Z) {k env} {O : Addr → Prop} {Ps : Nat → (Addr → Prop) → Heap → Prop} {ρs : Nat → Rho} {x : Str} {p : Pos} {iter : Expr} {body : List Stmt} {pos : Pos} {d : D} {N : Nat} (hN : (items d).length = N)
    (h₁ : EvS prog w G Z k env (ρs 0) iter d) (hc : CanIter d) (hst : ∀ i, StabX O (Ps i))
    (hb : ∀ i e, (items d)[i]? = some e → TrX prog w G Z k env O (Ps i) (upd (ρs i) x e) (execs body env) .next (ρs (i + 1)) (Ps (i + 1)))
    (hl : env.kindOf x = some .local ∨ env.kindOf x = some .cell := by first | exact .inl rfl | exact .inr rfl) (hf : env.scope.kind = .function := by rfl)
    (hs : ∀ v, foldedSetIterable iter env v = pure v := by intro _; rfl) :
    TrX prog w G Z k env O (Ps 0) (ρs 0) (exec (.For (.Name x p) iter body [] pos) env) .next (ρs N) (Ps N) := hN ▸ ex_forX W h₁ hc hst hb hl hf hs
theorem call_map (f : Nat → Nat) (l : List Nat) : (l.map f).map (fun (n : Nat) => D.int (n : Int)) = l.map fun i => D.int ((f i : Nat) : Int) := by rw [List.map_map]; rfl
noncomputable def tB (ns : List Int) : Rho := bindR ["numbers"] [.lst (ns.map D.int)] nil
noncomputable def tR (ns : List Int) (i : Nat) : Rho := upd (upd (tB ns) "pieces" (.lst (trDs (stAt ns i).1))) "behind" (.int ((stAt ns i).2 : Int))
noncomputable def tL (ns : List Int) (i : Nat) (n : Int) : Rho := upds (upd (tR ns i) "n" (.int n)) ["q", "many"] [.int (n.fdiv 4), .int (manyI n : Int)]
noncomputable def tW (ns : List Int) (i : Nat) (n : Int) (a : Addr) (j : Nat) : Rho := upd (upd (upd (tL ns i n) "words" (.val (.ref a))) "width" (.int (widI n : Int))) "behind" (.int (((stAt ns i).2 + j * widI n : Nat) : Int))
set_option maxHeartbeats 4000000 in
theorem tree_call (W : Glob G Z) (P : Params) (hfn : FnOk G 42 (fnOf (hd01.heap_1 P) 42)) (g1 : GV G "len" (.builtin "len")) (g2 : GV G "range" (.type "range")) :
    ∀ (ns : List Int), ns ≠ [] → ns.length ≤ 8 → CallS prog w G 31 (.ref 42) [.lst (ns.map D.int)] (trD (mkTree ns)) := by
  intro ns hne hlen
  refine call_fn' (k := 30) W hfn rfl rfl (names := ["numbers"]) (fun vs hv => by obtain ⟨a, rfl⟩ := len1 hv; rfl) ?_ (fun L hL => ?_) rfl rfl rfl
  · intro x hx
    simp at hx
    subst hx
    exact .inl rfl
  conv in (fnOf _ _) => whnf
  show RetS _ _ _ _ _ _ (tB ns) _ _
  have e0 : tR ns 0 = upds (tB ns) ["pieces", "behind"] [.lst [], .int 0] := by
    unfold tR; simp [stAt, trDs]; rfl
  refine ret_cons (ρ' := tR ns 0) (by
    rw [e0]
    exact ex_unpack W (ev_tuple W (evs_cons W (ev_list W evs_nil) (evs_cons W ev_int evs_nil))) (.name (.name .nil)) rfl (by intro x hx; simp at hx; rcases hx with rfl | rfl <;> first | exact .inl rfl | exact .inr rfl)) ?_
  refine ret_cons (ex_for W (ρs := tR ns) (d := .lst (ns.map D.int)) (N := ns.length) (by rw [items_lst, List.length_map]) (ev_local rfl) trivial (fun i e he => ?_)) ?_
  · rw [items_lst] at he
    simp only [List.getElem?_map, Option.map_eq_some_iff] at he
    obtain ⟨n, hn, rfl⟩ := he
    have hi : i < ns.length := (List.getElem?_eq_some_iff.mp hn).1
    obtain ⟨l1, l2, l3, l4, l5, l6⟩ := sinv_at ns (by omega) i (by omega)
    obtain ⟨q1, q2⟩ := fmod_nn n 4 (by decide)
    have es := stAt_succ hn
    refine exs_cons (ρ' := tL ns i n) (ex_unpack_swap (xs := ["many", "q"]) (ds := [.int (manyI n : Int), .int (n.fdiv 4)]) W (ev_tuple W (evs_cons W (ev_sub W (ev_list W (evs_cons W ev_int (evs_cons W ev_int (evs_cons W ev_int (evs_cons W ev_int evs_nil))))) (ev_bin W (ev_local rfl) ev_int (bin_mod (by decide))) (sub_list q1 (many_at n) (by decide))) (evs_cons W (ev_bin W (ev_local rfl) ev_int (bin_div (by decide) (by decide))) evs_nil))) rfl (.bind (.bind .nil)) rfl (by intro x hx; simp at hx; rcases hx with rfl | rfl <;> exact .inl rfl)) ?_
    refine exs_cons (ex_if W (test_and W (test_cmp W (ev_local rfl) ev_int cmp_gt) (fun _ => test_cmp W (ev_call W (ev_global g1) (.inl ⟨_, rfl⟩) (evs_cons W (ev_local rfl) evs_nil) (call_len_list (by rw [trDs_len]; omega))) (ev_local rfl) cmp_ge)) (fun e => ?_) (fun e => ?_)) exs_nil
    · rw [trDs_len] at e
      simp only [Bool.and_eq_true, decide_eq_true_eq] at e
      have c1 : 0 < manyI n := by omega
      have c2 : manyI n ≤ (stAt ns i).1.length := by omega
      have c2' : manyI n ≤ (trDs (stAt ns i).1).length := by rw [trDs_len]; exact c2
      refine Tree.sub (exs_cons (ex_assign W (ev_bin W (ev_cut_list W (ev_local rfl) part_none (part_some (ev_neg W (ev_local rfl))) (by rw [trDs_len]; omega)) (ev_list W (evs_cons W (ev_tuple W (evs_cons W (ev_cmp W (ev_bin W (ev_local rfl) ev_int (bin_mod (by decide))) ev_int cmp_eq) (evs_cons W (ev_cut_list W (ev_local rfl) (part_some (ev_neg W (ev_local rfl))) part_none (by rw [trDs_len]; omega)) (evs_cons W (ev_list W evs_nil) evs_nil)))) evs_nil)) (bin_list (by rw [cut_head _ c1 c2', List.length_take, trDs_len]; simp only [List.length_cons, List.length_nil]; omega)))) exs_nil) ?_
      rw [cut_head _ c1 c2', cut_tail _ c1 c2', trDs_len]
      intro z d q
      unfold tR at q
      rw [es] at q
      unfold step at q
      rw [if_pos ⟨c1, c2⟩] at q
      by_cases h1 : z = "behind"
      · subst h1
        exact q
      · by_cases h2 : z = "pieces"
        · subst h2
          have q' : some (D.lst (trDs ((stAt ns i).1.take ((stAt ns i).1.length - manyI n) ++ [TR.block ((n.fdiv 4).fmod 2 == 1) ((stAt ns i).1.drop ((stAt ns i).1.length - manyI n))]))) = some d := q
          rw [trDs_eq, List.map_append, List.map_take] at q'
          rw [← q']
          unfold upd
          rw [if_pos rfl]
          rw [trDs_eq, ← List.map_drop, ← trDs_eq ((stAt ns i).1.drop _)]
          simp [trD, trDs_eq]
        · by_cases h3 : z = "n"
          · subst h3; exact nomatch (show (none : Option D) = some d from q)
          · by_cases h4 : z = "q"
            · subst h4; exact nomatch (show (none : Option D) = some d from q)
            · by_cases h5 : z = "many"
              · subst h5; exact nomatch (show (none : Option D) = some d from q)
              · unfold tL upds upds upds tR upd
                unfold upd at q
                simp only [if_neg h1, if_neg h2, if_neg h3, if_neg h4, if_neg h5] at q ⊢
                exact q
    · rw [trDs_len] at e
      have c0 : ¬ (0 < manyI n ∧ manyI n ≤ (stAt ns i).1.length) := fun ⟨c1, c2⟩ => by
        simp only [Bool.and_eq_false_imp, decide_eq_true_eq, decide_eq_false_iff_not] at e
        exact e (by omega) (by omega)
      obtain ⟨w1, w2⟩ := widI_le n
      obtain ⟨k1, k2⟩ := cntI_le n
      obtain ⟨m1, m2⟩ := fmod_nn (n.fdiv 4) 3 (by decide)
      obtain ⟨m3, m4⟩ := fmod_nn ((n.fdiv 4).fdiv 3) 2 (by decide)
      refine exs_make W (d1 := .int (widI n : Int)) (ρ1 := fun a => tW ns i n a (cntI n)) (ds := (mkWords (stAt ns i).2 (widI n) (cntI n)).map wordD) (EvS.int (ev_bin W (ev_bin W (ev_local rfl) ev_int (bin_mod (by decide))) ev_int bin_add) (by unfold widI; have : 0 ≤ (n.fdiv 4).fmod 3 := m1; omega)) (fun a la => ?_) (fun a => rfl) (fun a => Tree.sub (exs_cons (ex_assign W (ev_bin W (ev_local rfl) (ev_list W (evs_cons W (ev_tuple W (evs_cons W (ev_cmp W (ev_bin W (ev_bin W (ev_local rfl) ev_int (bin_div (by decide) (by decide))) ev_int (bin_mod (by decide))) ev_int cmp_eq) (evs_cons W (ev_list W evs_nil) (evs_cons W (ev_local rfl) evs_nil)))) evs_nil)) (bin_list (by rw [trDs_len]; simp only [List.length_cons, List.length_nil]; omega)))) exs_nil) ?_)
      · refine TrX.pre (TrX.to (ex_forXN W (N := cntI n) (Ps := fun j => AccP a ((mkWords (stAt ns i).2 (widI n) j).map wordD)) (ρs := tW ns i n a) (d := .range 0 (cntI n : Int) 1) range_len (ev_call W (ev_global g2) (.inr (.inl ⟨_, rfl⟩)) (evs_cons W (EvS.int (ev_bin W (ev_bin W (ev_bin W (ev_local rfl) ev_int (bin_div (by decide) (by decide))) ev_int (bin_mod (by decide))) ev_int bin_add) (by unfold cntI; have : 0 ≤ ((n.fdiv 4).fdiv 3).fmod 2 := m3; omega)) evs_nil) call_range1) (can_range1 (by omega) (by omega)) (fun j => stab_accp) (fun j e he => ?_)) rfl) ?_
        · obtain ⟨hj, rfl⟩ := range_at he
          have hb : j * widI n ≤ 2 * 3 := Nat.mul_le_mul (by omega) w2
          refine TrX.to (TrX.sub (exsX_cons (ex_append W (d := wordD ((List.range (widI n)).map fun t => (stAt ns i).2 + j * widI n + t)) rfl ?_ la (by rw [List.length_map, mkWords_len]; omega)) (exsX_cons (TrX.of stab_accp (ex_aug W (fun pos => ev_cell rfl) (ev_local rfl) inp_add)) exsX_nil)) ?_) ?_
          · refine EvS.eq (ev_comp W (d := .range 0 (widI n : Int) 1) (cl := [("behind", L + 1)]) (ρc := upd nil "behind" (.int (((stAt ns i).2 + j * widI n : Nat) : Int))) (out := (List.range (widI n)).map fun t => D.int (((stAt ns i).2 + j * widI n + t : Nat) : Int)) (outs := fun t => [.int (((stAt ns i).2 + j * widI n + t : Nat) : Int)]) (b := fun _ => true) ⟨by kernel_rfl, comp_cell (by decide +kernel), rfl, comp_names (by decide +kernel), ⟨rfl, trivial⟩, ⟨(fun q => nomatch q), (fun q => nomatch q), (fun _ => rfl), trivial⟩, All.nil.upd ⟨rfl, ne_loc (k := .cell) rfl rfl, ne_loc (k := .cell) (by kernel_rfl) rfl, rfl⟩⟩ (ev_call W (ev_global g2) (.inr (.inl ⟨_, rfl⟩)) (evs_cons W (ev_local rfl) evs_nil) call_range1) (can_range1 (by omega) (by omega)) ?_ ?_ rfl (by kernel_rfl) (fun C i e he => tests_nil) (fun C t e he _ => ?_) (fun i q => nomatch q)) ?_
            · rw [range_len]; exact flat_one (fun t => D.int (((stAt ns i).2 + j * widI n + t : Nat) : Int)) _
            · rw [List.length_map, List.length_range]; omega
            · obtain ⟨ht, rfl⟩ := range_at he
              exact .emit (EvS.int (ev_bin W (ev_cell rfl) (ev_local rfl) bin_add) (by omega))
            · unfold wordD; rw [call_map]
          · intro z d q
            unfold tW at q
            by_cases h1 : z = "behind"
            · subst h1
              have q' : some (D.int (((stAt ns i).2 + (j + 1) * widI n : Nat) : Int)) = some d := q
              rw [← q']
              show some (D.int ((((stAt ns i).2 + j * widI n : Nat) : Int) + (widI n : Int))) = _
              rw [Nat.succ_mul]
              congr 2
              omega
            · by_cases h2 : z = "k"
              · subst h2; exact nomatch (show (none : Option D) = some d from q)
              · unfold tW upd
                unfold upd at q
                simp only [if_neg h1, if_neg h2] at q ⊢
                exact q
          · have : mkWords (stAt ns i).2 (widI n) (j + 1) = mkWords (stAt ns i).2 (widI n) j ++ [(List.range (widI n)).map fun t => (stAt ns i).2 + j * widI n + t] := by
              unfold mkWords; rw [List.range_succ, List.map_append]; rfl
            rw [this, List.map_append]; rfl
        · intro z d q
          unfold tW at q
          by_cases h1 : z = "behind"
          · subst h1
            have q' : some (D.int (((stAt ns i).2 + 0 * widI n : Nat) : Int)) = some d := q
            rw [Nat.zero_mul, Nat.add_zero] at q'
            exact q'
          · unfold upd at q ⊢
            simp only [if_neg h1] at q ⊢
            exact q
      · intro z d q
        unfold tR at q
        rw [es] at q
        unfold step at q
        rw [if_neg c0] at q
        by_cases h1 : z = "behind"
        · subst h1
          exact q
        · by_cases h2 : z = "pieces"
          · subst h2
            have q' : some (D.lst (trDs ((stAt ns i).1 ++ [TR.leaf (((n.fdiv 4).fdiv 6).fmod 2 == 1) (mkWords (stAt ns i).2 (widI n) (cntI n))]))) = some d := q
            rw [← q']
            unfold upd
            rw [if_pos rfl]
            simp [trD, trDs_eq]
          · by_cases h3 : z = "n"
            · subst h3; exact nomatch (show (none : Option D) = some d from q)
            · by_cases h4 : z = "q"
              · subst h4; exact nomatch (show (none : Option D) = some d from q)
              · by_cases h5 : z = "many"
                · subst h5; exact nomatch (show (none : Option D) = some d from q)
                · by_cases h6 : z = "words"
                  · subst h6; exact nomatch (show (none : Option D) = some d from q)
                  · by_cases h7 : z = "width"
                    · subst h7; exact nomatch (show (none : Option D) = some d from q)
                    · unfold tW tL upds upds upds tR upd
                      unfold upd at q
                      simp only [if_neg h1, if_neg h2, if_neg h3, if_neg h4, if_neg h5, if_neg h6, if_neg h7] at q ⊢
                      exact q
  · have h0 : (ns.map D.int)[0]? = some (.int (ns.headD 0)) := by
      cases ns with
      | nil => exact absurd rfl hne
      | cons a r => rfl
    unfold mkTree
    rw [trD]
    exact ret_ret W (ev_tuple W (evs_cons W (ev_cmp W (ev_bin W (ev_bin W (ev_sub W (ev_local rfl) ev_int (sub_list (d := .int (ns.headD 0)) (by decide) h0 (by rw [List.length_map]; omega))) ev_int (bin_div (by decide) (by decide))) ev_int (bin_mod (by decide))) ev_int cmp_eq) (evs_cons W (ev_local rfl) (evs_cons W (ev_list W evs_nil) evs_nil))))
end Mine
end
noncomputable section
set_option Elab.async false
set_option linter.unusedVariables false
namespace Mine
noncomputable def mi (wd k : Nat) : Nat := k / wd * wd + (wd - 1 - k % wd)
/-- each of m words of width wd turned about -/
noncomputable def wrev {α : Type} (wd : Nat) : Nat → List α → List α
  | 0, _ => []
  | m + 1, l => (l.take wd).reverse ++ wrev wd m (l.drop wd)
theorem Bi_get {wd : Nat} {data : List UInt8} {b : Array UInt8} {i : Nat} (hb : i * wd + wd ≤ b.size) : ∀ j, j ≤ wd → ∀ k, (Bi wd data b i j)[k]? = if i * wd + wd - j ≤ k ∧ k < i * wd + wd then some (data.getD (i * wd + (i * wd + wd - 1 - k)) 0) else b[k]?
  | 0, _, k => by
    rw [if_neg (by omega)]; rfl
  | j + 1, hj, k => by
    rw [Bi, Array.getElem?_setIfInBounds, Bi_size]
    by_cases h : i * wd + wd - 1 - j = k
    · rw [if_pos h, if_pos (by omega), if_pos (by omega)]
      congr 2; omega
    · rw [if_neg h, Bi_get hb j (by omega) k]
      by_cases h2 : i * wd + wd - j ≤ k ∧ k < i * wd + wd
      · rw [if_pos h2, if_pos (by omega)]
      · rw [if_neg h2, if_neg (by omega)]
theorem Bo_get {wd m : Nat} {data : List UInt8} (hw : 1 ≤ wd) (hm : data.length = m * wd) : ∀ i, i ≤ m → ∀ k, (Bo wd data i)[k]? = if k < i * wd then some (data.getD (mi wd k) 0) else if k < data.length then some 0 else none
  | 0, _, k => by
    rw [Bo, if_neg (by omega)]
    rw [Array.getElem?_replicate]
  | i + 1, hi, k => by
    have hs : i * wd + wd ≤ data.length := by rw [hm, ← Nat.succ_mul]; exact Nat.mul_le_mul_right _ hi
    have e1 : (i + 1) * wd = i * wd + wd := Nat.succ_mul _ _
    rw [Bo, Bi_get (by rw [Bo_size]; exact hs) wd (Nat.le_refl _) k, Bo_get hw hm i (by omega) k, e1]
    by_cases h1 : k < i * wd
    · rw [if_neg (by omega), if_pos h1, if_pos (by omega)]
    · by_cases h2 : k < i * wd + wd
      · rw [if_pos (by omega), if_pos h2]
        have d1 : k / wd = i := Nat.div_eq_of_lt_le (by omega) (by omega)
        have d2 : k % wd = k - i * wd := by
          have := Nat.div_add_mod k wd
          rw [d1, Nat.mul_comm] at this
          omega
        unfold mi
        rw [d1, d2]
        congr 2; omega
      · rw [if_neg (by omega), if_neg h1, if_neg h2]
theorem wrev_len {α : Type} {wd : Nat} : ∀ {m : Nat} {l : List α}, l.length = m * wd → (wrev wd m l).length = l.length
  | 0, l, h => by rw [wrev]; simp at h ⊢; simp [h]
  | m + 1, l, h => by
    rw [Nat.succ_mul] at h
    rw [wrev, List.length_append, List.length_reverse, List.length_take, wrev_len (by rw [List.length_drop]; omega), List.length_drop]
    omega
theorem wrev_get {wd : Nat} (hw : 1 ≤ wd) : ∀ {m : Nat} {l : List UInt8}, l.length = m * wd → ∀ k, k < m * wd → (wrev wd m l)[k]? = some (l.getD (mi wd k) 0)
  | 0, l, h, k, hk => by simp at hk
  | m + 1, l, h, k, hk => by
    rw [Nat.succ_mul] at h hk
    have ht : (l.take wd).length = wd := by rw [List.length_take]; omega
    rw [wrev]
    by_cases h1 : k < wd
    · rw [List.getElem?_append_left (by rw [List.length_reverse]; omega), List.getElem?_reverse (by omega), ht]
      unfold mi
      rw [Nat.div_eq_of_lt h1, Nat.mod_eq_of_lt h1, List.getElem?_take_of_lt (by omega), List.getD_eq_getElem?_getD, Nat.zero_mul, Nat.zero_add]
      rw [List.getElem?_eq_getElem (by omega)]; rfl
    · rw [List.getElem?_append_right (by rw [List.length_reverse]; omega), List.length_reverse, ht, wrev_get hw (by rw [List.length_drop]; omega) (k - wd) (by omega)]
      have d1 : k / wd = (k - wd) / wd + 1 := by
        rw [Nat.div_eq_sub_div (by omega) (by omega)]
      have d2 : k % wd = (k - wd) % wd := Nat.mod_eq_sub_mod (by omega)
      rw [List.getD_eq_getElem?_getD, List.getD_eq_getElem?_getD, List.getElem?_drop]
      unfold mi
      rw [d1, d2, Nat.succ_mul]
      congr 2
      congr 1
      omega
theorem Bo_wrev {wd m : Nat} {data : List UInt8} (hw : 1 ≤ wd) (hm : data.length = m * wd) : (Bo wd data m).toList = wrev wd m data := by
  apply List.ext_getElem?
  intro k
  rw [Array.getElem?_toList, Bo_get hw hm m (Nat.le_refl _) k]
  by_cases h : k < m * wd
  · rw [if_pos h, wrev_get hw hm k h]
  · rw [if_neg h, if_neg (by omega), List.getElem?_eq_none (by rw [wrev_len hm]; omega)]
theorem chunks {α : Type} {wd : Nat} : ∀ {m : Nat} {l : List α}, l.length = m * wd → ∃ ws : List (List α), ws.length = m ∧ (∀ w ∈ ws, w.length = wd) ∧ ws.flatten = l
  | 0, l, h => ⟨[], rfl, by simp, by simp at h; simp [h]⟩
  | m + 1, l, h => by
    rw [Nat.succ_mul] at h
    obtain ⟨ws, h1, h2, h3⟩ := chunks (wd := wd) (m := m) (l := l.drop wd) (by rw [List.length_drop]; omega)
    refine ⟨l.take wd :: ws, by simp [h1], ?_, by rw [List.flatten_cons, h3, List.take_append_drop]⟩
    intro w hw
    rcases List.mem_cons.mp hw with rfl | hw
    · rw [List.length_take]; omega
    · exact h2 w hw
theorem wrev_flat {α : Type} {wd : Nat} : ∀ {ws : List (List α)}, (∀ w ∈ ws, w.length = wd) → wrev wd ws.length ws.flatten = (ws.map List.reverse).flatten
  | [], _ => by simp [wrev]
  | w :: ws, h => by
    have h1 := h w (by simp)
    rw [List.length_cons, wrev, List.flatten_cons, List.take_left' h1, List.drop_left' h1, wrev_flat (fun x hx => h x (by simp [hx]))]
    rfl
theorem wrev_wrev {α : Type} {wd m : Nat} {l : List α} (h : l.length = m * wd) : wrev wd m (wrev wd m l) = l := by
  obtain ⟨ws, rfl, h2, rfl⟩ := chunks h
  rw [wrev_flat h2]
  have h3 : ∀ w ∈ ws.map List.reverse, w.length = wd := by
    intro w hw
    obtain ⟨x, hx, rfl⟩ := List.mem_map.mp hw
    rw [List.length_reverse]; exact h2 x hx
  have := wrev_flat h3
  rw [List.length_map] at this
  rw [this, List.map_map]
  congr 1
  rw [show (List.reverse ∘ List.reverse : List α → List α) = id by funext x; simp]
  simp
theorem wrev_reverse {α : Type} {wd m : Nat} {l : List α} (h : l.length = m * wd) : wrev wd m l.reverse = (wrev wd m l).reverse := by
  obtain ⟨ws, rfl, h2, rfl⟩ := chunks h
  have h3 : ∀ w ∈ (ws.map List.reverse).reverse, w.length = wd := by
    intro w hw
    obtain ⟨x, hx, rfl⟩ := List.mem_map.mp (List.mem_reverse.mp hw)
    rw [List.length_reverse]; exact h2 x hx
  have e := wrev_flat h3
  rw [List.length_reverse, List.length_map] at e
  rw [wrev_flat h2, List.reverse_flatten, List.reverse_flatten, e]
  simp [List.map_reverse, List.map_map]
theorem wrev_one {α : Type} {l : List α} : wrev l.length 1 l = l.reverse := by
  rw [wrev, wrev, List.take_length]; simp
end Mine
end
noncomputable section
set_option Elab.async false
set_option linter.unusedVariables false
namespace Mine
noncomputable abbrev S3 := Nat × Nat × Nat
noncomputable def turnP (x : List UInt8) (p : S3) : List UInt8 := turnL x p ((p.2.1 - p.1) / p.2.2)
structure Val (N : Nat) (p : S3) : Prop where
  lo : p.1 < p.2.1
  hi : p.2.1 ≤ N
  wd : 1 ≤ p.2.2
  dv : p.2.2 ∣ p.2.1 - p.1
theorem Val.cnt {N : Nat} {p : S3} (v : Val N p) : p.2.1 - p.1 = (p.2.1 - p.1) / p.2.2 * p.2.2 := (Nat.div_mul_cancel v.dv).symm
theorem turn_app {N : Nat} {p : S3} (v : Val N p) {A S B : List UInt8} (hA : A.length = p.1) (hS : S.length = p.2.1 - p.1) : turnP (A ++ (S ++ B)) p = A ++ (wrev p.2.2 ((p.2.1 - p.1) / p.2.2) S ++ B) := by
  have h1 := v.lo
  unfold turnP turnL
  have e1 : (A ++ (S ++ B)).take p.1 = A := List.take_left' hA
  have e2 : (A ++ (S ++ B)).drop p.1 = S ++ B := List.drop_left' hA
  have e3 : (A ++ (S ++ B)).drop p.2.1 = B := by
    rw [show p.2.1 = p.1 + (p.2.1 - p.1) by omega, ← List.drop_drop, e2, List.drop_left' hS]
  rw [e1, e2, e3, List.take_left' hS, Bo_wrev v.wd (hS.trans v.cnt), List.append_assoc]
theorem split {N : Nat} {p : S3} (v : Val N p) {x : List UInt8} (hx : x.length = N) : ∃ A S B, x = A ++ (S ++ B) ∧ A.length = p.1 ∧ S.length = p.2.1 - p.1 := by
  have h1 := v.lo; have h2 := v.hi
  refine ⟨x.take p.1, (x.drop p.1).take (p.2.1 - p.1), (x.drop p.1).drop (p.2.1 - p.1), ?_, ?_, ?_⟩
  · rw [List.take_append_drop, List.take_append_drop]
  · rw [List.length_take]; omega
  · rw [List.length_take, List.length_drop]; omega
theorem turn_len {N : Nat} {p : S3} (v : Val N p) {x : List UInt8} (hx : x.length = N) : (turnP x p).length = N := by
  obtain ⟨A, S, B, rfl, hA, hS⟩ := split v hx
  rw [turn_app v hA hS, List.length_append, List.length_append, wrev_len (hS.trans v.cnt)]
  simpa using hx
theorem turn_turn {N : Nat} {p : S3} (v : Val N p) {x : List UInt8} (hx : x.length = N) : turnP (turnP x p) p = x := by
  obtain ⟨A, S, B, rfl, hA, hS⟩ := split v hx
  rw [turn_app v hA hS, turn_app v hA (by rw [wrev_len (hS.trans v.cnt), hS]), wrev_wrev (hS.trans v.cnt)]
noncomputable def Com (N : Nat) (a b : S3) : Prop := ∀ x : List UInt8, x.length = N → turnP (turnP x a) b = turnP (turnP x b) a
theorem Com.symm {N : Nat} {a b : S3} (c : Com N a b) : Com N b a := fun x hx => (c x hx).symm
theorem com_apart {N : Nat} {a b : S3} (va : Val N a) (vb : Val N b) (h : a.2.1 ≤ b.1) : Com N a b := by
  intro x hx
  have a1 := va.lo; have b1 := vb.lo; have b2 := vb.hi
  obtain ⟨A, S, R, rfl, hA, hS⟩ := split va hx
  rw [List.length_append, List.length_append] at hx
  have hR : R = R.take (b.1 - a.2.1) ++ (((R.drop (b.1 - a.2.1)).take (b.2.1 - b.1)) ++ (R.drop (b.1 - a.2.1)).drop (b.2.1 - b.1)) := by
    rw [List.take_append_drop, List.take_append_drop]
  generalize hM : R.take (b.1 - a.2.1) = M at hR
  generalize hT : (R.drop (b.1 - a.2.1)).take (b.2.1 - b.1) = T at hR
  generalize hB : (R.drop (b.1 - a.2.1)).drop (b.2.1 - b.1) = B at hR
  have lM : M.length = b.1 - a.2.1 := by rw [← hM, List.length_take]; omega
  have lT : T.length = b.2.1 - b.1 := by rw [← hT, List.length_take, List.length_drop]; omega
  subst hR
  have key : ∀ S' : List UInt8, S'.length = a.2.1 - a.1 → turnP (A ++ (S' ++ (M ++ (T ++ B)))) b = A ++ (S' ++ (M ++ (wrev b.2.2 ((b.2.1 - b.1) / b.2.2) T ++ B))) := fun S' hS' => by
    have := turn_app vb (A := A ++ (S' ++ M)) (S := T) (B := B) (by simp only [List.length_append]; omega) lT
    simpa [List.append_assoc] using this
  rw [turn_app va hA hS, key _ (by rw [wrev_len (hS.trans va.cnt), hS]), key _ hS, turn_app va hA hS]
theorem com_full {N : Nat} {a b : S3} (va : Val N a) (vb : Val N b) (h1 : a.1 = b.1) (h2 : a.2.1 = b.2.1) (h3 : b.2.2 = b.2.1 - b.1) : Com N a b := by
  intro x hx
  have b1 := vb.lo
  obtain ⟨A, S, B, rfl, hA, hS⟩ := split va hx
  have full : ∀ S' : List UInt8, S'.length = b.2.1 - b.1 → wrev b.2.2 ((b.2.1 - b.1) / b.2.2) S' = S'.reverse := fun S' hS' => by
    rw [h3, Nat.div_self (by omega), ← hS', wrev_one]
  have hS2 : S.length = b.2.1 - b.1 := by rw [hS, h1, h2]
  have hA2 : A.length = b.1 := by rw [hA, h1]
  have lw := wrev_len (hS.trans va.cnt)
  rw [turn_app va hA hS, turn_app vb hA2 (by rw [lw, hS2]), full _ (by rw [lw, hS2]), turn_app vb hA2 hS2, full _ hS2, turn_app va hA (by rw [List.length_reverse, hS]), wrev_reverse (hS.trans va.cnt)]
noncomputable def run (l : List S3) (x : List UInt8) : List UInt8 := l.foldl turnP x
theorem run_len {N : Nat} : ∀ {l : List S3} {x : List UInt8}, (∀ p ∈ l, Val N p) → x.length = N → (run l x).length = N
  | [], x, _, hx => hx
  | p :: l, x, h, hx => run_len (l := l) (fun q hq => h q (by simp [hq])) (turn_len (h p (by simp)) hx)
theorem run_back {N : Nat} : ∀ {l : List S3} {x : List UInt8}, (∀ p ∈ l, Val N p) → x.length = N → run l.reverse (run l x) = x
  | [], x, _, hx => rfl
  | p :: l, x, h, hx => by
    have hp := h p (by simp)
    have e := run_back (l := l) (x := turnP x p) (fun q hq => h q (by simp [hq])) (turn_len hp hx)
    unfold run at e ⊢
    rw [List.reverse_cons, List.foldl_append]
    show turnP (List.foldl turnP (List.foldl turnP (turnP x p) l) l.reverse) p = x
    rw [e]
    exact turn_turn hp hx
theorem run_move {N : Nat} {a : S3} {v : List S3} (va : Val N a) : ∀ {u : List S3} {x : List UInt8}, (∀ b ∈ u, Val N b ∧ Com N b a) → x.length = N → run (u ++ a :: v) x = run (a :: (u ++ v)) x
  | [], x, _, _ => rfl
  | b :: u, x, h, hx => by
    obtain ⟨vb, cb⟩ := h b (by simp)
    have e := run_move (v := v) va (u := u) (x := turnP x b) (fun q hq => h q (by simp [hq])) (turn_len vb hx)
    unfold run at e ⊢
    simp only [List.cons_append, List.foldl_cons] at e ⊢
    rw [e, cb x hx]
theorem run_perm {N : Nat} {Bad : S3 → S3 → Prop} : ∀ {l1 l2 : List S3} {x : List UInt8}, l1.Perm l2 → l1.Pairwise (fun a b => ¬ Bad b a) → l2.Pairwise (fun a b => ¬ Bad b a) → (∀ a ∈ l1, Val N a) → (∀ a ∈ l1, ∀ b ∈ l1, Com N a b ∨ Bad a b ∨ Bad b a) → x.length = N → run l1 x = run l2 x
  | [], l2, x, hp, _, _, _, _, _ => by rw [List.nil_perm.mp hp]
  | a :: r, l2, x, hp, h1, h2, hv, hc, hx => by
    obtain ⟨u, v, rfl⟩ := List.append_of_mem (hp.subset (by simp : a ∈ a :: r))
    have va := hv a (by simp)
    have hq : r.Perm (u ++ v) := (hp.trans List.perm_middle).cons_inv
    rw [run_move va (fun b hb => ?_) hx]
    · show run r (turnP x a) = run (u ++ v) (turnP x a)
      exact run_perm hq (List.pairwise_cons.mp h1).2 (h2.sublist (by simp)) (fun b hb => hv b (by simp [hb])) (fun b hb c hc' => hc b (by simp [hb]) c (by simp [hc'])) (turn_len va hx)
    · have hr : b ∈ r := hq.symm.subset (by simp [hb])
      refine ⟨hv b (by simp [hr]), ?_⟩
      have n1 : ¬ Bad b a := (List.pairwise_cons.mp h1).1 b hr
      have n2 : ¬ Bad a b := (List.pairwise_append.mp h2).2.2 b hb a (by simp)
      rcases hc b (by simp [hr]) a (by simp) with h | h | h
      · exact h
      · exact absurd h n1
      · exact absurd h n2
end Mine
end
noncomputable section
set_option Elab.async false
set_option linter.unusedVariables false
namespace Mine
mutual
noncomputable def tgood : TR → Prop
  | .leaf _ ws => ws ≠ [] ∧ ∃ wd, 1 ≤ wd ∧ ∀ w ∈ ws, w.length = wd
  | .block _ ps => ps ≠ [] ∧ tgoods ps
noncomputable def tgoods : List TR → Prop
  | [] => True
  | x :: r => tgood x ∧ tgoods r
end
mutual
noncomputable def plain : TR → List Nat
  | .leaf _ ws => ws.flatten
  | .block _ ps => plains ps
noncomputable def plains : List TR → List Nat
  | [] => []
  | x :: r => plain x ++ plains r
end
mutual
noncomputable def act : TR → List Nat
  | .leaf t ws => if t then (ws.map List.reverse).flatten else ws.flatten
  | .block t ps => if t then (acts ps).reverse else acts ps
noncomputable def acts : List TR → List Nat
  | [] => []
  | x :: r => act x ++ acts r
end
mutual
theorem trd_act : ∀ (t : TR) (o : Bool), trd t o = if o then (act t).reverse else act t
  | .leaf t ws, o => by
    rw [trd, act]
    have e1 : ws.flatMap (fun w => w.reverse) = (ws.map List.reverse).flatten := by rw [List.flatMap_def]
    have e2 : ws.flatMap (fun w => w) = ws.flatten := by rw [List.flatMap_def]; simp
    cases t <;> cases o <;> simp [e1, e2]
  | .block t ps, o => by
    rw [trd, act]
    have h := trds_acts ps (o != t)
    cases t <;> cases o <;> simp at h ⊢ <;> simp [h]
theorem trds_acts : ∀ (l : List TR) (o : Bool), (if o then (trds l o).reverse else trds l o).flatMap (fun x => x) = if o then (acts l).reverse else acts l
  | [], o => by cases o <;> simp [trds, acts]
  | x :: r, o => by
    have h1 := trd_act x o
    have h2 := trds_acts r o
    rw [trds, acts]
    cases o
    · simp at h1 h2 ⊢
      rw [h1, h2]
    · simp at h1 h2 ⊢
      rw [h1, ← h2]
end
theorem uni_sum {wd : Nat} : ∀ {ws : List (List Nat)}, (∀ w ∈ ws, w.length = wd) → (ws.map List.length).sum = ws.length * wd
  | [], _ => by simp
  | w :: ws, h => by
    have := uni_sum (ws := ws) (fun x hx => h x (by simp [hx]))
    rw [List.map_cons, List.sum_cons, h w (by simp), this, List.length_cons, Nat.succ_mul]; omega
mutual
theorem plain_len : ∀ t : TR, (plain t).length = tlen t
  | .leaf t ws => by rw [plain, tlen, List.length_flatten]
  | .block t ps => by rw [plain, tlen, plains_len ps]
theorem plains_len : ∀ l : List TR, (plains l).length = tlens l
  | [] => rfl
  | x :: r => by rw [plains, tlens, List.length_append, plain_len x, plains_len r]
end
mutual
theorem act_len : ∀ t : TR, (act t).length = tlen t
  | .leaf t ws => by
    rw [act, tlen]
    cases t
    · simp [List.length_flatten]
    · simp [List.length_flatten, List.map_map, Function.comp_def]
  | .block t ps => by
    have := acts_len ps
    rw [act, tlen]
    cases t <;> simp [this]
theorem acts_len : ∀ l : List TR, (acts l).length = tlens l
  | [] => rfl
  | x :: r => by rw [acts, tlens, List.length_append, act_len x, acts_len r]
end
mutual
theorem tlen_pos : ∀ {t : TR}, tgood t → 1 ≤ tlen t
  | .leaf t ws, h => by
    rw [tgood] at h
    obtain ⟨h1, wd, h2, h3⟩ := h
    rw [tlen, uni_sum h3]
    exact Nat.mul_pos (List.length_pos_iff.mpr h1) h2
  | .block t ps, h => by
    rw [tgood] at h
    rw [tlen]
    exact tlens_pos h.1 h.2
theorem tlens_pos : ∀ {l : List TR}, l ≠ [] → tgoods l → 1 ≤ tlens l
  | [], h, _ => absurd rfl h
  | x :: r, _, h => by
    rw [tgoods] at h
    have := tlen_pos h.1
    rw [tlens]; omega
end
noncomputable def Within (f e : Nat) (s : S3) : Prop := f ≤ s.1 ∧ s.2.1 ≤ e ∧ s.1 < s.2.1 ∧ 1 ≤ s.2.2 ∧ s.2.2 ∣ s.2.1 - s.1
mutual
theorem str_in : ∀ {t : TR} {f : Nat}, tgood t → ∀ s ∈ tstr t f, Within f (f + tlen t) s
  | .leaf t ws, f, h, s, hs => by
    have hp := tlen_pos h
    rw [tgood] at h
    obtain ⟨h1, wd, h2, h3⟩ := h
    rw [tstr] at hs
    split at hs
    · have hs := List.mem_singleton.mp hs
      subst hs
      rw [tlen] at hp ⊢
      have hh : (ws.headD []).length = wd := by
        cases ws with
        | nil => exact absurd rfl h1
        | cons a r => exact h3 a (by simp)
      have hl := uni_sum h3
      refine ⟨Nat.le_refl _, Nat.le_refl _, by show f < f + _; omega, by show 1 ≤ (ws.headD []).length; omega, ?_⟩
      show (ws.headD []).length ∣ f + _ - f
      rw [hh, hl, Nat.add_sub_cancel_left]
      exact ⟨ws.length, Nat.mul_comm _ _⟩
    · simp at hs
  | .block t ps, f, h, s, hs => by
    have hp := tlen_pos h
    rw [tgood] at h
    rw [tstr] at hs
    rw [tlen] at hp ⊢
    rcases List.mem_append.mp hs with hs | hs
    · split at hs
      · simp at hs
        subst hs
        refine ⟨Nat.le_refl _, Nat.le_refl _, by show f < f + _; omega, hp, ?_⟩
        show tlens ps ∣ f + _ - f
        rw [Nat.add_sub_cancel_left]
        exact Nat.dvd_refl _
      · simp at hs
    · exact strs_in h.2 s hs
theorem strs_in : ∀ {l : List TR} {f : Nat}, tgoods l → ∀ s ∈ tstrs l f, Within f (f + tlens l) s
  | [], f, _, s, hs => by simp [tstrs] at hs
  | x :: r, f, h, s, hs => by
    rw [tgoods] at h
    rw [tstrs] at hs
    rw [tlens]
    rcases List.mem_append.mp hs with hs | hs
    · obtain ⟨a, b, c⟩ := str_in h.1 s hs
      exact ⟨a, by omega, c⟩
    · obtain ⟨a, b, c⟩ := strs_in h.2 s hs
      exact ⟨by omega, by omega, c⟩
end
noncomputable def Nest (a b : S3) : Prop := b.1 ≤ a.1 ∧ a.2.1 ≤ b.2.1 ∧ b.2.2 = b.2.1 - b.1
noncomputable def Ok (a b : S3) : Prop := a = b ∨ a.2.1 ≤ b.1 ∨ b.2.1 ≤ a.1 ∨ Nest a b ∨ Nest b a
mutual
theorem str_ok : ∀ {t : TR} {f : Nat}, tgood t → ∀ a ∈ tstr t f, ∀ b ∈ tstr t f, Ok a b
  | .leaf t ws, f, h, a, ha, b, hb => by
    rw [tstr] at ha hb
    split at ha
    · next ht =>
      rw [if_pos ht] at hb
      simp at ha hb
      exact .inl (ha.trans hb.symm)
    · simp at ha
  | .block t ps, f, h, a, ha, b, hb => by
    rw [tgood] at h
    rw [tstr] at ha hb
    have own : ∀ {x : S3}, x ∈ (if t = true then [(f, f + tlens ps, tlens ps)] else []) → x = (f, f + tlens ps, tlens ps) := fun {x} hx => by
      split at hx
      · simpa using hx
      · simp at hx
    have nest : ∀ {x : S3}, x ∈ tstrs ps f → Nest x (f, f + tlens ps, tlens ps) := fun {x} hx => by
      obtain ⟨q1, q2, _⟩ := strs_in h.2 x hx
      exact ⟨q1, q2, (Nat.add_sub_cancel_left f (tlens ps)).symm⟩
    rcases List.mem_append.mp ha with ha | ha
    · rcases List.mem_append.mp hb with hb | hb
      · exact .inl ((own ha).trans (own hb).symm)
      · exact .inr (.inr (.inr (.inr (own ha ▸ nest hb))))
    · rcases List.mem_append.mp hb with hb | hb
      · exact .inr (.inr (.inr (.inl (own hb ▸ nest ha))))
      · exact strs_ok h.2 a ha b hb
theorem strs_ok : ∀ {l : List TR} {f : Nat}, tgoods l → ∀ a ∈ tstrs l f, ∀ b ∈ tstrs l f, Ok a b
  | [], f, _, a, ha, b, hb => by simp [tstrs] at ha
  | x :: r, f, h, a, ha, b, hb => by
    rw [tgoods] at h
    rw [tstrs] at ha hb
    have ap : ∀ {a b : S3}, a ∈ tstr x f → b ∈ tstrs r (f + tlen x) → a.2.1 ≤ b.1 := fun {a b} ha hb => by
      have q1 := (str_in h.1 a ha).2.1
      have q2 := (strs_in h.2 b hb).1
      omega
    rcases List.mem_append.mp ha with ha | ha
    · rcases List.mem_append.mp hb with hb | hb
      · exact str_ok h.1 a ha b hb
      · exact .inr (.inl (ap ha hb))
    · rcases List.mem_append.mp hb with hb | hb
      · exact .inr (.inr (.inl (ap hb ha)))
      · exact strs_ok h.2 a ha b hb
end
/-- a lies within b, and is smaller -/
noncomputable def Bad (a b : S3) : Prop := b.1 ≤ a.1 ∧ a.2.1 ≤ b.2.1 ∧ (b.1 < a.1 ∨ a.2.1 < b.2.1)
theorem com_ok {N : Nat} {a b : S3} (va : Val N a) (vb : Val N b) (h : Ok a b) : Com N a b ∨ Bad a b ∨ Bad b a := by
  rcases h with h | h | h | ⟨h1, h2, h3⟩ | ⟨h1, h2, h3⟩
  · subst h; exact .inl fun x hx => rfl
  · exact .inl (com_apart va vb h)
  · exact .inl (com_apart vb va h).symm
  · by_cases e : a.1 = b.1 ∧ a.2.1 = b.2.1
    · exact .inl (com_full va vb e.1 e.2 h3)
    · exact .inr (.inl ⟨h1, h2, by omega⟩)
  · by_cases e : a.1 = b.1 ∧ a.2.1 = b.2.1
    · exact .inl (com_full vb va e.1.symm e.2.symm h3).symm
    · exact .inr (.inr ⟨h1, h2, by omega⟩)
mutual
noncomputable def tpost : TR → Nat → List S3
  | .leaf t ws, f => tstr (.leaf t ws) f
  | .block t ps, f => tposts ps f ++ (if t then [(f, f + tlens ps, tlens ps)] else [])
noncomputable def tposts : List TR → Nat → List S3
  | [], _ => []
  | x :: r, f => tpost x f ++ tposts r (f + tlen x)
end
mutual
theorem post_perm : ∀ (t : TR) (f : Nat), (tpost t f).Perm (tstr t f)
  | .leaf t ws, f => by rw [tpost]
  | .block t ps, f => by
    rw [tpost, tstr]
    exact (List.perm_append_comm).trans ((posts_perm ps f).append_left _)
theorem posts_perm : ∀ (l : List TR) (f : Nat), (tposts l f).Perm (tstrs l f)
  | [], f => by rw [tposts, tstrs]
  | x :: r, f => by
    rw [tposts, tstrs]
    exact (post_perm x f).append (posts_perm r _)
end
mutual
theorem post_pair : ∀ {t : TR} {f : Nat}, tgood t → (tpost t f).Pairwise fun a b => ¬ Bad b a
  | .leaf t ws, f, h => by
    rw [tpost, tstr]
    split <;> simp
  | .block t ps, f, h => by
    rw [tgood] at h
    rw [tpost, List.pairwise_append]
    refine ⟨posts_pair h.2, by split <;> simp, fun a ha b hb bad => ?_⟩
    obtain ⟨q1, q2, _⟩ := strs_in h.2 a ((posts_perm ps f).subset ha)
    split at hb
    · simp at hb
      subst hb
      obtain ⟨b1, b2, b3⟩ := bad
      dsimp only at b1 b2 b3
      omega
    · simp at hb
theorem posts_pair : ∀ {l : List TR} {f : Nat}, tgoods l → (tposts l f).Pairwise fun a b => ¬ Bad b a
  | [], f, _ => by rw [tposts]; exact .nil
  | x :: r, f, h => by
    rw [tgoods] at h
    rw [tposts, List.pairwise_append]
    refine ⟨post_pair h.1, posts_pair h.2, fun a ha b hb bad => ?_⟩
    obtain ⟨_, q2, _⟩ := str_in h.1 a ((post_perm x f).subset ha)
    obtain ⟨q3, _, q4, _⟩ := strs_in h.2 b ((posts_perm r _).subset hb)
    obtain ⟨b1, b2, b3⟩ := bad
    omega
end
theorem run_app (l m : List S3) (x : List UInt8) : run (l ++ m) x = run m (run l x) := List.foldl_append
theorem map_revs {α β : Type} (g : α → β) (ws : List (List α)) : ((ws.map List.reverse).flatten).map g = ((ws.map (List.map g)).map List.reverse).flatten := by
  rw [List.map_flatten, List.map_map, List.map_map]
  congr 1
  apply List.map_congr_left
  intro a _
  simp
mutual
theorem run_post (g : Nat → UInt8) : ∀ {t : TR} {A B : List UInt8}, tgood t → run (tpost t A.length) (A ++ ((plain t).map g ++ B)) = A ++ ((act t).map g ++ B)
  | .leaf t ws, A, B, h => by
    have hin := str_in (f := A.length) h
    rw [tgood] at h
    obtain ⟨h1, wd, h2, h3⟩ := h
    rw [tpost, tstr, plain, act]
    cases t
    · rfl
    · have hv := hin (A.length, A.length + (ws.map List.length).sum, (ws.headD []).length) (by rw [tstr]; simp)
      have hl := uni_sum h3
      have hh : (ws.headD []).length = wd := by
        cases ws with
        | nil => exact absurd rfl h1
        | cons a r => exact h3 a (by simp)
      have v : Val (A.length + (ws.map List.length).sum) (A.length, A.length + (ws.map List.length).sum, (ws.headD []).length) := ⟨hv.2.2.1, Nat.le_refl _, hv.2.2.2.1, hv.2.2.2.2⟩
      show turnP _ _ = _
      rw [turn_app v rfl (by rw [List.length_map, List.length_flatten]; show _ = A.length + _ - A.length; omega)]
      dsimp only
      rw [if_pos rfl, Nat.add_sub_cancel_left, hh, hl, Nat.mul_div_cancel _ h2, map_revs, List.map_flatten]
      have e := wrev_flat (wd := wd) (ws := ws.map (List.map g)) (fun w hw => by
        obtain ⟨x, hx, rfl⟩ := List.mem_map.mp hw
        rw [List.length_map]; exact h3 x hx)
      rw [List.length_map] at e
      rw [e]
  | .block t ps, A, B, h => by
    have hin := str_in (f := A.length) h
    rw [tgood] at h
    rw [tpost, run_app, plain, act, runs_post g h.2]
    cases t
    · rfl
    · have hv := hin (A.length, A.length + tlens ps, tlens ps) (by rw [tstr]; simp)
      have v : Val (A.length + tlens ps) (A.length, A.length + tlens ps, tlens ps) := ⟨hv.2.2.1, Nat.le_refl _, hv.2.2.2.1, hv.2.2.2.2⟩
      have la : ((acts ps).map g).length = tlens ps := by rw [List.length_map, acts_len]
      show turnP _ _ = _
      rw [turn_app v rfl (by rw [la]; show _ = A.length + _ - A.length; omega)]
      dsimp only
      rw [if_pos rfl, Nat.add_sub_cancel_left, Nat.div_self (tlens_pos h.1 h.2), List.map_reverse]
      have := wrev_one (l := (acts ps).map g)
      rw [la] at this
      rw [this]
theorem runs_post (g : Nat → UInt8) : ∀ {l : List TR} {A B : List UInt8}, tgoods l → run (tposts l A.length) (A ++ ((plains l).map g ++ B)) = A ++ ((acts l).map g ++ B)
  | [], A, B, _ => by rw [tposts]; rfl
  | x :: r, A, B, h => by
    rw [tgoods] at h
    rw [tposts, run_app, plains, acts, List.map_append, List.map_append, List.append_assoc, List.append_assoc, run_post g h.1]
    have e := runs_post g (l := r) (A := A ++ (act x).map g) (B := B) h.2
    rw [List.length_append, List.length_map, act_len] at e
    rw [← List.append_assoc, e, List.append_assoc]
end
/-- the law: in whatever order, if only the inner ones come ahead of the outer ones -/
theorem law_plain (g : Nat → UInt8) {t : TR} (h : tgood t) {l : List S3} (hp : l.Perm (tstr t 0)) (hb : l.Pairwise fun a b => ¬ Bad b a) :
    run l ((plain t).map g) = (trd t false).map g ∧ run l.reverse ((trd t false).map g) = (plain t).map g := by
  have hl : ((plain t).map g).length = tlen t := by rw [List.length_map, plain_len]
  have hv : ∀ p ∈ l, Val (tlen t) p := fun p hq => by
    obtain ⟨a, b, c, d, e⟩ := str_in h p (hp.subset hq)
    exact ⟨c, by omega, d, e⟩
  have e1 : run l ((plain t).map g) = (trd t false).map g := by
    rw [run_perm (Bad := Bad) (hp.trans (post_perm t 0).symm) hb (post_pair h) hv (fun a ha b hb => com_ok (hv a ha) (hv b hb) (str_ok h a (hp.subset ha) b (hp.subset hb))) hl]
    have e := run_post g (t := t) (A := []) (B := []) h
    rw [trd_act]
    simpa using e
  exact ⟨e1, by rw [← e1]; exact run_back hv hl⟩
end Mine
end
noncomputable section
set_option Elab.async false
set_option linter.unusedVariables false
namespace Mine
theorem order_ok {n : Nat} {s : List S3} {rk : S3 → Int} {p : Array Nat} (hs : s.length = n) (hp : PB n p) (hq : Srt (fun i => rk (s.getD i (0, 0, 0))) p n) (hr : ∀ a ∈ s, ∀ b ∈ s, Bad a b → rk a < rk b) :
    (p.toList.map fun i => s.getD i (0, 0, 0)).Perm s ∧ (p.toList.map fun i => s.getD i (0, 0, 0)).Pairwise fun a b => ¬ Bad b a := by
  have hpm : (p.toList.map fun i => s.getD i (0, 0, 0)).Perm s := by
    have e := hp.perm.map (fun i => s.getD i (0, 0, 0))
    rw [← hs, range_map_getD (0, 0, 0) (fun x : S3 => x) s] at e
    simpa using e
  refine ⟨hpm, ?_⟩
  rw [List.pairwise_iff_getElem]
  intro i j hi hj hij bad
  have hi' : i < p.size := by simpa using hi
  have hj' : j < p.size := by simpa using hj
  have e := hq i j (Nat.le_of_lt hij) (by rw [← hp.size]; exact hj')
  unfold pk at e
  have m1 := hpm.subset (List.getElem_mem hi)
  have m2 := hpm.subset (List.getElem_mem hj)
  have b := hr _ m2 _ m1 bad
  simp only [List.getElem_map, Array.getElem_toList] at b
  have g1 : p.getD i 0 = p[i] := by rw [Array.getD_eq_getD_getElem?, Array.getElem?_eq_getElem hi']; rfl
  have g2 : p.getD j 0 = p[j] := by rw [Array.getD_eq_getD_getElem?, Array.getElem?_eq_getElem hj']; rfl
  rw [g1, g2] at e
  dsimp only at e
  omega
noncomputable def rkShort (s : S3) : Int := (s.2.1 : Int) - s.1
noncomputable def rkSoon (s : S3) : Int := (s.2.1 : Int) * 1000 - s.1
noncomputable def rkLate (s : S3) : Int := (s.2.1 : Int) - (s.1 : Int) * 1000
theorem lt_short {a b : S3} : (decide (shorterI a b < 0)) = decide (rkShort a < rkShort b) := by
  unfold shorterI rkShort
  congr 1; apply propext; omega
theorem lt_soon {a b : S3} (ha : a.1 < 1000) (hb : b.1 < 1000) : (decide (soonerI a b < 0)) = decide (rkSoon a < rkSoon b) := by
  unfold soonerI rkSoon
  congr 1; apply propext
  split <;> omega
theorem lt_late {a b : S3} (ha : a.2.1 < 1000) (hb : b.2.1 < 1000) : (decide (laterI a b < 0)) = decide (rkLate a < rkLate b) := by
  unfold laterI rkLate
  congr 1; apply propext
  split <;> omega
theorem bad_short {a b : S3} (ha : a.1 < a.2.1) (h : Bad a b) : rkShort a < rkShort b := by
  obtain ⟨h1, h2, h3⟩ := h
  unfold rkShort; omega
theorem bad_soon {a b : S3} (ha : a.1 < 1000) (hb : b.1 < 1000) (h : Bad a b) : rkSoon a < rkSoon b := by
  obtain ⟨h1, h2, h3⟩ := h
  unfold rkSoon; omega
theorem bad_late {a b : S3} (ha : a.2.1 < 1000) (hb : b.2.1 < 1000) (h : Bad a b) : rkLate a < rkLate b := by
  obtain ⟨h1, h2, h3⟩ := h
  unfold rkLate; omega
theorem tgoods_app : ∀ l m : List TR, tgoods (l ++ m) ↔ tgoods l ∧ tgoods m
  | [], m => by simp [tgoods]
  | x :: r, m => by have := tgoods_app r m; simp only [List.cons_append, tgoods, this]; exact and_assoc.symm
theorem plains_app : ∀ l m : List TR, plains (l ++ m) = plains l ++ plains m
  | [], m => by simp [plains]
  | x :: r, m => by have := plains_app r m; simp only [List.cons_append, plains, this, List.append_assoc]
theorem flat_mk {b w : Nat} : ∀ c : Nat, (mkWords b w c).flatten = (List.range (c * w)).map fun i => b + i
  | 0 => by simp [mkWords]
  | c + 1 => by
    have e : mkWords b w (c + 1) = mkWords b w c ++ [(List.range w).map fun j => b + c * w + j] := by
      unfold mkWords; rw [List.range_succ, List.map_append]; rfl
    rw [e, List.flatten_append, flat_mk c, Nat.succ_mul, List.range_add, List.map_append, List.map_map]
    congr 1
    simp [Function.comp_def, Nat.add_assoc]
structure GInv (s : List TR × Nat) : Prop where
  good : tgoods s.1
  lay : plains s.1 = List.range s.2
theorem GInv.step {s : List TR × Nat} (I : GInv s) (n : Int) : GInv (step s n) ∧ (step s n).1 ≠ [] := by
  obtain ⟨l1, l2⟩ := I
  unfold Mine.step
  split
  · next h =>
    obtain ⟨h1, h2⟩ := h
    generalize hm : s.1.length - manyI n = m
    have e := List.take_append_drop m s.1
    have o1 := tgoods_app (s.1.take m) (s.1.drop m)
    have p1 := plains_app (s.1.take m) (s.1.drop m)
    rw [e] at o1 p1
    have o2 := o1.mp l1
    refine ⟨⟨?_, ?_⟩, by simp⟩
    · rw [tgoods_app]
      refine ⟨o2.1, ?_⟩
      simp only [tgoods, tgood]
      refine ⟨⟨fun q => ?_, o2.2⟩, trivial⟩
      have := congrArg List.length q
      rw [List.length_drop, List.length_nil] at this
      omega
    · rw [plains_app, ← l2, p1]
      simp [plains, plain]
  · refine ⟨⟨?_, ?_⟩, by simp⟩
    · rw [tgoods_app]
      refine ⟨l1, ?_⟩
      simp only [tgoods, tgood]
      refine ⟨⟨fun q => ?_, widI n, (widI_le n).1, fun w hw => mkWords_mem hw⟩, trivial⟩
      have := congrArg List.length q
      rw [mkWords_len, List.length_nil] at this
      have := (cntI_le n).1
      omega
    · rw [plains_app, l2, List.range_add]
      simp [plains, plain, flat_mk]
theorem ginv_at (ns : List Int) : ∀ i, i ≤ ns.length → GInv (stAt ns i) ∧ (0 < i → (stAt ns i).1 ≠ [])
  | 0, _ => ⟨⟨by simp [stAt, tgoods], by simp [stAt, plains]⟩, fun h => absurd h (by decide)⟩
  | i + 1, h => by
    have e : ns[i]? = some (ns[i]'(by omega)) := List.getElem?_eq_getElem _
    rw [stAt_succ e]
    have := (ginv_at ns i (by omega)).1.step ns[i]
    exact ⟨this.1, fun _ => this.2⟩
theorem mkTree_good (ns : List Int) (h : ns ≠ []) : tgood (mkTree ns) ∧ plain (mkTree ns) = List.range (tlen (mkTree ns)) := by
  obtain ⟨⟨h1, h2⟩, h3⟩ := ginv_at ns ns.length (Nat.le_refl _)
  have hl := plains_len (stAt ns ns.length).1
  rw [h2, List.length_range] at hl
  unfold mkTree
  rw [tgood, plain, tlen, h2, hl]
  exact ⟨⟨h3 (List.length_pos_iff.mpr h), h1⟩, rfl⟩
end Mine
end
noncomputable section
open PySem PySem.W PySem.Calls PyProof.Rows
set_option Elab.async false
set_option linter.unusedVariables false
set_option maxRecDepth 100000
namespace Mine
variable {prog : Program} {w : World} {G : Heap → Prop} {Z : Addr → Prop}
theorem start_list {A : Around} (hh : A.handled = none) {X h g dr tk o l v} (r : Rep h X (.lst l) v) {Q : Value → Shared → Prop} {E : Value → Shared → Prop}
    (q : ∀ fp P St ob, Started prog w A X h (.lst l) fp P St → (∀ i H, St i H → ∃ o, H.get? h.objs.size = some o ∧ o.cls = .type "list_iterator") → St 0 (h.push ob) → Q (.ref h.objs.size) ⟨h.push ob, g, dr, tk, o⟩) : wpAny (model prog w) A (pyIter v) Q E ⟨h, g, dr, tk, o⟩ := by
    obtain ⟨a, vs, rfl, hx, hl, rs⟩ := r
    refine wpAny_pyIter_list (s := ⟨h, g, dr, tk, o⟩) hl ?_
    have hne : a ≠ h.objs.size := Nat.ne_of_lt (let ⟨_, e, _⟩ := hl; Heap.lt_size e)
    refine q [h.objs.size, a] (fun i v => vs.toArray[i]? = some v) (fun i h' => h'.IsListIter h.objs.size a i ∧ h'.IsList a vs.toArray) _ ⟨by rw [show (items (.lst l)).length = vs.toArray.size by simp [items_lst, rs.length]]; exact Walks.list hh h.objs.size a hne vs.toArray, fun i v e => ?_, fun b hb => ?_, fun i H st b hb ob e => ?_, fun i H st => ?_⟩ (fun i H st => let ⟨⟨o1, h1, h2, _⟩, _⟩ := st; ⟨o1, h1, h2⟩) ⟨⟨_, Heap.get?_push_size _ rfl, rfl, rfl⟩, hl.push _⟩
    · have e' : vs[i]? = some v := by simpa using e
      have hi : i < l.length := by rw [← rs.length]; exact (List.getElem?_eq_some_iff.mp e').1
      obtain ⟨v', e1, r1⟩ := rs.get (i := i) (d := l[i]) (by simp [hi])
      rw [e'] at e1; cases e1
      exact ⟨l[i], by simp [items_lst, hi], r1⟩
    · simp at hb
      rcases hb with rfl | rfl
      · exact .inl rfl
      · obtain ⟨ob, ho, _, n, hd⟩ := hl
        exact .inr ⟨⟨ob, ho, _, n, hd⟩, hx⟩
    · simp at hb
      rcases hb with rfl | rfl
      · obtain ⟨⟨o1, h1, h2, _⟩, _⟩ := st
        rw [h1] at e; cases e; rw [h2]; exact fun q => nomatch q
      · obtain ⟨_, ⟨o1, h1, h2, _⟩⟩ := st
        rw [h1] at e; cases e; rw [h2]; exact fun q => nomatch q
    · obtain ⟨⟨o1, h1, h2, h3⟩, _⟩ := st
      exact ⟨o1, h1, .fields h3 (by rw [h2]; decide), by simp [h3], by simp [h3]⟩
/-- what holds while only dicts, cells and iterators are turned -/
noncomputable def StabC (O : Addr → Prop) (P : Heap → Prop) : Prop := ∀ S h h', Grow S h h' → (∀ b, S b → ¬ O b) → (∀ b o, S b → h.get? b = some o → (∃ es n, o.data = .dict es n) ∨ (∃ v, o.data = .cell v) ∨ o.cls = .type "list_iterator") → P h → P h'
theorem soft_mut {X h env} {ρ : Rho} (F : Fok G Z X h env ρ) : ∀ b o, Mut env b → h.get? b = some o → (∃ es n, o.data = .dict es n) ∨ (∃ v, o.data = .cell v) ∨ o.cls = .type "list_iterator" := fun b o m e => by
  obtain ⟨o', e', q⟩ := Mut.kind F m
  rw [e] at e'; cases e'
  rcases q with q | q
  · exact .inl q
  · exact .inr (.inl q)
section
variable {k : Nat} {env : Env} {ρ ρ' ρ'' : Rho} {O : Addr → Prop} {P P' P'' : Heap → Prop}
theorem TrO.ofC {t : Sem Flow} {f : Fl} (hs : StabC O P) (H : Tree prog w G Z k env ρ t (Mut env) fun X h r => f.Is X h r ∧ Fok G Z X h env ρ') : TrO prog w G Z k env O P ρ t f ρ' P := by
  intro A hA X h g dr tk o hO F hP
  exact H.use hA F fun h' t' v gr r => ⟨h', t', rfl, gr.mono fun _ => .inl, r.1, r.2, hs _ _ _ gr (fun b m q => (hO b q).2 m) (soft_mut F) hP⟩
/-- for: what holds after each turn -/
theorem ex_forC (W : Glob G Z) {Ps : Nat → Heap → Prop} {ρs : Nat → Rho} {x : Str} {p : Pos} {iter : Expr} {body : List Stmt} {pos : Pos} {l : List D}
    (h₁ : EvS prog w G Z k env (ρs 0) iter (.lst l)) (hst : ∀ i, StabC O (Ps i))
    (hb : ∀ i e, l[i]? = some e → ExsO prog w G Z k env O (Ps i) (upd (ρs i) x e) body .next (ρs (i + 1)) (Ps (i + 1)))
    (hl : env.kindOf x = some .local ∨ env.kindOf x = some .cell := by first | exact .inl rfl | exact .inr rfl) (hf : env.scope.kind = .function := by rfl)
    (hs : ∀ v, foldedSetIterable iter env v = pure v := by intro _; rfl) :
    ExO prog w G Z k env O (Ps 0) (ρs 0) (.For (.Name x p) iter body [] pos) .next (ρs l.length) (Ps l.length) := by
  intro A hA X h g dr tk o hO F hP
  refine jFor (h₁.use hA F fun h1 t1 v g1 r1 => ?_) hs
  have F1 := F.le W g1
  have hP1 : Ps 0 h1 := hst 0 no h h1 g1 (fun _ q => q.elim) (fun _ _ q => q.elim) hP
  refine wpJ.of <| start_list hA.handled r1 fun fp P' St ob T LI st => ?_
  have nI : ¬ ∃ o, h1.get? h1.objs.size = some o := fun ⟨_, e⟩ => Nat.lt_irrefl _ (Heap.lt_size e)
  have mI : ¬ Mut env h1.objs.size := fun m => let ⟨o', e, _⟩ := Mut.kind F1 m; nI ⟨o', e⟩
  have xI : ¬ X h1.objs.size := fun q => nI (F1.xs _ q)
  have oI : ¬ O h1.objs.size := fun q => xI (hO _ q).1
  have lowI : ¬ Z h1.objs.size := W.fresh h1 F1.g _ (Nat.le_refl _)
  have ft : ∀ b ∈ fp, ¬ (Mut env b ∨ O b) := fun b hb q => by
    rcases T.feet b hb with rfl | ⟨⟨o', e, xs, n, hd⟩, hx⟩
    · exact q.elim mI oI
    · rcases q with q | q
      · obtain ⟨o2, e2, k2⟩ := Mut.kind F1 q
        rw [e] at e2; cases e2
        rcases k2 with ⟨_, _, k2⟩ | ⟨_, k2⟩ <;> (rw [hd] at k2; cases k2)
      · exact hx (hO b q).1
  refine codeJ_forLoop (fun n s => ∃ i H tk', i ≤ l.length ∧ n = l.length - i ∧ s = ⟨H, g, dr, tk', o⟩ ∧ St i H ∧ Fok G Z X H env (ρs i) ∧ Ps i H ∧ Grow (fun b => (Mut env b ∨ O b) ∨ b = h1.objs.size) h1 H) ?_ l.length
    ⟨0, _, _, Nat.zero_le _, rfl, rfl, st, F1.le W (.push _ _), hst 0 no h1 _ (.push _ _) (fun _ q => q.elim) (fun _ _ q => q.elim) hP1, .push _ _⟩
  rintro n s ⟨i, H, tk', hi, rfl, rfl, stH, FH, hPH, gH⟩
  have step : ∀ H1, (∀ b o, b ∉ [h1.objs.size] → H.get? b = some o → H1.get? b = some o) → Fok G Z X H1 env (ρs i) ∧ Ps i H1 ∧ Grow (fun b => (Mut env b ∨ O b) ∨ b = h1.objs.size) h1 H1 := fun H1 kp => by
    have gI : Grow (fun b => b = h1.objs.size) H H1 := ⟨fun b o' nb e => kp b o' (by simpa using nb) e⟩
    refine ⟨FH.turn W gI (fun b e => e ▸ lowI) (fun b e q => absurd (e ▸ q) xI) (fun b e => ?_), hst i _ H H1 gI (fun b e q => oI (e ▸ q)) (fun b o' e eo => by obtain ⟨o2, e2, c2⟩ := LI i H stH; rw [e, e2] at eo; cases eo; exact .inr (.inr c2)) hPH, gH.trans (gI.mono fun b e => .inr e)⟩
    obtain ⟨o', e', b1, b2, b3⟩ := T.bare i H stH
    exact ⟨o', e ▸ e', .inr b1, b2, b3⟩
  by_cases hlt : i < l.length
  · refine wpJ.of <| T.walks.item i _ _ _ hlt stH fun v' H1 tk1 hPv stH1 kp => ?_
    obtain ⟨F1', hP1', g1'⟩ := step H1 kp
    obtain ⟨e, he, re⟩ := T.item i v' hPv
    have re' : Rep H1 X e v' := re.grow g1' (fun b q => by
      rcases q with (q | q) | q
      · exact .inr (Mut.noSeq F1 q)
      · exact .inl (hO b q).1
      · exact .inr fun o' e' => absurd ⟨o', q ▸ e'⟩ nI) fun _ _ x => x
    refine jAssignName (store_S W hl hf F1' re' fun H2 t2 g2 F2 => ?_)
    refine (hb i e he).use hA hO F2 (hst i _ H1 H2 g2 (fun b m q => (hO b q).2 m) (soft_mut F1') hP1') fun H3 t3 r g3 er F3 hP3 => ?_
    cases er
    refine ⟨l.length - (i + 1), by omega, i + 1, H3, t3, hlt, rfl, rfl, T.walks.frame (i + 1) H1 H3 stH1 fun b hb' o' e' => ?_, F3, hP3, ?_⟩
    · have g23 : Grow (fun b => Mut env b ∨ O b) H1 H3 := (g2.mono fun _ => .inl).trans g3
      exact g23.get (ft b hb') e' (T.named (i + 1) H1 stH1 b hb' o' e')
    · exact g1'.trans (((g2.mono fun _ => .inl).trans g3).mono fun b q => .inl q)
  · have hi' : i = l.length := by omega
    refine wpJ.of <| T.walks.done _ _ _ (hi' ▸ stH) fun H1 tk1 kp => ?_
    obtain ⟨F1', hP1', g1'⟩ := step H1 kp
    refine jExecs_nil ⟨H1, tk1, rfl, ?_, rfl, hi' ▸ F1', hi' ▸ hP1'⟩
    refine ⟨fun b o' nb e => ?_⟩
    have e1 := g1.old b o' (fun x => x) e
    exact g1'.old b o' (fun q => q.elim nb fun q => nI ⟨o', q ▸ e1⟩) e1
end
section
variable {M : Model} {A : Around} {s : Shared} {env : Env}
theorem jCall_kw {x : Str} {p pos kp : Pos} {a kw : Expr} {n : Str} {Q : Value → Shared → Prop} (hse : starEach [a] env = [(false, eval a env)])
    (h : wpJ M A (eval (.Name x p) env) (fun f s₁ => wpJ M A (eval a env) (fun v s₂ => wpJ M A (eval kw env) (fun u s₃ => (∀ {Q' : Keeper → Shared → Prop}, Q' .machine s₃ → wpAny M A (keeperOf f) Q' noE s₃) ∧ wpJ M A (call f [v] [(n, u)]) Q s₃) s₂) s₁) s) :
    wpJ M A (eval (.Call (.Name x p) [a] [⟨some n, kw, kp⟩] pos) env) Q s := by
  show wpJ M A (do callWith pos (← eval (.Name x p) env) [] (backTo pos (starEach [a] env)) (backToKw pos (keywordEach [⟨some n, kw, kp⟩] env))) Q s
  rw [hse]
  refine wpJ_bind (wpJ_mono h fun f s₁ h₁ => ?_)
  have key : wpJ M A (spliced [(false, eval a env)] >>= fun ps => (holding (ps ++ (none : Option Value).toList) (do
      let kw' := ([(some n, (do let v ← eval kw env; standAt pos; pure v : Sem Value))].filterMap (·.1)).zip (← evalAll ([((some n : Option Str), (do let v ← eval kw env; standAt pos; pure v : Sem Value))].map (·.2)))
      return ⟨← pure ps, kw'⟩) : Sem Args)) (fun a s' => (∀ {Q' : Keeper → Shared → Prop}, Q' .machine s' → wpAny M A (keeperOf f) Q' noE s') ∧ wpJ M A (call f a.pos a.kw) Q s') s₁ := by
    refine wpJ_bind (jSpliced_cons (wpJ_mono h₁ fun v s₂ h₂ => jSpliced_nil (wpJ_holding ?_)))
    refine wpJ_bind ?_
    show wpJ M A (do let u ← (do let v ← eval kw env; standAt pos; pure v : Sem Value); return u :: (← holding [u] (evalAll []))) _ s₂
    refine wpJ_bind (wpJ_bind (wpJ_mono h₂ fun u s₃ h₃ => wpJ_at (wpJ_pure ?_)))
    refine wpJ_bind (wpJ_holding (wpJ_pure (wpJ_pure ?_)))
    exact wpJ_bind (wpJ_pure (wpJ_pure h₃))
  unfold callWith
  refine wpJ_bind (wpJ_holding (wpJ_mono key fun ar s₃ h₃ => wpJ_at ?_))
  obtain ⟨hkp, hc⟩ := h₃
  refine wpJ_bind (wpJ.of (hkp ?_))
  show wpJ M A (do let r ← call f ([] ++ ar.pos) ar.kw; holding [r] point; pure r) Q s₃
  exact wpJ_bind (wpJ_mono hc fun r s₂ hr => wpJ_bind (wpJ_holding (wpJ.of (wpAny_point (wpJ_pure hr)))))
end
end Mine
end
noncomputable section
open PySem PySem.W PySem.W.X PyProof.Rows
set_option Elab.async false
set_option linter.unusedVariables false
set_option maxRecDepth 100000
namespace Mine
variable {prog : Program} {w : World} {G : Heap → Prop} {Z : Addr → Prop}
/-- the table of cmp_to_key's code: new, or as it is once a class has been made -/
noncomputable def TS (h : Heap) : Prop := h.get? 23 = some (tabObj #[]) ∨ ∃ cK PK cs, MT h cK PK cs
theorem TS.obj {h : Heap} (t : TS h) : ∃ ps, h.get? 23 = some (tabObj ps) := by
  rcases t with t | ⟨_, _, _, t, _⟩
  · exact ⟨_, t⟩
  · exact ⟨_, t⟩
theorem stab_ts : StabC (fun b => b = 23) TS := by
  intro S h h' g hS hC t
  have e23 : ∀ {o}, h.get? 23 = some o → h'.get? 23 = some o := fun e => g.old 23 _ (fun s => hS 23 s rfl) e
  rcases t with t | ⟨cK, PK, cs, t, T, K⟩
  · exact .inl (e23 t)
  · refine .inr ⟨cK, PK, cs, e23 t, T.other g.old (fun s => ?_) (fun s => ?_), fun i a b => ?_⟩
    · rcases hC PK _ s T.tab with ⟨es, n, q⟩ | ⟨v, q⟩ | q <;> cases q
    · obtain ⟨o, vs, file, tf, flags, tg, inF, text, tt, e, c, d, r⟩ := T.hd
      rcases hC cK _ s e with ⟨es, n, q⟩ | ⟨v, q⟩ | q
      · rw [d] at q; cases q
      · rw [d] at q; cases q
      · rw [c] at q; simp at q
    · obtain ⟨o, vs, t, e, c, d, r⟩ := K i a b
      refine ⟨o, vs, t, g.old _ _ (fun s => ?_) e, c, d, r⟩
      rcases hC _ _ s e with ⟨es, n, q⟩ | ⟨v, q⟩ | q
      · rw [d] at q; cases q
      · rw [d] at q; cases q
      · rw [c] at q; simp at q
theorem TS.le {h h' : Heap} (t : TS h) (g : Le h h') : TS h' := stab_ts no h h' g (fun _ q => q.elim) (fun _ _ q => q.elim) t
/-- what the law of 01 knows of the top -/
structure Top01 (P : Params) (G : Heap → Prop) : Prop where
  f21 : FnOk G 21 (fnOf (hd01.heap_1 P) 21)
  f28 : FnOk G 28 (fnOf (hd01.heap_1 P) 28)
  f37 : FnOk G 37 (fnOf (hd01.heap_1 P) 37)
  f42 : FnOk G 42 (fnOf (hd01.heap_1 P) 42)
  f47 : FnOk G 47 (fnOf (hd01.heap_1 P) 47)
  f52 : FnOk G 52 (fnOf (hd01.heap_1 P) 52)
  f59 : FnOk G 59 (fnOf (hd01.heap_1 P) 59)
  f66 : FnOk G 66 (fnOf (hd01.heap_1 P) 66)
  f73 : FnOk G 73 (fnOf (hd01.heap_1 P) 73)
  f80 : FnOk G 80 (fnOf (hd01.heap_1 P) 80)
  f85 : FnOk G 85 (fnOf (hd01.heap_1 P) 85)
  g_len : GV G "len" (.builtin "len")
  g_sum : GV G "sum" (.builtin "sum")
  g_sorted : GV G "sorted" (.builtin "sorted")
  g_iter : GV G "iter" (.builtin "iter")
  g_miss : GV G "_initial_missing" (.ref 29)
  g_ba : GV G "bytearray" (.type "bytearray")
  g_range : GV G "range" (.type "range")
  g_bytes : GV G "bytes" (.type "bytes")
  g_obj : GV G "object" (.type "object")
  g_swap : GV G "_byteswap" (.ref 21)
  g_cmp : GV G "cmp_to_key" (.ref 28)
  g_red : GV G "reduce" (.ref 37)
  g_tree : GV G "_law_tree" (.ref 42)
  g_read : GV G "_law_read" (.ref 47)
  g_str : GV G "_law_stretches" (.ref 52)
  g_turn : GV G "_law_turn" (.ref 59)
  g_short : GV G "_law_shorter" (.ref 66)
  g_soon : GV G "_law_sooner" (.ref 73)
  g_late : GV G "_law_later" (.ref 80)
  miss : ∀ h, G h → ∃ o, h.get? 29 = some o ∧ o.cls = .type "object"
  dflt : ∀ h, G h → ∃ o dv n, h.get? 30 = some o ∧ o.data = .seq #[dv] n
  top : TopOk G 27 23
theorem FnOk.weak {G' : Heap → Prop} {a fd} (x : FnOk G a fd) (hg : ∀ h, G' h → G h) : FnOk G' a fd := fun h q => x h (hg h q)
theorem cmp_ts (W : Glob G Z) {P : Params} (T : Top01 P G) {f : Value} : CallO prog w G 91 (fun b => b = 23) TS (.ref 28) [.val f] (fun X h' v => ∃ C, v = .ref C ∧ ¬ X C ∧ KCz X P h' C f ∧ TS h') := by
  intro A hA X h g dr tk o vs hg hx hO hP r
  rcases hP with hP | ⟨cK, PK, cs, hP⟩
  · exact wpJ_mono (cmp_new W P T.f28 T.top T.g_obj A hA X h g dr tk o vs hg hx hO hP r) fun v s' ⟨h', t', e, gr, C, cK, PK, cs, e1, n, K, M⟩ => ⟨h', t', e, gr, C, e1, n, K, .inr ⟨cK, PK, cs, M⟩⟩
  · exact wpJ_mono (cmp_again W P T.f28 T.top T.g_obj A hA X h g dr tk o vs hg hx hO hP r) fun v s' ⟨h', t', e, gr, C, e1, n, K, M⟩ => ⟨h', t', e, gr, C, e1, n, K, .inr ⟨cK, PK, cs, M⟩⟩
theorem LtK.mono {k j : Nat} {d₁ d₂ : D} {b : Bool} (H : LtK prog w G k d₁ d₂ b) (hj : k ≤ j) : LtK prog w G j d₁ d₂ b := fun A hA => H A (hA.mono hj)
theorem strD_handed {p : S3} : ∀ h X v, Rep h X (strD p) v → handedOut v = pure v := by
  rintro h X v ⟨a, vs, rfl, _⟩
  rfl
theorem getD_map {s : List S3} {i : Nat} (h : i < s.length) : (s.map strD).getD i .none = strD (s.getD i (0, 0, 0)) := by
  rw [List.getD_eq_getElem?_getD, List.getElem?_map, List.getD_eq_getElem?_getD, List.getElem?_eq_getElem h]; rfl
section
variable {k : Nat} {env : Env} {ρ ρ' : Rho}
/-- order = sorted(stretches, key=cmp_to_key(rule)) -/
theorem ex_sort (W : Glob G Z) (T : Top01 w.params G) (hZ : ¬ Z 23) {y xs rl pos' p1 p2 p3 p4 p5 kp pos spos rest} {s : List S3} {a : Addr} {ci : S3 → S3 → Int} {rk : S3 → Int} {f : Fl}
    (hxs : ρ xs = some (.lst (s.map strD))) (hrl : ρ rl = some (.val (.ref a))) (hs64 : s.length < 64)
    (hc : ∀ {G' : Heap → Prop} {Z' : Addr → Prop}, Glob G' Z' → (∀ h, G' h → G h) → Callee G' (.ref a) ∧ ∀ p q, CallS prog w G' 11 (.ref a) [strD p, strD q] (.int (ci p q)))
    (hrk : ∀ p ∈ s, ∀ q ∈ s, decide (ci p q < 0) = decide (rk p < rk q))
    (H : ∀ p, PB s.length p → Srt (fun i => rk (s.getD i (0, 0, 0))) p s.length → ExsO prog w G Z k env (fun b => b = 23) TS (upd ρ y (.lst ((p.toList.map fun i => s.getD i (0, 0, 0)).map strD))) rest f ρ' TS)
    (hk : 600 ≤ k := by omega) (hy : env.kindOf y = some .local ∨ env.kindOf y = some .cell := by first | exact .inl rfl | exact .inr rfl)
    (hlx : env.kindOf xs = some .local := by rfl) (hlr : env.kindOf rl = some .local := by rfl) (hf : env.scope.kind = .function := by rfl)
    (hdx : (xs == ("__debug__" : Str)) = false := by decide) (hdr : (rl == ("__debug__" : Str)) = false := by decide)
    (hg1 : env.kindOf "sorted" = some .globalImplicit := by rfl) (hg2 : env.kindOf "cmp_to_key" = some .globalImplicit := by rfl) (hgl : env.globals = mainGlobals := by rfl) (hbi : env.builtins = builtinsNs := by rfl)
    (hse : starEach [.Name xs p2] env = [(false, eval (.Name xs p2) env)] := by rfl) (hse2 : starEach [.Name rl p4] env = [(false, eval (.Name rl p4) env)] := by rfl)
    (hsw : swapsWith (.Call (.Name "sorted" p1) [.Name xs p2] [⟨some "key", .Call (.Name "cmp_to_key" p3) [.Name rl p4] [] p5, kp⟩] pos) (some (.Name y pos')) spos.line env = pure false := by rfl) :
    ExsO prog w G Z k env (fun b => b = 23) TS ρ (.Assign [.Name y pos'] (.Call (.Name "sorted" p1) [.Name xs p2] [⟨some "key", .Call (.Name "cmp_to_key" p3) [.Name rl p4] [] p5, kp⟩] pos) spos :: rest) f ρ' TS := by
  intro A hA X h g dr tk o hO F hP
  have x23 : X 23 := (hO 23 rfl).1
  refine jExecs_cons (jAssign (jCall_kw hse ?_) hsw)
  refine (ev_global T.g_sorted hg1 hf hgl hbi (by decide)).use hA F fun h1 t1 v1 g1 r1 => ?_
  cases r1
  have F1 := F.le W g1
  refine (ev_local hxs hlx hf hdx).use hA F1 fun h2 t2 v2 g2 r2 => ?_
  have F2 := F1.le W g2
  refine jCall_Name ((ev_global T.g_cmp hg2 hf hgl hbi (by decide)).use hA F2 fun h3 t3 v3 g3 r3 => ?_)
  cases r3
  have F3 := F2.le W g3
  rw [hse2]
  refine jCallWith rfl (Nat.le_of_ble_eq_true rfl) (jSpliced_cons ((ev_local hrl hlr hf hdr).use hA F3 fun h4 t4 v4 g4 r4 => jSpliced_nil ⟨⟨.frame, .inl rfl, fun q => ?_⟩, ?_⟩))
  · obtain ⟨o', e, d, _⟩ := T.f28 h4 (F3.le W g4).g
    unfold keeperOf
    refine wpAny_bind (wpAny_load e ?_)
    rw [d]
    exact wpAny_pure q
  cases r4
  have F4 := F3.le W g4
  have g14 : Le h h4 := ((g1.trans g2).trans g3).trans g4
  have P4 : TS h4 := hP.le g14
  refine wpJ_mono (cmp_ts W T A (hA.mono (by omega)) X h4 g dr t4 o _ F4.g F4.xs (fun b q => (hO b q).1) P4 ⟨_, _, rfl, rfl, rfl⟩) fun v s' hv => ?_
  obtain ⟨h6, t6, rfl, g6, C, rfl, nC, K, P6⟩ := hv
  refine ⟨fun q => wpAny_pure q, ?_⟩
  obtain ⟨ps6, e6⟩ := P6.obj
  obtain ⟨ps4, e4⟩ := P4.obj
  have F6 : Fok G Z X h6 env ρ := F4.turn W g6 (fun b e => e ▸ hZ) (fun b e _ => ⟨_, e ▸ e6⟩) (fun b e => ⟨_, e ▸ e4, .inl (e ▸ x23), (fun _ _ q => by cases q), (fun _ q => by cases q)⟩)
  have W' := W.freeze no h6
  have r6 : Rep h6 X (.lst (s.map strD)) v2 := (r2.le (g3.trans g4)).grow g6 (fun b e => .inl (e ▸ x23)) fun _ _ q => q
  obtain ⟨cC, cc⟩ := hc W' (fun h q => q.1)
  have fr : ∀ h, G h ∧ Grow no h6 h → Le h6 h := fun h q => q.2
  refine sorted_call (r := fun i => rk (s.getD i (0, 0, 0))) W' (by rw [List.length_map]; exact hs64) (fun {d} => key_new fr K.kc (fun h q => T.top.stat h q.1)) (fun i j hi hj => ?_) (hA.mono hk) ⟨F6.g, .refl _ _⟩ F6.xs r6 fun h7 t7 v7 p hp hsr g7 r7 => ?_
  · rw [List.length_map] at hi hj
    rw [getD_map hi, getD_map hj]
    have hq := (key_lt W' fr K.kc cC (cc (s.getD i (0, 0, 0)) (s.getD j (0, 0, 0))) strD_handed strD_handed).mono (j := 90) (by decide)
    have mi : s.getD i (0, 0, 0) ∈ s := by rw [List.getD_eq_getElem?_getD, List.getElem?_eq_getElem hi]; exact List.getElem_mem hi
    have mj : s.getD j (0, 0, 0) ∈ s := by rw [List.getD_eq_getElem?_getD, List.getElem?_eq_getElem hj]; exact List.getElem_mem hj
    have e : saysOf 5 (ci (s.getD i (0, 0, 0)) (s.getD j (0, 0, 0))) = rlt (fun i => rk (s.getD i (0, 0, 0))) i j := hrk _ mi _ mj
    rw [e] at hq
    exact hq
  · rw [List.length_map] at hp hsr
    have er : (p.toList.map fun i => (s.map strD).getD i .none) = (p.toList.map fun i => s.getD i (0, 0, 0)).map strD := by
      rw [List.map_map]
      refine List.map_congr_left fun i hi => ?_
      have : i < s.length := by simpa using hp.perm.subset hi
      exact getD_map this
    rw [er] at r7
    have F7 := F6.le W g7
    refine store_S W hy hf F7 r7 fun h8 t8 g8 F8 => ?_
    have P8 : TS h8 := stab_ts (Mut env) h7 h8 g8 (fun b m e => (hO b e).2 m) (soft_mut F7) (P6.le g7)
    refine (H p hp hsr).use hA hO F8 P8 fun h9 t9 r9 g9 fr9 F9 P9 => ⟨h9, t9, rfl, ?_, fr9, F9, P9⟩
    exact ((((Grow.any g14).trans (g6.mono fun _ => .inr)).trans (Grow.any g7)).trans (g8.mono fun _ => .inl)).trans g9
end
end Mine
end
noncomputable section
open PySem PySem.W PySem.W.X PyProof.Rows
set_option Elab.async false
set_option linter.unusedVariables false
set_option maxRecDepth 100000
namespace Mine
variable {prog : Program} {w : World} {G : Heap → Prop} {Z : Addr → Prop}
mutual
theorem act_mem : ∀ (t : TR) (n : Nat), n ∈ act t → n ∈ plain t
  | .leaf t ws, n, h => by
    rw [act] at h
    rw [plain]
    cases t
    · exact h
    · obtain ⟨l, hl, hn⟩ := List.mem_flatten.mp h
      obtain ⟨a, ha, rfl⟩ := List.mem_map.mp hl
      exact List.mem_flatten.mpr ⟨a, ha, by simpa using hn⟩
  | .block t ps, n, h => by
    rw [act] at h
    rw [plain]
    cases t
    · exact acts_mem ps n h
    · exact acts_mem ps n (by simpa using h)
theorem acts_mem : ∀ (l : List TR) (n : Nat), n ∈ acts l → n ∈ plains l
  | [], n, h => h
  | x :: r, n, h => by
    rw [acts] at h
    rw [plains]
    rcases List.mem_append.mp h with h | h
    · exact List.mem_append_left _ (act_mem x n h)
    · exact List.mem_append_right _ (acts_mem r n h)
end
noncomputable def argN (x : Str) (p : Pos) : Arg := { arg := x, annotation := none, pos := p }
theorem bind3 {M : Model} {A : Around} {E : Value → Shared → Prop} {fd : FuncData} {s : Shared} {a b c dv : Value} {D : Addr} {n : Nat} {p1 p2 p3 : Pos} {df : List Expr} {o : Obj} (hp : fd.params = { posonlyargs := [], args := [argN "function" p1, argN "sequence" p2, argN "initial" p3], vararg := none, kwonlyargs := [], kw_defaults := [], kwarg := none, defaults := df }) (hd : fd.defaults = .ref D)
   (h : s.heap.get? D = some o) (ho : o.data = .seq #[dv] n) {Q : List (Str × Value) → Shared → Prop}
   (q : Q ((["function", "sequence", "initial"] : List Str).zip [a, b, c]) s) : wpAny M A (bindArgs fd ⟨[a, b, c], []⟩) Q E s := by
  unfold bindArgs
  rw [hp, hd]
  refine wpAny_bind (wpAny_pure ?_)
  refine wpAny_bind (wpAny_seqItems h ho ?_)
  exact wpAny_of_eq (a := ((["function", "sequence", "initial"] : List Str).zip [a, b, c])) (by kernel_rfl) q
theorem red_params (P : Params) : (fnOf (hd01.heap_1 P) 37).defaults = .ref 30 ∧ ∃ p1 p2 p3 df, (fnOf (hd01.heap_1 P) 37).params = { posonlyargs := [], args := [argN "function" p1, argN "sequence" p2, argN "initial" p3], vararg := none, kwonlyargs := [], kw_defaults := [], kwarg := none, defaults := df } := ⟨by kernel_rfl, ⟨35, 11, 35, 19⟩, ⟨35, 21, 35, 29⟩, ⟨35, 31, 35, 38⟩, [.Name "_initial_missing" ⟨35, 39, 35, 55⟩], by kernel_rfl⟩
theorem Top01.red_bind {P : Params} (T : Top01 P G) (A : Around) (s : Shared) (vs : List Value) (hg : G s.heap) (hv : vs.length = 3) : wpAny (model prog w) A (bindArgs (fnOf (hd01.heap_1 P) 37) ⟨vs, []⟩) (fun b s' => b = (["function", "sequence", "initial"] : List Str).zip vs ∧ s' = s) noE s := by
  obtain ⟨hd, p1, p2, p3, df, hp⟩ := red_params P
  obtain ⟨o, dv, n, e, ho⟩ := T.dflt s.heap hg
  obtain ⟨a, b, c, rfl⟩ := len3 hv
  exact bind3 hp hd e ho ⟨rfl, rfl⟩
/-- reduce over stretches -/
theorem Top01.fold (W : Glob G Z) {P : Params} (T : Top01 P G) {l : List S3} {x : List UInt8} {N : Nat} (hv : ∀ p ∈ l, Val N p) (hx : x.length = N) (hN : N ≤ 48) : CallS prog w G 556 (.ref 37) [.val (.ref 59), .lst (l.map strD), .bytes x] (.bytes (run l x)) := by
  have H := reduce_call (prog := prog) (w := w) W P T.f37 (fun A s vs hg hv => T.red_bind A s vs hg hv) T.g_iter T.g_miss T.miss (f := .ref 59) T.f59.callee (d := .lst (l.map strD)) (acc := fun i => .bytes (run (l.take i) x)) (N := l.length) (k := 551) trivial (by rw [items_lst, List.length_map]) (.inr (.inr ⟨_, rfl⟩)) (fun i e he => ?_)
  · rw [List.take_length] at H
    exact H
  · rw [items_lst, List.getElem?_map, Option.map_eq_some_iff] at he
    obtain ⟨p, hp, rfl⟩ := he
    have vp := hv p (List.mem_of_getElem? hp)
    have hl : (run (l.take i) x).length = N := run_len (fun q hq => hv q (List.mem_of_mem_take hq)) hx
    have e : run (l.take (i + 1)) x = turnP (run (l.take i) x) p := by
      rw [List.take_add_one, hp, run_app]; rfl
    rw [e]
    have h1 := vp.lo
    have h2 := vp.hi
    have h3 := Nat.le_of_dvd (by omega) vp.dv
    exact turn_call W P T.f59 T.g_swap T.f21.callee (fun {data wd m} a b c d => byteswap_call W P T.f21 T.g_len T.g_ba T.g_range T.g_bytes a b c d) (by omega) (by omega) (by omega) vp.cnt vp.wd (by omega)
noncomputable def lawFd (P : Params) : FuncData := fnOf (hd01.heap_1 P) 85
noncomputable def lawBody (P : Params) : List Stmt := match (lawFd P).body with
  | .stmts b => b
  | _ => []
noncomputable def lawSt (P : Params) (i : Nat) : Stmt := ((lawBody P)[i]?).getD (.Pass default)
noncomputable abbrev lawEnv (P : Params) (L : Addr) : Env := callEnvC (lawFd P) L 85
theorem lawBody_eq (P : Params) : lawBody P = [lawSt P 0, lawSt P 1, lawSt P 2, lawSt P 3, lawSt P 4, lawSt P 5, lawSt P 6] := by kernel_rfl
noncomputable def filler : List Int := [88, 9, 6, 36, 29, 0, 7, 32]
noncomputable def nums (ns : List Int) : List Int := ns.take 8 ++ filler.drop (min 8 ns.length)
theorem nums_len (ns : List Int) : (nums ns).length = 8 := by
  unfold nums filler; simp; omega
noncomputable def r0 (ns : List Int) : Rho := bindR ["script"] [.lst (ns.map D.int)] nil
noncomputable def r1 (ns : List Int) : Rho := upd (r0 ns) "numbers" (.lst ((nums ns).map D.int))
set_option maxHeartbeats 4000000 in
theorem law_st0 (W : Glob G Z) {P : Params} {L : Addr} {k : Nat} (hk : 10 ≤ k) (g1 : GV G "len" (.builtin "len")) {ns : List Int} (hz : ns.length ≤ 63) : ExS prog w G Z k (lawEnv P L) (r0 ns) (lawSt P 0) .next (r1 ns) := by
  conv in (lawSt _ _) => whnf
  have e1 : cutL (ns.map D.int) none (some 8) = (ns.take 8).map D.int := by rw [show (8 : Int) = ((8 : Nat) : Int) from rfl, take_to, List.map_take]
  have e2 : cutL (filler.map D.int) (some (((ns.take 8).map D.int).length : Int)) none = (filler.drop (min 8 ns.length)).map D.int := by
    rw [cut_from _ _ (by simp [filler]; omega), List.map_drop]; simp
  have e3 : (nums ns).map D.int = (ns.take 8).map D.int ++ (filler.drop (min 8 ns.length)).map D.int := by unfold nums; rw [List.map_append]
  unfold r1
  rw [e3]
  have h8 : ((ns.take 8).map D.int).length ≤ 8 := by simp; omega
  have cut1 : ∀ {p1 p2 p3 p4 c}, EvS prog w G Z k (lawEnv P L) (r0 ns) (.Subscript (.Name "script" p1) (.Slice none (some (.Constant (.int 8) c p2)) none p3) p4) (.lst ((ns.take 8).map D.int)) := fun {p1 p2 p3 p4 c} =>
    EvS.eq (ev_cut_list W (ev_local rfl) part_none (part_some ev_int) (by simp; omega)) (congrArg D.lst e1)
  refine ex_assign W (ev_bin W cut1 (EvS.eq (ev_cut_list (l := filler.map D.int) W (ev_list W (evs_cons W ev_int (evs_cons W ev_int (evs_cons W ev_int (evs_cons W ev_int (evs_cons W ev_int (evs_cons W ev_int (evs_cons W ev_int (evs_cons W ev_int evs_nil))))))))) (part_some (ev_call W (ev_global g1) (.inl ⟨_, rfl⟩) (evs_cons W cut1 evs_nil) (call_len_list (by omega)))) part_none (by decide)) (congrArg D.lst e2)) (bin_list ?_))
  simp [filler]; omega
end Mine
end
noncomputable section
open PySem PySem.W PySem.W.X PyProof.Rows
set_option Elab.async false
set_option linter.unusedVariables false
set_option maxRecDepth 100000
namespace Mine
variable {prog : Program} {w : World} {G : Heap → Prop} {Z : Addr → Prop}
noncomputable def gU (n : Nat) : UInt8 := n.toUInt8
noncomputable def tT (ns : List Int) : TR := mkTree (nums ns)
noncomputable def tN (ns : List Int) : Nat := tlen (tT ns)
noncomputable def tS (ns : List Int) : List S3 := tstr (tT ns) 0
noncomputable def tA (ns : List Int) : List UInt8 := (plain (tT ns)).map gU
noncomputable def tD (ns : List Int) : List UInt8 := (trd (tT ns) false).map gU
theorem nums_ne (ns : List Int) : nums ns ≠ [] := fun q => by
  have := nums_len ns
  rw [q] at this
  simp at this
theorem tT_ok (ns : List Int) : tok (tT ns) ∧ tdep (tT ns) ≤ 9 ∧ tcnt (tT ns) ≤ 9 ∧ tN ns ≤ 48 := mkTree_ok (nums ns) (by rw [nums_len]; exact Nat.le_refl _)
theorem tT_good (ns : List Int) : tgood (tT ns) ∧ plain (tT ns) = List.range (tN ns) := mkTree_good (nums ns) (nums_ne ns)
theorem tS_val (ns : List Int) : ∀ p ∈ tS ns, Val (tN ns) p := fun p hp => by
  obtain ⟨a, b, c, d, e⟩ := str_in (tT_good ns).1 p hp
  exact ⟨c, by unfold tN; omega, d, e⟩
theorem tS_len (ns : List Int) : (tS ns).length ≤ 9 := by
  have h1 := tstr_len (tT ns) 0
  have h2 := (tT_ok ns).2.2.1
  unfold tS; omega
theorem tA_len (ns : List Int) : (tA ns).length = tN ns := by unfold tA tN; rw [List.length_map, plain_len]
theorem tD_len (ns : List Int) : (tD ns).length = tN ns := by unfold tD tN; rw [List.length_map, trd_len]
noncomputable def r2 (ns : List Int) : Rho := upd (r1 ns) "tree" (trD (tT ns))
noncomputable def r3 (ns : List Int) : Rho := upds (r2 ns) ["length", "stretches"] [.int (tN ns : Int), .lst ((tS ns).map strD)]
noncomputable def r4 (ns : List Int) : Rho := upd (r3 ns) "laid" (.bytes (tA ns))
noncomputable def r5 (ns : List Int) : Rho := upd (r4 ns) "due" (.bytes (tD ns))
set_option maxHeartbeats 4000000 in
theorem law_st1 (W : Glob G Z) {P : Params} (T : Top01 P G) {L : Addr} {k : Nat} (hk : 600 ≤ k) {ns : List Int} : ExS prog w G Z k (lawEnv P L) (r1 ns) (lawSt P 1) .next (r2 ns) := by
  conv in (lawSt _ _) => whnf
  exact ex_assign W (ev_call W (ev_global T.g_tree) T.f42.callee (evs_cons W (ev_local rfl) evs_nil) (tree_call W P T.f42 T.g_len T.g_range (nums ns) (nums_ne ns) (by rw [nums_len]; exact Nat.le_refl _)))
set_option maxHeartbeats 4000000 in
theorem law_st2 (W : Glob G Z) {P : Params} (T : Top01 P G) {L : Addr} {k : Nat} (hk : 600 ≤ k) {ns : List Int} : ExS prog w G Z k (lawEnv P L) (r2 ns) (lawSt P 2) .next (r3 ns) := by
  conv in (lawSt _ _) => whnf
  obtain ⟨h1, h2, h3, h4⟩ := tT_ok ns
  have H := stretches_call (prog := prog) (w := w) W P T.f52 T.g_len T.g_sum T.g_str 9 (tT ns) 0 h2 h1 (by omega)
  rw [Nat.zero_add] at H
  exact ex_unpack W (ev_call W (ev_global T.g_str) T.f52.callee (evs_cons W (ev_local rfl) (evs_cons W ev_int evs_nil)) H) (.name (.name .nil)) rfl (by intro x hx; simp at hx; rcases hx with rfl | rfl <;> exact .inl rfl)
set_option maxHeartbeats 4000000 in
theorem law_st3 (W : Glob G Z) {P : Params} (T : Top01 P G) {L : Addr} {k : Nat} (hk : 600 ≤ k) {ns : List Int} : ExS prog w G Z k (lawEnv P L) (r3 ns) (lawSt P 3) .next (r4 ns) := by
  conv in (lawSt _ _) => whnf
  have h4 := (tT_ok ns).2.2.2
  have e : tA ns = ((List.range (tN ns)).map fun (n : Nat) => (n : Int)).map fun n => n.toNat.toUInt8 := by
    unfold tA; rw [(tT_good ns).2, List.map_map]; rfl
  unfold r4
  rw [e]
  refine ex_assign W (ev_call W (ev_global T.g_bytes) (.inr (.inl ⟨_, rfl⟩)) (evs_cons W (d := .lst (((List.range (tN ns)).map fun (n : Nat) => (n : Int)).map D.int)) ?_ evs_nil) (call_bytes_list (ns := (List.range (tN ns)).map fun (n : Nat) => (n : Int)) ?_ ?_))
  · refine ev_comp W (d := .range 0 (tN ns : Int) 1) (cl := []) (ρc := nil) (outs := fun i => [.int (i : Int)]) (b := fun _ => true) ⟨by kernel_rfl, comp_cell (by decide +kernel), rfl, comp_names (by decide +kernel), trivial, ⟨(fun q => nomatch q), (fun q => nomatch q), trivial⟩, All.nil⟩ (ev_call W (ev_global T.g_range) (.inr (.inl ⟨_, rfl⟩)) (evs_cons W (ev_local rfl) evs_nil) call_range1) (can_range1 (by omega) (by omega)) ?_ ?_ rfl (by kernel_rfl) (fun C i e he => tests_nil) (fun C i e he _ => ?_) (fun i q => nomatch q)
    · rw [range_len, flat_one (fun i => D.int ((i : Nat) : Int)), List.map_map]; rfl
    · simp; omega
    · obtain ⟨hi, rfl⟩ := range_at he
      exact .emit (ev_local rfl)
  · intro n hn
    simp only [List.mem_map, List.mem_range] at hn
    obtain ⟨k, hk, rfl⟩ := hn
    omega
  · simp; omega
set_option maxHeartbeats 4000000 in
theorem law_st4 (W : Glob G Z) {P : Params} (T : Top01 P G) {L : Addr} {k : Nat} (hk : 600 ≤ k) {ns : List Int} : ExS prog w G Z k (lawEnv P L) (r4 ns) (lawSt P 4) .next (r5 ns) := by
  conv in (lawSt _ _) => whnf
  obtain ⟨h1, h2, h3, h4⟩ := tT_ok ns
  have e : tD ns = ((trd (tT ns) false).map fun (n : Nat) => (n : Int)).map fun n => n.toNat.toUInt8 := by
    unfold tD; rw [List.map_map]; rfl
  have H := read_call (prog := prog) (w := w) W P T.f47 T.g_read 9 (tT ns) false h2 h1 (by unfold tN at h4; omega)
  have ew : wordD (trd (tT ns) false) = .lst (((trd (tT ns) false).map fun (n : Nat) => (n : Int)).map D.int) := by
    unfold wordD; rw [List.map_map]; rfl
  rw [ew] at H
  unfold r5
  rw [e]
  refine ex_assign W (ev_call W (ev_global T.g_bytes) (.inr (.inl ⟨_, rfl⟩)) (evs_cons W (ev_call W (ev_global T.g_read) T.f47.callee (evs_cons W (ev_local rfl) (evs_cons W ev_bool evs_nil)) H) evs_nil) (call_bytes_list ?_ ?_))
  · intro n hn
    obtain ⟨m, hm, rfl⟩ := List.mem_map.mp hn
    rw [trd_act] at hm
    have := act_mem (tT ns) m hm
    rw [(tT_good ns).2, List.mem_range] at this
    omega
  · rw [List.length_map, trd_len]; unfold tN at h4; omega
end Mine
end
noncomputable section
open PySem PySem.W PySem.W.X PyProof.Rows
set_option Elab.async false
set_option linter.unusedVariables false
set_option maxRecDepth 100000
namespace Mine
variable {prog : Program} {w : World} {G : Heap → Prop} {Z : Addr → Prop}
noncomputable def lawFor (P : Params) : List Stmt := match lawSt P 5 with
  | .For _ _ b _ _ => b
  | _ => []
noncomputable def lawF (P : Params) (i : Nat) : Stmt := ((lawFor P)[i]?).getD (.Pass default)
theorem lawFor_eq (P : Params) : lawFor P = [lawF P 0, lawF P 1] := by kernel_rfl
noncomputable def rO (ns : List Int) (a : Addr) (l : List S3) : Rho := upd (upd (r5 ns) "rule" (.val (.ref a))) "order" (.lst (l.map strD))
set_option maxHeartbeats 1000000 in
theorem law_if (W : Glob G Z) {P : Params} (T : Top01 P G) {L : Addr} {k : Nat} (hk : 600 ≤ k) {ns : List Int} {a : Addr} {l : List S3} (hl : l.length ≤ 9)
    (f1 : CallS prog w G 556 (.ref 37) [.val (.ref 59), .lst (l.map strD), .bytes (tA ns)] (.bytes (tD ns))) (f2 : CallS prog w G 556 (.ref 37) [.val (.ref 59), .lst (l.map strD).reverse, .bytes (tD ns)] (.bytes (tA ns))) :
    ExS prog w G Z k (lawEnv P L) (rO ns a l) (lawF P 1) .next (rO ns a l) := by
  conv in (lawF _ _) => whnf
  refine ex_if W (b := false) (test_eq (test_or W (test_cmp W (ev_call W (ev_global T.g_red) T.f37.callee (evs_cons W (ev_global T.g_turn) (evs_cons W (ev_local rfl) (evs_cons W (ev_local rfl) evs_nil))) f1) (ev_local rfl) cmp_ne_bytes) (fun _ => test_cmp W (ev_call W (ev_global T.g_red) T.f37.callee (evs_cons W (ev_global T.g_turn) (evs_cons W (ev_rev_list W (ev_local rfl) (ev_neg W ev_int) (by rw [List.length_map]; omega)) (evs_cons W (ev_local rfl) evs_nil))) f2) (ev_local rfl) cmp_ne_bytes)) (by simp)) (fun q => nomatch q) (fun _ => exs_nil)
end Mine
end
noncomputable section
open PySem PySem.W PySem.W.X PyProof.Rows
set_option Elab.async false
set_option linter.unusedVariables false
set_option maxRecDepth 100000
namespace Mine
variable {prog : Program} {w : World} {G : Heap → Prop} {Z : Addr → Prop}
set_option maxHeartbeats 1000000 in
theorem law_sort (W : Glob G Z) (T : Top01 w.params G) (hZ : ¬ Z 23) {L : Addr} {k : Nat} (hk : 600 ≤ k) {ns : List Int} {a : Addr} {ci : S3 → S3 → Int} {rk : S3 → Int} {rest : List Stmt} {f : Fl} {ρ' : Rho}
    (hc : ∀ {G' : Heap → Prop} {Z' : Addr → Prop}, Glob G' Z' → (∀ h, G' h → G h) → Callee G' (.ref a) ∧ ∀ p q, CallS prog w G' 11 (.ref a) [strD p, strD q] (.int (ci p q)))
    (hrk : ∀ p ∈ tS ns, ∀ q ∈ tS ns, decide (ci p q < 0) = decide (rk p < rk q))
    (H : ∀ p, PB (tS ns).length p → Srt (fun i => rk ((tS ns).getD i (0, 0, 0))) p (tS ns).length → ExsO prog w G Z k (lawEnv w.params L) (fun b => b = 23) TS (rO ns a (p.toList.map fun i => (tS ns).getD i (0, 0, 0))) rest f ρ' TS) :
    ExsO prog w G Z k (lawEnv w.params L) (fun b => b = 23) TS (upd (r5 ns) "rule" (.val (.ref a))) (lawF w.params 0 :: rest) f ρ' TS := by
  conv in (lawF _ _) => whnf
  have h9 := tS_len ns
  have hx : (upd (r5 ns) "rule" (.val (.ref a))) "stretches" = some (.lst ((tS ns).map strD)) := rfl
  have hr : (upd (r5 ns) "rule" (.val (.ref a))) "rule" = some (.val (.ref a)) := rfl
  exact ex_sort W T hZ (s := tS ns) (a := a) (ci := ci) (rk := rk) hx hr (by omega) hc hrk H hk
end Mine
end
noncomputable section
open PySem PySem.W PySem.W.X PyProof.Rows
set_option Elab.async false
set_option linter.unusedVariables false
set_option maxRecDepth 100000
namespace Mine
variable {prog : Program} {w : World} {G : Heap → Prop} {Z : Addr → Prop}
/-- one rule -/
theorem law_rule (W : Glob G Z) (T : Top01 w.params G) (hZ : ¬ Z 23) {L : Addr} {k : Nat} (hk : 600 ≤ k) {ns : List Int} {a : Addr} {ci : S3 → S3 → Int} {rk : S3 → Int}
    (hc : ∀ {G' : Heap → Prop} {Z' : Addr → Prop}, Glob G' Z' → (∀ h, G' h → G h) → Callee G' (.ref a) ∧ ∀ p q, CallS prog w G' 11 (.ref a) [strD p, strD q] (.int (ci p q)))
    (hrk : ∀ p ∈ tS ns, ∀ q ∈ tS ns, decide (ci p q < 0) = decide (rk p < rk q)) (hbad : ∀ p ∈ tS ns, ∀ q ∈ tS ns, Bad p q → rk p < rk q) :
    ExsO prog w G Z k (lawEnv w.params L) (fun b => b = 23) TS (upd (r5 ns) "rule" (.val (.ref a))) (lawFor w.params) .next (r5 ns) TS := by
  rw [lawFor_eq]
  have h9 := tS_len ns
  have h4 := (tT_ok ns).2.2.2
  refine law_sort W T hZ hk hc hrk (fun p hp hs => ?_)
  obtain ⟨o1, o2⟩ := order_ok rfl hp hs hbad
  generalize (p.toList.map fun i => (tS ns).getD i (0, 0, 0)) = l at o1 o2 ⊢
  obtain ⟨e1, e2⟩ := law_plain gU (tT_good ns).1 o1 o2
  have hv : ∀ q ∈ l, Val (tN ns) q := fun q hq => tS_val ns q (o1.subset hq)
  have hv2 : ∀ q ∈ l.reverse, Val (tN ns) q := fun q hq => hv q (List.mem_reverse.mp hq)
  have hl : l.length ≤ 9 := by rw [o1.length_eq]; exact h9
  have f1 := T.fold (prog := prog) (w := w) W hv (tA_len ns) h4
  have f2 := T.fold (prog := prog) (w := w) W hv2 (tD_len ns) h4
  have e1' : run l (tA ns) = tD ns := e1
  have e2' : run l.reverse (tD ns) = tA ns := e2
  rw [e1'] at f1
  rw [e2', List.map_reverse] at f2
  refine TrO.sub (exsO_cons (TrO.ofC stab_ts (law_if W T hk hl f1 f2)) exsO_nil) ?_
  exact ((Sub.refl _).upd rfl).upd rfl
theorem tS_lt (ns : List Int) : ∀ p ∈ tS ns, p.1 < 1000 ∧ p.2.1 < 1000 ∧ p.1 < p.2.1 := fun p hp => by
  have h4 := (tT_ok ns).2.2.2
  have v := tS_val ns p hp
  have := v.lo; have := v.hi
  omega
noncomputable def lawIter (P : Params) : Expr := match lawSt P 5 with
  | .For _ i _ _ _ => i
  | _ => .Name "rule" default
noncomputable def lawPos (P : Params) : Pos := match lawSt P 5 with
  | .For _ _ _ _ p => p
  | _ => default
noncomputable def lawNPos (P : Params) : Pos := match lawSt P 5 with
  | .For (.Name _ q) _ _ _ p => q
  | _ => default
theorem law_for_eq (P : Params) : lawSt P 5 = .For (.Name "rule" (lawNPos P)) (lawIter P) (lawFor P) [] (lawPos P) := by kernel_rfl
theorem law_iter (W : Glob G Z) {P : Params} (T : Top01 P G) {L : Addr} {k : Nat} {ns : List Int} : EvS prog w G Z k (lawEnv P L) (r5 ns) (lawIter P) (.lst [.val (.ref 66), .val (.ref 73), .val (.ref 80)]) ∧ ∀ v, foldedSetIterable (lawIter P) (lawEnv P L) v = pure v := by
  conv in (lawIter _) => whnf
  conv in (lawIter _) => whnf
  exact ⟨ev_list W (evs_cons W (ev_global T.g_short) (evs_cons W (ev_global T.g_soon) (evs_cons W (ev_global T.g_late) evs_nil))), by intro _; rfl⟩
set_option maxHeartbeats 1000000 in
theorem law_st5 (W : Glob G Z) (T : Top01 w.params G) (hZ : ¬ Z 23) {L : Addr} {k : Nat} (hk : 600 ≤ k) {ns : List Int} : ExO prog w G Z k (lawEnv w.params L) (fun b => b = 23) TS (r5 ns) (lawSt w.params 5) .next (r5 ns) TS := by
  have R1 := law_rule (prog := prog) W T hZ (L := L) hk (ns := ns) (a := 66) (ci := shorterI) (rk := rkShort) (fun W' hg => ⟨(T.f66.weak hg).callee, fun p q => shorter_call W' w.params (T.f66.weak hg)⟩) (fun p hp q hq => lt_short) (fun p hp q hq b => bad_short (tS_lt ns p hp).2.2 b)
  have R2 := law_rule (prog := prog) W T hZ (L := L) hk (ns := ns) (a := 73) (ci := soonerI) (rk := rkSoon) (fun W' hg => ⟨(T.f73.weak hg).callee, fun p q => sooner_call W' w.params (T.f73.weak hg)⟩) (fun p hp q hq => lt_soon (tS_lt ns p hp).1 (tS_lt ns q hq).1) (fun p hp q hq b => bad_soon (tS_lt ns p hp).1 (tS_lt ns q hq).1 b)
  have R3 := law_rule (prog := prog) W T hZ (L := L) hk (ns := ns) (a := 80) (ci := laterI) (rk := rkLate) (fun W' hg => ⟨(T.f80.weak hg).callee, fun p q => later_call W' w.params (T.f80.weak hg)⟩) (fun p hp q hq => lt_late (tS_lt ns p hp).2.1 (tS_lt ns q hq).2.1) (fun p hp q hq b => bad_late (tS_lt ns p hp).2.1 (tS_lt ns q hq).2.1 b)
  generalize hF : lawFor w.params = F at R1 R2 R3
  obtain ⟨e2, e3⟩ := law_iter (prog := prog) (w := w) W T (L := L) (k := k) (ns := ns)
  rw [law_for_eq, hF]
  refine ex_forC W (ρs := fun _ => r5 ns) (Ps := fun _ => TS) e2 (fun _ => stab_ts) (fun i d hd => ?_) (.inl rfl) rfl e3
  match i, hd with
  | 0, hd => cases hd; exact R1
  | 1, hd => cases hd; exact R2
  | 2, hd => cases hd; exact R3
  | i + 3, hd => simp at hd
end Mine
end
noncomputable section
open PySem PySem.W PySem.W.X PyProof.Rows
set_option Elab.async false
set_option linter.unusedVariables false
set_option maxRecDepth 100000
namespace Mine
variable {prog : Program} {w : World} {G : Heap → Prop} {Z : Addr → Prop}
theorem law_st6 (W : Glob G Z) {P : Params} {L : Addr} {k : Nat} {ns : List Int} : ExS prog w G Z k (lawEnv P L) (r5 ns) (lawSt P 6) (.ret (.bool true)) (r5 ns) := by
  conv in (lawSt _ _) => whnf
  exact ex_return W ev_bool
theorem law_body (W : Glob G Z) (T : Top01 w.params G) (hZ : ¬ Z 23) {L : Addr} {k : Nat} (hk : 600 ≤ k) {ns : List Int} (hz : ns.length ≤ 63) :
    ExsO prog w G Z k (lawEnv w.params L) (fun b => b = 23) TS (r0 ns) (lawBody w.params) (.ret (.bool true)) (r5 ns) TS := by
  rw [lawBody_eq]
  refine exsO_cons (TrO.ofC stab_ts (law_st0 W (by omega) T.g_len hz)) (exsO_cons (TrO.ofC stab_ts (law_st1 W T hk)) (exsO_cons (TrO.ofC stab_ts (law_st2 W T hk)) (exsO_cons (TrO.ofC stab_ts (law_st3 W T hk)) (exsO_cons (TrO.ofC stab_ts (law_st4 W T hk)) (exsO_cons (law_st5 W T hZ hk) ?_)))))
  exact TrO.ofC stab_ts (exs_ret (rest := []) (law_st6 W))
theorem law_fd {P : Params} : (lawFd P).body = .stmts (lawBody P) ∧ (lawFd P).closure = [] ∧ (lawFd P).scope.isCoroutine = false ∧ (lawFd P).scope.isGenerator = false ∧ (lawFd P).scope.kind = .function ∧ (lawFd P).scope.names.lookup (Str.ofString "script") = some .local:=
  ⟨by kernel_rfl, by kernel_rfl, by kernel_rfl, by kernel_rfl, by kernel_rfl, by kernel_rfl⟩
theorem law_bind {P : Params} {a : Value} : bindArgs (lawFd P) ⟨[a], []⟩ = pure ((["script"] : List Str).zip [a]) := by kernel_rfl
/-- the law's call -/
theorem law_call (W : Glob G Z) (T : Top01 w.params G) {ns : List Int} (hz : ns.length ≤ 63) (hZ : ¬ Z 23) :
    CallO prog w G 601 (fun b => b = 23) TS (.ref 85) [.lst (ns.map D.int)] (fun X h' v => v = .bool true ∧ TS h') := by
  obtain ⟨e1, e2, e3, e4, e5, e6⟩ := @law_fd w.params
  refine call_fnO (k := 600) W (names := ["script"]) (fun h h' g q => q.le g) T.f85 e1 e2 ?_ ?_ (fun L hL A hA X h g dr tk o hO hXM F hP => ?_) e3 e4 e5
  · intro vs hv
    obtain ⟨a, rfl⟩ := len1 hv
    exact law_bind
  · intro x hx
    simp at hx
    subst hx
    exact .inl e6
  exact (law_body (prog := prog) W T hZ (L := L) (k := 600) (by decide) hz).use hA hO F hP fun h' t' r gr ⟨v, e, rv⟩ _ le => ⟨h', t', rfl, gr, v, e, rv, le⟩
end Mine
end
noncomputable section
open PySem PySem.W PySem.W.X PyProof.Rows
set_option Elab.async false
set_option linter.unusedVariables false
set_option maxRecDepth 100000
namespace Mine
noncomputable def kSub (P : Params) : Frag := hd01.heap_1 P
noncomputable def dictB (K : Frag) (a : Addr) : Bool := match K.lookup a with
  | some ⟨_, _, .dict es _, _⟩ => es.all fun e => match e.key with | .str _ _ => true | _ => false
  | _ => false
noncomputable def nsOf (K : Frag) (a : Addr) : Str → Option Value := match K.lookup a with
  | some ⟨_, _, .dict es _, _⟩ => nsFind es
  | _ => fun _ => none
theorem ns_of {K : Frag} {h : Heap} {a : Addr} (X : K.In h) (e : dictB K a = true) : h.Ns a (nsOf K a) := by
  unfold dictB at e
  unfold nsOf
  split at e
  · rename_i c d es n sl hk
    refine ⟨_, es, n, X _ _ hk, rfl, fun x hx => ?_, fun _ => rfl⟩
    rw [Array.all_eq_true_iff_forall_mem] at e
    have := e x hx
    split at this
    · rename_i s t hq; exact ⟨s, t, hq⟩
    · cases this
  · cases e
noncomputable def fnB (K : Frag) (a : Addr) : Bool := match K.lookup a with
  | some ⟨_, _, .func fd, _⟩ => (match fd.code with
    | .ref c => (match K.lookup c with
      | some ⟨_, _, .fields vs, _⟩ => (match (vs[1]? : Option Value) with
        | some (.str q _) => q == fd.qualname
        | _ => false)
      | _ => false)
    | _ => false)
  | _ => false
theorem fn_of {K : Frag} {h : Heap} {a : Addr} (X : K.In h) (e : fnB K a = true) : ∃ o, h.get? a = some o ∧ o.data = .func (fnOf K a) ∧ h.CodeRec (fnOf K a).code (fnOf K a).qualname := by
  unfold fnB at e
  split at e
  · rename_i c d fd sl hk
    have hf : fnOf K a = fd := by unfold fnOf; rw [hk]
    rw [hf]
    refine ⟨_, X _ _ hk, rfl, ?_⟩
    split at e
    · rename_i cc hc
      split at e
      · rename_i c2 d2 vs sl2 hk2
        split at e
        · rename_i q t hq
          exact ⟨cc, _, vs, t, hc, X _ _ hk2, rfl, by rw [hq, eq_of_beq e]⟩
        · cases e
      · cases e
    · cases e
  · cases e
/-- all of a heap but the tables stays -/
noncomputable def GH (O : Addr → Prop) (H : Heap) : Heap → Prop := fun h => Grow O H h
noncomputable def ZH (O : Addr → Prop) (H : Heap) : Addr → Prop := fun b => (∃ o, H.get? b = some o) ∧ ¬ O b
theorem glob_H {O : Addr → Prop} {H : Heap} (hS : ¬ O cStatics) (hl : H.NoLimit) : Glob (GH O H) (ZH O H) where
  grow := fun S h h' hz g hg => ⟨fun b o nb e => g.old b o (fun s => hz b s ⟨⟨o, e⟩, nb⟩) (hg.old b o nb e)⟩
  lim := fun h hg => let ⟨mc, n, e⟩ := hl; ⟨mc, hg.ns hS n, e⟩
  fresh := fun h hg a hle q => by
    obtain ⟨o, e⟩ := hg.alive q.2 q.1
    have := alt e
    omega
theorem In.keep {K : Frag} {O : Addr → Prop} {H h : Heap} (X : K.In H) (hO : ∀ a, O a → K.lookup a = none) (g : GH O H h) : K.In h := fun a o e =>
  g.old a o (fun q => by rw [hO a q] at e; cases e) (X a o e)
/-- what the start-up leaves -/
structure Boots (H : Heap) : Prop where
  blt : ∃ mb, H.Ns builtinsNs mb ∧ ∀ x : Str, x ≠ "__name__" → mb x = bootBuiltins x
  mod : ∃ ob, H.get? 4 = some ob ∧ ob.cls = .type "module" ∧ ob.dict = some builtinsNs ∧ ob.data = .plain
  sys : ∃ o, H.get? sysModules = some o
theorem Boots.keep {O : Addr → Prop} {H h : Heap} (B : Boots H) (h0 : ¬ O builtinsNs) (h4 : ¬ O 4) (h1 : ¬ O sysModules) (g : GH O H h) : Boots h :=
  ⟨let ⟨mb, n, e⟩ := B.blt; ⟨mb, g.ns h0 n, e⟩, let ⟨ob, e, r⟩ := B.mod; ⟨ob, g.old _ _ h4 e, r⟩, let ⟨o, e⟩ := B.sys; ⟨o, g.old _ _ h1 e⟩⟩
set_option maxHeartbeats 4000000 in
theorem sub_facts (P : Params) : (dictB (kSub P) 3 && fnB (kSub P) 21 && fnB (kSub P) 28 && fnB (kSub P) 37 && fnB (kSub P) 42 && fnB (kSub P) 47 && fnB (kSub P) 52 && fnB (kSub P) 59 && fnB (kSub P) 66 && fnB (kSub P) 73 && fnB (kSub P) 80 && fnB (kSub P) 85 && codeHdIn (kSub P) 27 23) = true := by kernel_rfl
theorem boot_names : bootBuiltins "len" = some (.builtin "len") ∧ bootBuiltins "iter" = some (.builtin "iter") ∧ bootBuiltins "bytearray" = some (.type "bytearray") ∧ bootBuiltins "range" = some (.type "range") ∧ bootBuiltins "bytes" = some (.type "bytes") ∧ bootBuiltins "object" = some (.type "object") ∧ bootBuiltins "__build_class__" = some (.builtin "__build_class__") ∧ bootBuiltins "sum" = some (.builtin "sum") ∧ bootBuiltins "sorted" = some (.builtin "sorted") := by
  refine ⟨?_, ?_, ?_, ?_, ?_, ?_, ?_, ?_, ?_⟩ <;> kernel_rfl
set_option maxHeartbeats 4000000 in
theorem top_01 {P : Params} {G : Heap → Prop} (X : ∀ h, G h → (kSub P).In h) (B : ∀ h, G h → Boots h) : Top01 P G := by
  have F := sub_facts P
  simp only [Bool.and_eq_true] at F
  obtain ⟨⟨⟨⟨⟨⟨⟨⟨⟨⟨⟨⟨d3, f21⟩, f28⟩, f37⟩, f42⟩, f47⟩, f52⟩, f59⟩, f66⟩, f73⟩, f80⟩, f85⟩, c27⟩ := F
  obtain ⟨b1, b2, b3, b4, b5, b6, b7, b8, b9⟩ := boot_names
  have fn : ∀ a, fnB (kSub P) a = true → FnOk G a (fnOf (hd01.heap_1 P) a) := fun a e h hg => fn_of (X h hg) e
  have gm : ∀ x v, nsOf (kSub P) 3 x = some v → GV G x v := fun x v e h hg => .inl ⟨_, ns_of (X h hg) d3, e⟩
  have gb : ∀ x v, nsOf (kSub P) 3 x = none → x ≠ "__name__" → bootBuiltins x = some v → GV G x v := fun x v e1 hx e2 h hg => let ⟨mb, n, e⟩ := (B h hg).blt; .inr ⟨_, mb, ns_of (X h hg) d3, e1, n, (e x hx).trans e2⟩
  have nm : ∃ s t, nsOf (kSub P) 3 "__name__" = some (.str s t) := by
    have e : (match nsOf (kSub P) 3 "__name__" with | some (.str _ _) => true | _ => false) = true := by kernel_rfl
    split at e
    · next s t q => exact ⟨s, t, q⟩
    · cases e
  have top : ∀ c p, codeHdIn (kSub P) c p = true → mainGlobals ≠ p ∧ cStatics ≠ p → 4 ≠ p → TopOk G c p := fun c p hc hp h4 =>
    ⟨fun h hg => let ⟨ob, e, r⟩ := (B h hg).mod; ⟨_, ns_of (X h hg) d3, nm, 4, ob, (by kernel_rfl), (by decide), (by decide), h4, e, r⟩,
     fun h hg => let ⟨mb, n, e⟩ := (B h hg).blt; ⟨mb, n, (e _ (by decide)).trans b7⟩, fun h hg => X h hg _ _ (by kernel_rfl), fun h hg => codeHd_of_K (X h hg) hc, hp, fun h hg => (B h hg).sys⟩
  exact {
    f21 := fn 21 f21, f28 := fn 28 f28, f37 := fn 37 f37, f42 := fn 42 f42, f47 := fn 47 f47, f52 := fn 52 f52, f59 := fn 59 f59, f66 := fn 66 f66, f73 := fn 73 f73, f80 := fn 80 f80, f85 := fn 85 f85
    g_len := gb _ _ (by kernel_rfl) (by decide) b1, g_sum := gb _ _ (by kernel_rfl) (by decide) b8, g_sorted := gb _ _ (by kernel_rfl) (by decide) b9, g_iter := gb _ _ (by kernel_rfl) (by decide) b2, g_miss := gm _ _ (by kernel_rfl), g_ba := gb _ _ (by kernel_rfl) (by decide) b3, g_range := gb _ _ (by kernel_rfl) (by decide) b4, g_bytes := gb _ _ (by kernel_rfl) (by decide) b5, g_obj := gb _ _ (by kernel_rfl) (by decide) b6
    g_swap := gm _ _ (by kernel_rfl), g_cmp := gm _ _ (by kernel_rfl), g_red := gm _ _ (by kernel_rfl), g_tree := gm _ _ (by kernel_rfl), g_read := gm _ _ (by kernel_rfl), g_str := gm _ _ (by kernel_rfl), g_turn := gm _ _ (by kernel_rfl), g_short := gm _ _ (by kernel_rfl), g_soon := gm _ _ (by kernel_rfl), g_late := gm _ _ (by kernel_rfl)
    miss := fun h hg => ⟨⟨.type "object", none, .plain, #[]⟩, X h hg _ _ (by kernel_rfl), rfl⟩
    dflt := fun h hg => ⟨⟨.type "tuple", none, .seq #[.ref 29] 0, #[]⟩, .ref 29, 0, X h hg _ _ (by kernel_rfl), rfl⟩
    top := top 27 23 c27 (by decide) (by decide) }
end Mine
end
noncomputable section
open PySem PySem.W PySem.W.X PyProof.Rows
set_option Elab.async false
set_option linter.unusedVariables false
set_option maxRecDepth 100000
namespace Mine
theorem Ns.det {h : Heap} {a : Addr} {m m' : Str → Option Value} (n : h.Ns a m) (n' : h.Ns a m') (x : Str) : m x = m' x := by
  obtain ⟨o, es, ep, ho, hd, -, f⟩ := n
  obtain ⟨o', es', ep', ho', hd', -, f'⟩ := n'
  rw [ho] at ho'; cases ho'
  rw [hd] at hd'; cases hd'
  rw [← f, ← f']
theorem bud_caller : Bud 601 callerA := ⟨rfl, by decide, by decide, rfl⟩
/-- old objects, but for code tables that were empty -/
theorem oldK_of {O : Addr → Prop} {h h' : Heap} (g : Grow O h h') (hO : ∀ b, O b → isCodeTable h b ∧ h.get? b = some (tabObj #[]) ∧ ∃ ps, h'.get? b = some (tabObj ps)) : OldK h h' where
  old := fun b o e => by
    by_cases q : O b
    · obtain ⟨a, e1, ps, e2⟩ := hO b q
      rw [e1] at e; cases e
      exact .inr (.inl ⟨a, rfl, #[], ps, rfl, by simpa using e2⟩)
    · exact .inl (g.old b o q e)
  there := fun b o e => by
    by_cases q : O b
    · obtain ⟨a, e1, ps, e2⟩ := hO b q; exact ⟨_, e2⟩
    · exact ⟨o, g.old b o q e⟩
theorem table_of {h : Heap} {c p : Addr} (x : CodeHd h c p) : isCodeTable h p := by
  obtain ⟨o, vs, file, tf, flags, tg, inF, text, tt, e, h1, h2, h3, -⟩ := x
  exact ⟨c, o, vs, e, h1, h2, h3⟩
set_option maxHeartbeats 4000000 in
theorem law01_holds : PySem.Challenge.rw_mr0067_01.Holds := by
  refine hd01 ?_
  intro w s₀ s₁ mg mb G Y fa o pm cd doc dV kV ho hd hcd hD hmg hg args vals as hpre hlay hrd hwl hlo
  have KX := km_in_of Y
  have KT := km_tabs_of Y
  have hmg' : mg (Str.ofString "law") = some (.ref fa) := hmg
  have hns := G.T.g
  have hmain := G.T.bmain
  have hblt : ∃ mb, s₁.heap.Ns builtinsNs mb ∧ ∀ x : Str, x ≠ "__name__" → mb x = bootBuiltins x := ⟨_, G.T.b, G.T.builtins⟩
  have hsee : ∃ o, s₁.heap.get? sysModules = some o := let ⟨m, ⟨o, _, _, e, _⟩, _⟩ := (G.T.seer (by kernel_rfl)).2; ⟨o, e⟩
  clear Y
  clear hd hD hcd hmg G ho
  wrow_args hpre hlay hrd hwl hlo
  rename_i ns hs hl0 hL1 hrr hl2 as1 as2 a vsl as3 hL ra wl r0 hI hr2 hz1 hz2
  have hz : ns.length ≤ 63 := by omega
  clear hs hl0 hL1 hrr hl2 ra wl r0 hr2 hz1 hz2
  obtain ⟨h₁, g, dr, tk, os⟩ := s₁
  dsimp only at hg KX KT hns hmain hblt hsee hL ⊢
  have e85 : fa = 85 := by
    have e1 : mg (Str.ofString "law") = some (.ref 85) := (Ns.det hns (ns_of KX (by kernel_rfl)) _).trans (by kernel_rfl)
    rw [hmg'] at e1; cases e1; rfl
  subst e85
  have e23 : h₁.get? 23 = some (tabObj #[]) := KT 23 (.head _)
  have hB : Boots h₁ := by
    refine ⟨hblt, ?_, hsee⟩
    obtain ⟨bm, ob, e1, -, e2, r⟩ := hmain
    have e3 : mg (Str.ofString "__builtins__") = some (.ref 4) := (Ns.det hns (ns_of KX (by kernel_rfl)) _).trans (by kernel_rfl)
    have e4 : (some (Value.ref bm) : Option Value) = some (.ref 4) := e1.symm.trans e3
    cases e4
    exact ⟨ob, e2, r⟩
  have t23 : isCodeTable h₁ 23 := table_of (codeHd_of_K (c := 27) KX (by kernel_rfl))
  have hl : h₁.NoLimit := ⟨_, ns_of KX (by kernel_rfl), by kernel_rfl⟩
  have W := glob_H (O := fun b => b = 23) (H := h₁) (fun q => by cases q) hl
  have T : Top01 w.params (GH (fun b => b = 23) h₁) := top_01 (fun h hg => In.keep KX (fun a q => by subst q; kernel_rfl) hg) (fun h hg => hB.keep (fun q => by cases q) (fun q => by cases q) (fun q => by cases q) hg)
  have nO : a ≠ 23 := fun q => by
    obtain ⟨o', eo, ec, _⟩ := hL
    rw [q, e23] at eo; cases eo; cases ec
  refine wpJ_mono (law_call (prog := PySem.Challenge.rw_mr0067_01.row.prog) W T hz (fun q => q.2 rfl) callerA bud_caller (fun b => b = 23) h₁ g dr tk os _ (.refl _ _) ?_ (fun b q => q) (.inl e23) ⟨_, _, rfl, ⟨a, vsl, rfl, nO, hL, .of_ints hI⟩, rfl⟩) fun v s' hv => ?_
  · intro b q
    exact ⟨_, q ▸ e23⟩
  · obtain ⟨h', t', rfl, gr, rfl, le⟩ := hv
    obtain ⟨ps, e23'⟩ := le.obj
    refine ⟨.inl ⟨.bool true, .bool true, [], rfl, fun cls => ?_, .bool _, ?_, fun _ => ⟨.nil, fun _ q => nomatch q⟩⟩, oldK_of gr fun b q => ?_, rfl, .of_eq hg⟩
    · rfl
    · wrow_post
    · subst q
      exact ⟨t23, e23, _, e23'⟩
end Mine
end
set_option maxRecDepth 100000 in
theorem PySem.Challenge.cw_mr0067_01_holds : PySem.Challenge.rw_mr0067_01.Holds :=
  Mine.law01_holds
