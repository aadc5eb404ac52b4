import PyProof.Rows.All
import Wide.All
import OpenK.AllK
import Wide.FinOn
import PySem.Challenge.RW_mr0067_02
set_option Elab.async false
set_option linter.unusedVariables false
noncomputable section
open PySem PySem.W PyProof.Rows
set_option Elab.async false
set_option linter.unusedVariables false
namespace Mine
/-- a decoder's code, which may hold a bytearray -/
noncomputable def holdsIt : Code → Bool
  | .builtin id _ => Builtin.Bytes.decodersThatHold.contains id
  | _ => false
/-- no decoder is under way -/
noncomputable def Jn (Γ : Ctx) : Prop := holdsIt Γ.code = false ∧ ∀ c ∈ Γ.below, holdsIt c.1 = false
/-- the same, where the count of units is low; where it is high nothing is asked -/
noncomputable def Ja (A : Around) (Γ : Ctx) : Prop := A.units < 5000 → Jn Γ
noncomputable abbrev noE : Value → Shared → Prop := fun _ _ => False
noncomputable def wpJ {α : Type} (M : Model) (A : Around) (t : Sem α) (Q : α → Shared → Prop) (s : Shared) : Prop :=
  ∀ Γ p, Γ.In A → Ja A Γ → Sem.wp M Γ t (fun a _ s' => Q a s') (fun _ _ _ => False) p s
noncomputable def codeJ (M : Model) (A : Around) (c : Code) (Q : Flow → Shared → Prop) (s : Shared) : Prop :=
  ∀ Γ p, Γ.code = c → Γ.Below A → Ja A Γ → wpCode M Γ (fun r s' => match r with | .ok f => Q f s' | .error _ => False) p s
section
variable {α β : Type} {M : Model} {A : Around} {s : Shared} {env : Env}
theorem wpJ.of {t : Sem α} {Q : α → Shared → Prop} (h : wpAny M A t Q noE s) : wpJ M A t Q s := fun Γ p hΓ _ => h Γ p hΓ
theorem wpJ_mono {t : Sem α} {Q Q' : α → Shared → Prop} (h : wpJ M A t Q s) (hQ : ∀ a s, Q a s → Q' a s) : wpJ M A t Q' s :=
  fun Γ p hΓ j => Sem.wp_mono M Γ t (fun a _ s => hQ a s) (fun _ _ _ x => x) p s (h Γ p hΓ j)
theorem wpJ_pure {a : α} {Q : α → Shared → Prop} (h : Q a s) : wpJ M A (pure a) Q s := fun _ _ _ _ => h
theorem wpJ_bind {m : Sem α} {f : α → Sem β} {Q : β → Shared → Prop} (h : wpJ M A m (fun a s' => wpJ M A (f a) Q s') s) : wpJ M A (m >>= f) Q s := fun Γ p hΓ j => by
  rw [Sem.wp_bind']
  exact Sem.wp_mono M Γ m (fun a p' s' h' => h' Γ p' hΓ j) (fun _ _ _ h' => h') p s (h Γ p hΓ j)
theorem wpJ_at {pos : Pos} {f : Unit → Sem β} {Q : β → Shared → Prop} (h : wpJ M A (f ()) Q s) : wpJ M A (standAt pos >>= f) Q s := fun Γ p hΓ j => by
  rw [Sem.wp_bind', Sem.wp_cmd_standAt]; exact h Γ _ hΓ j
theorem wpJ_holding {vs : List Value} {m : Sem α} {Q : α → Shared → Prop} (h : wpJ M A m Q s) : wpJ M A (holding vs m) Q s := fun Γ p hΓ j => by rw [Sem.wp_holding]; exact h Γ p hΓ j
theorem wpJ_keep {vs : List Value} {m : Sem α} {Q : α → Shared → Prop} (h : wpJ M A m Q s) : wpJ M A (m.keep vs) Q s := fun Γ p hΓ j => by rw [Sem.wp_keep]; exact h Γ p hΓ j
theorem wpJ_operate {vs : List Value} {m : Sem Value} {Q : Value → Shared → Prop} (h : wpJ M A m Q s) : wpJ M A (operate vs m) Q s := fun Γ p hΓ j => by rw [Sem.wp_operate]; exact h Γ p hΓ j
theorem wpJ_onRaise {m : Sem α} {k : Value → Sem Unit} {Q : α → Shared → Prop} (h : wpJ M A m Q s) : wpJ M A (m.onRaise k) Q s := fun Γ p hΓ j => by
  rw [Sem.wp_onRaise]
  exact Sem.wp_mono M Γ m (fun _ _ _ x => x) (fun _ _ _ x => x.elim) p s (h Γ p hΓ j)
theorem wpJ_tryCatch {m : Sem α} {k : Value → Sem α} {Q : α → Shared → Prop} (h : wpJ M A m Q s) : wpJ M A (tryCatch m k) Q s := fun Γ p hΓ j => by
  rw [Sem.wp_tryCatch']
  exact Sem.wp_mono M Γ m (fun _ _ _ x => x) (fun _ _ _ x => x.elim) p s (h Γ p hΓ j)
theorem wpJ_attempt {m : Sem α} {Q : Except Value α → Shared → Prop} (h : wpJ M A m (fun a => Q (.ok a)) s) : wpJ M A m.attempt Q s := fun Γ p hΓ j => by
  rw [Sem.wp_attempt]
  exact Sem.wp_mono M Γ m (fun _ _ _ x => x) (fun _ _ _ x => x.elim) p s (h Γ p hΓ j)
theorem Jn.enter {Γ : Ctx} (j : Jn Γ) {c : Code} (hc : holdsIt c = false) (h : Option Value) (p : Pos) : Jn (Γ.enter c h p) :=
  ⟨hc, fun x hx => by
    rcases List.mem_cons.mp hx with rfl | hx
    · exact j.1
    · exact j.2 x hx⟩
theorem Jn.goto {Γ : Ctx} (j : Jn Γ) {c : Code} (hc : holdsIt c = false) : Jn (Γ.goto c) := ⟨hc, j.2⟩
theorem Ja.enter {Γ : Ctx} (j : Ja A Γ) {c : Code} (hc : holdsIt c = false) (h : Option Value) (p : Pos) : Ja A (Γ.enter c h p) := fun u => (j u).enter hc h p
theorem Ja.goto {Γ : Ctx} (j : Ja A Γ) {c : Code} (hc : holdsIt c = false) : Ja A (Γ.goto c) := fun u => (j u).goto hc
theorem Ja.under {Γ : Ctx} (j : Ja A Γ) (c : Code) : Ja (A.under c) Γ := fun u => j (Nat.lt_of_le_of_lt (Nat.le_add_right _ _) u)
theorem codeJ_mono {c : Code} {Q Q' : Flow → Shared → Prop} (h : codeJ M A c Q s) (hQ : ∀ a s, Q a s → Q' a s) : codeJ M A c Q' s := fun Γ p hc hΓ j =>
  wpCode_mono (fun r s' x => by cases r with | ok f => exact hQ f s' x | error e => exact x) (h Γ p hc hΓ j)
theorem wpJ_run {c : Code} {Q : Flow → Shared → Prop} (hh : holdsIt c = false) (hc : codeJ M A c Q s) : wpJ M A (run c) Q s := fun Γ p hΓ j => by
  rw [Sem.wp_run]
  exact wpCode_mono (fun r s' x => by cases r <;> exact x) (hc _ p rfl (hΓ.enter c none p (by intro x; cases x)) (j.enter hh _ _))
theorem wpJ_runOwn {c : Code} {Q : Flow → Shared → Prop} (hh : holdsIt c = false) (hc : codeJ M A c Q s) : wpJ M A (runOwn c env) Q s := by
  unfold runOwn
  exact wpJ_onRaise (wpJ_run hh hc)
theorem wpJ_runValue {c : Code} {Q : Value → Shared → Prop} (hh : holdsIt c = false) (hc : codeJ M A c (fun f s' => ∃ v, f = .ret v ∧ Q v s') s) : wpJ M A (runValue c) Q s := fun Γ p hΓ j => by
  rw [Sem.wp_runValue]
  exact wpCode_mono (fun r s' x => by
    cases r with
    | ok f => obtain ⟨v, rfl, q⟩ := x; exact q
    | error e => exact x) (hc _ p rfl (hΓ.enter c none p (by intro x; cases x)) (j.enter hh _ _))
theorem wpJ_call {f : Value} {pos : List Value} {kw : List (Str × Value)} {Q : Value → Shared → Prop} (hc : codeJ M A (.call f ⟨pos, kw⟩) (fun f s' => ∃ v, f = .ret v ∧ Q v s') s) : wpJ M A (call f pos kw) Q s := wpJ_runValue rfl hc
theorem codeJ_of_tree {c : Code} {Q : Flow → Shared → Prop}
    (h : wpJ M (A.under c) (M.den c) (fun fin s' => match fin with | .done f => Q f s' | .again c' => c'.quiet = true ∧ holdsIt c' = false ∧ codeJ M A c' Q s') s) : codeJ M A c Q s := fun Γ p hc hΓ j => by
  rw [wpCode_iff_wp, hc]
  refine Sem.wp_mono M Γ _ (fun fin p' s' h' => ?_) (fun _ _ _ h' => h'.elim) p s (h Γ p (hc ▸ hΓ.in) (j.under c))
  cases fin with
  | done f => exact h'
  | again c' => exact ⟨h'.1, h'.2.2 (Γ.goto c') p' rfl (hΓ.goto c') (j.goto h'.2.1)⟩
theorem codeJ_loop {c : Code} {Q : Flow → Shared → Prop} (hq : c.quiet = true) (hh : holdsIt c = false) (I : Nat → Shared → Prop)
    (turn : ∀ n s, I n s → wpJ M (A.under c) (M.den c)
      (fun fin s' => match fin with
        | .done f => Q f s'
        | .again c' => (c' = c ∧ ∃ m, m < n ∧ I m s') ∨ (c'.quiet = true ∧ holdsIt c' = false ∧ codeJ M A c' Q s')) s)
    (n : Nat) (h : I n s) : codeJ M A c Q s := by
  induction n using Nat.strongRecOn generalizing s with
  | ind n ih =>
    refine codeJ_of_tree (wpJ_mono (turn n s h) (fun fin s' hf => ?_))
    cases fin with
    | done f => exact hf
    | again c' =>
      rcases hf with ⟨rfl, m, hm, hI⟩ | hf
      · exact ⟨hq, hh, ih m hm hI⟩
      · exact hf
end
section
variable {M : Model} {A : Around} {s : Shared} {env : Env}
theorem jBinOp {l op r pos} {Q : Value → Shared → Prop} (h : wpJ M A (eval l env) (fun a s₁ => wpJ M A (eval r env) (fun b s₂ => wpJ M A (binaryOp op a b) Q s₂) s₁) s) : wpJ M A (eval (.BinOp l op r pos) env) Q s := by
  rw [eval_BinOp]
  exact wpJ_bind (wpJ_mono h fun a s₁ h₁ => wpJ_bind (wpJ_holding (wpJ_mono h₁ fun b s₂ h₂ => wpJ_at (wpJ_operate h₂))))
theorem jCompare {l op r pos} {Q : Value → Shared → Prop} (h : wpJ M A (eval l env) (fun a s₁ => wpJ M A (eval r env) (fun b s₂ => wpJ M A (compareOp op a b) Q s₂) s₁) s) (hm : behindInMarks op r = false) : wpJ M A (eval (.Compare l [op] [r] pos) env) Q s := by
  rw [eval_Compare1, markedBehindIn_of_false hm]
  exact wpJ_bind (wpJ_mono h fun a s₁ h₁ => wpJ_bind (wpJ_holding (wpJ_mono h₁ fun b s₂ h₂ => wpJ_at (wpJ_operate h₂))))
theorem jTestCompare {l op r pos whole} {Q : Bool → Shared → Prop} (h : wpJ M A (eval l env) (fun a s₁ => wpJ M A (eval r env) (fun b s₂ => wpJ M A (compareOp op a b) (fun c s₃ => wpJ M A (truthy c) Q s₃) s₂) s₁) s) (hm : behindInMarks op r = false) : wpJ M A (isTrue (.Compare l [op] [r] pos) env whole) Q s := by
  rw [isTrue_Compare1, markedBehindIn_of_false hm]
  exact wpJ_bind (wpJ_mono h fun a s₁ h₁ => wpJ_bind (wpJ_holding (wpJ_mono h₁ fun b s₂ h₂ => wpJ_at (wpJ_bind (wpJ_operate (wpJ_mono h₂ fun c s₃ h₃ => wpJ_holding h₃))))))
end
end Mine
end
noncomputable section
open PySem PySem.W PySem.Calls PyProof.Rows
set_option Elab.async false
set_option linter.unusedVariables false
set_option maxRecDepth 100000
namespace Mine
theorem caller_J : Ja callerA ⟨.builtin "claim.caller" {}, none, none, [], none⟩ := fun _ => ⟨by decide +kernel, fun _ h => nomatch h⟩
theorem wp_of_wpJ_done {M : Model} {A : Around} {Γ : Ctx} {t : Sem Fin} {R : Result → Shared → Prop} {s : Shared} (hin : Γ.In A) (j : Ja A Γ)
    (h : wpJ M A t (fun fin s' => ∃ f, fin = .done f ∧ R (.ok f) s') s) (p : Pos) :
    Sem.wp M Γ t (Sem.finPost M Γ R) (fun e _ s' => R (.error e) s') p s := by
  refine Sem.wp_mono M Γ t (fun fin p' s' h' => ?_) (fun _ _ _ h' => h'.elim) p s (h Γ p hin j)
  obtain ⟨f, rfl, hf⟩ := h'
  exact hf
theorem thread_ends_J {prog : Program} {w : World} {t : Sem Fin} {s : Shared} {R : Result → Shared → Prop} (hreg : s.asleep)
    (h : wpJ (model prog w) callerA t (fun fin s' => ∃ f, fin = .done f ∧ (R (.ok f) s' ∧ leftWithCleanup s'.gens = false)) s) :
    ∃ n r s' s'', runN (denote table) prog w n s ⟨t, .builtin "claim.caller" {}, default, []⟩ = .halted (outcomeOf r) s' ∧
      schedN (denote table) prog w n (.single s ⟨t, .builtin "claim.caller" {}, default, []⟩) = .halted (outcomeOf r) s' ∧ s'.forget = s''.forget ∧ R r s'' := by
  obtain ⟨n, r, s₁, s₂, hs, hn, hfo, hR⟩ := wp_halts_full (M := model prog w) (R := R) hreg (wp_of_wpJ_done (R := fun r s' => R r s' ∧ leftWithCleanup s'.gens = false) caller_in caller_J h default)
  exact ⟨n, r, s₂, s₁, hn, hs, hfo, hR⟩
theorem callFrom_J {c : ClaimW} {tree : List Value → Sem Fin} {w : World} {s : Shared} {free : Addr → Prop} {gens : Prop} {kept : Heap → Prop} (hz : s.asleep) (hgens : s.gens = #[])
    (hspec : ∀ args, c.pre args = true → WData.layableAll args = true →
      ∀ ord : List DictEntry → List DictEntry, (∀ l, (ord l).Perm l) →
      ∃ vs s₁, layAllW c.records (classAt s.heap) w.params ord args s = some (vs, s₁) ∧
        wpJ (model c.prog w) callerA (tree vs) (fun fin s' => ∃ f, fin = .done f ∧ (c.Ends s args vs s₁ (.ok f) s' ∧ s'.os = s.os ∧ AllBare s'.gens ∧ kept s'.heap)) s₁) :
    c.CallFrom (fun vs => ⟨tree vs, .builtin "claim.caller" {}, default, []⟩) w free gens kept s := by
  intro args hpre hlay ord hord
  obtain ⟨vs, s₁, hlaid, hcode⟩ := hspec args hpre hlay ord hord
  have hal := layAllW_rest _ _ _ hlaid
  obtain ⟨k, r, s', s'', hrun, hsched, hfo, hcase, hos, hkp⟩ := thread_ends_J (prog := c.prog) (w := w) (t := tree vs) (s := s₁)
    (R := fun r s' => c.Ends s args vs s₁ r s' ∧ s'.os = s.os ∧ kept s'.heap)
    (Shared.asleep_of_life hal.2.2.2 hz)
    (wpJ_mono hcode (by
      rintro fin s' ⟨f, e, h1, h2, h3, h4⟩
      exact ⟨f, e, ⟨h1, h2, h4⟩, leftWithCleanup_false_of_bare h3⟩))
  obtain ⟨eh, _, _, eo, _⟩ := Shared.forget_eq hfo
  have hcase := hcase.congr eh
  have hkp : kept s'.heap := by first | exact eh ▸ hkp | (rw [eh] at hkp; exact hkp) | (rw [← eh] at hkp; exact hkp)
  rw [← eo] at hos
  have hlife : s'.heap.life = s.heap.life := (runN_life _ _ _ hrun).trans hal.2.2.2
  refine ⟨vs, s₁, hlaid, k, _, s', hsched, ?_, (fun _ i x hx => by rw [hgens] at hx; simp at hx), hkp, by rw [hlife], Shared.rest_eq hos⟩
  rcases hcase with ⟨v, rfl, d1, d2, d3, d4, d5⟩ | ⟨e, ob, cls, rfl, d1, d2, d3, d4, d5⟩
  · exact .inl ⟨v, rfl, d1, d2, d3, fun b o y _ => d4 b o y, d5⟩
  · exact .inr ⟨e, ob, cls, rfl, d1, d2, d3, d4, fun b o y _ => d5 b o y⟩
theorem open_J {r : RowW} {run : Value → List Value → Sem Value} {tree : List Value → Sem Fin} {q : Program} {loose defs kps : List Str} {writes : Bool} {Xt : Shared → Bool} {XP : (Str → Option Value) → Heap → Prop} {α : Type} {Yf : Shared → α} {Ya : World → α} {YP : World → Heap → Prop} {N : Nat}
    (left : LeftO r.prog q loose Xt Yf Ya N) (hY : ∀ w s, Yf s = Ya w → YP w s.heap) (hYk : ∀ w h h', YP w h → (∀ b o, h.get? b = some o → h'.get? b = some o) → YP w h') (hX : ∀ s, Xt s = true → XP (s.heap.nsMap mainGlobals) s.heap) (hXk : ∀ mg h h', XP mg h → (∀ b o, h.get? b = some o → h'.get? b = some o) → XP mg h')
    (hRf : ∀ s, Xt s = true → RecFacts r.records s.heap) (hwr : (!writes || r.records.isEmpty) = true) (ok : (chainsOk q && opensWell r.prog && (frees r && r.within.isEmpty)) = true) (hb : r.prog.bare) (hw : r.promised)
    (ht : ∀ vs (w : World) (s : Shared) mg f (Q : Fin → Shared → Prop), s.heap.Ns mainGlobals mg → mg r.name = some f → wpJ (model r.prog w) callerA (run f vs) (fun v s' => Q (.done (.ret v)) s') s → wpJ (model r.prog w) callerA (tree vs) Q s)
    (pin : ∀ w s, s.heap.isNs mainGlobals = true → Ground q loose [] XP w s (s.heap.nsMap mainGlobals) (s.heap.nsMap builtinsNs) s.heap → ∀ n ∈ defs, isTheDefsW r.prog s.heap n)
    (call : ∀ (w : World) (s₀ s₁ : Shared) (mg mb : Str → Option Value), Ground q loose r.records XP w s₀ mg mb s₁.heap → YP w s₁.heap → ∀ (args : List WData) (vs : List Value) (as : List Addr),
      r.claim.pre args = true → WData.layableAll args = true → Laid r.records w s₀ s₁ args vs as → sysModules < s₀.heap.objs.size → ∃ f, mg r.name = some f ∧
        wpJ (model r.prog w) callerA (run f vs) (fun v s' => GoodWG r.claim (classAt s₀.heap) (ExcName.means s₀.heap) args s₁ (.ok (.ret v)) s') s₁) : r.claim.HoldsOpenBy (fun vs => ⟨tree vs, .builtin "claim.caller" {}, default, []⟩) defs kps writes := by
  obtain ⟨ok, k5⟩ := Bool.and_eq_true_iff.mp ok
  obtain ⟨hch, o1⟩ := Bool.and_eq_true_iff.mp ok
  obtain ⟨k5, k6⟩ := Bool.and_eq_true_iff.mp k5
  obtain ⟨hsame, hu, ha, hap, hm⟩ := frees_parts k5
  refine ⟨⟨hb, o1, by show r.makers.map _ = []; rw [hm]; rfl⟩, hw.witness, fun w => ⟨(left.behind hX hch w).1, fun s' hs' => ?_⟩⟩
  obtain ⟨s₀, hf, hg0, s, hT, hz, hgens, hg, G00, y⟩ := (left.behind (XP := fun mg h => XP mg h ∧ RecFacts r.records h) (fun s hs => ⟨hX s hs, hRf s hs⟩) hch w).2 s' hs'
  have G0 : Ground q loose [] XP w s (s.heap.nsMap mainGlobals) (s.heap.nsMap builtinsNs) s.heap := ⟨G00.T, G00.B, G00.D, G00.TE, G00.TD, G00.W, G00.X.1, G00.cls, G00.has, G00.apart, G00.once, G00.K⟩
  have RF := G00.X.2
  have hT' := hT
  refine ⟨s₀, hf, hg0, s, hT, pin w s hg G0, RF.1, RF.2.1, ?_⟩
  have hgens : s.gens = #[] := Array.eq_empty_of_size_eq_zero (beq_iff_eq.mp hgens)
  have G : Ground q loose r.records XP w s _ _ s.heap := RF.ground G0
  refine callFrom_J (c := r.claim) hz hgens fun args hpre hlay ord hord => ?_
  obtain ⟨⟨vs, s₁⟩, hlaid⟩ := Option.isSome_iff_exists.mp (layAllW_isSome (P := w.params) (ord := ord) G.has args r.args s (pre_splitW hpre).1)
  have keeps := layAllW_keeps _ _ _ hlaid
  have hal := layAllW_rest _ _ _ hlaid
  obtain ⟨as, hrd, hin, hold⟩ := reads_layAllW hord _ _ _ hlaid hlay s₁.heap (fun _ _ e => e)
  have L : Laid r.records w s s₁ args vs as := ⟨⟨ord, hord, hlaid⟩, hrd, hin, hold, keeps, hal.1.trans hgens, hal.2.2.1⟩
  have G₁ := G.keeps hXk keeps
  obtain ⟨f, hf, h⟩ := call w s s₁ _ _ G₁ (hYk _ _ _ (hY w s y) keeps) args vs as hpre hlay L G.low
  have hi := ident_freeW hu ha hap
  have hwi : r.claim.within = [] := List.isEmpty_iff.mp k6
  exact ⟨vs, s₁, hlaid, ht vs w s₁ _ f _ G₁.T.g hf (wpJ_mono h (fun v s' g => ⟨_, rfl, have z := g.laid (c := r.claim) hsame hwi hi L; ⟨z.1, z.2.1, z.2.2, fun q => ⟨namesKept_of hT' hg kps keeps g.2.1.old, noTable hwr q⟩⟩⟩))⟩
noncomputable abbrev WalkJ (q : Program) (loose : List Str) (XP : (Str → Option Value) → Heap → Prop) (YP : World → Heap → Prop) (r : RowW) (d : DefRec) (kwd : List (Str × Expr)) (run : Value → List Value → Sem Value) : Prop :=
  ∀ (w : World) (s₀ s₁ : Shared) (mg mb : Str → Option Value), Ground q loose r.records XP w s₀ mg mb s₁.heap → YP w s₁.heap → ∀ (a : Addr) (o : Obj) (pm cd doc dV kV : Value), s₁.heap.get? a = some o →
    o.data = .func { docDef d.name d.params d.body d.scope pm cd doc with defaults := dV, kwdefaults := kV } → s₁.heap.CodeRec cd d.name → Dflts mg s₁.heap d.params kwd dV kV → mg d.name = some (.ref a) → s₁.gens = #[] →
    ∀ (args : List WData) (vals : List Value) (as : List Addr), r.claim.pre args = true → WData.layableAll args = true → ReadsAllW r.records (classAt s₀.heap) s₁.heap vals args as → WellAll w.params s₁.heap vals args → (∀ a ∈ as, (a == sysModules) = false) →
      wpJ (model r.prog w) callerA (run (.ref a) vals) (fun v s' => GoodWG r.claim (classAt s₀.heap) (ExcName.means s₀.heap) args s₁ (.ok (.ret v)) s') s₁
theorem PySem.W.holds_open {r : OpenRow} {q : Program} {loose : List Str} {Xt : Shared → Bool} {XP : (Str → Option Value) → Heap → Prop} {α : Type} {Yf : Shared → α} {Ya : World → α} {YP : World → Heap → Prop} {d : DefRec} {kwd : List (Str × Expr)} {N : Nat}
    (left : LeftO r.prog q loose Xt Yf Ya N) (hY : ∀ w s, Yf s = Ya w → YP w s.heap) (hYk : ∀ w h h', YP w h → (∀ b o, h.get? b = some o → h'.get? b = some o) → YP w h')
    (hX : ∀ s, Xt s = true → XP (s.heap.nsMap mainGlobals) s.heap) (hXk : ∀ mg h h', XP mg h → (∀ b o, h.get? b = some o → h'.get? b = some o) → XP mg h')
    (hdef : defOf q r.name = some (d, kwd)) (hp : r.prog.theDef r.name = some (d.params, d.body, d.scope)) (hk : kwWritten? d.params.kwonlyargs d.params.kw_defaults = some kwd) (hRf : ∀ s, Xt s = true → RecFacts r.records s.heap) (hwr : (!r.writes || r.records.isEmpty) = true)
    (k1 : r.wellSaid = true) (ok : (chainsOk q && opensWell r.prog && (frees r.toRowW && r.within.isEmpty)) = true) (hb : r.prog.bare) (hw : r.toRowW.promised)
    (call : WalkJ q loose XP YP r.toRowW d kwd fun f vs => PySem.call f vs) : r.Holds := by
  refine ⟨k1, hw, open_J (r := r.toRowW) (run := fun f vs => PySem.call f vs) (tree := fun vs => do match ← nsGet mainNs r.name with
      | some f => do ret (← PySem.call f vs)
      | none => unsupported "claim.caller:no-such-global") left hY hYk hX hXk hRf hwr ok hb hw
    (fun vs w s mg f Q hg hf h => wpJ_bind (wpJ.of (wpAny_nsGet hg (by rw [hf]; exact wpJ_bind (wpJ_mono h (fun _ _ x => wpJ_pure x))))))
    (fun w s hg G n hn => ?_) fun w s₀ s₁ mg mb G Y args vs as hpre hlay L low => ?_⟩
  · obtain rfl : n = r.name := by split at hn <;> simp_all
    exact pinned_of_view hg G hdef hp hk
  · obtain ⟨a, o, pm, cd, doc, dV, kV, h1, h2, h3, h4, h5⟩ := G.fn hdef
    exact ⟨.ref a, h1, call w s₀ s₁ mg mb G Y a o pm cd doc dV kV h2 h3 h4 h5 (defOf_name hdef ▸ h1) L.gens args vs as hpre hlay L.reads L.well (L.low low)⟩
end Mine
end
noncomputable section
open PySem PySem.W PySem.W.X PyProof.Rows
set_option Elab.async false
namespace Mine
local macro_rules | `(tactic| k_head) => `(tactic| km_head)
set_option maxRecDepth 100000 in
set_option maxHeartbeats 8000000 in
open_top hd02 for PySem.Challenge.rw_mr0067_02
end Mine
end
noncomputable section
open PySem PySem.W PyProof.Rows
set_option Elab.async false
set_option linter.unusedVariables false
namespace Mine
section
variable {M : Model} {A : Around} {s : Shared} {env : Env}
theorem jIfExp {test body orelse pos} {Q : Value → Shared → Prop} (h : wpJ M A (isTrue test env (eval test env)) (fun b s₁ => if b then wpJ M A (eval body env) Q s₁ else wpJ M A (eval orelse env) Q s₁) s) : wpJ M A (eval (.IfExp test body orelse pos) env) Q s := by
  rw [arm_eval_IfExp]
  exact wpJ_bind (wpJ_mono h fun b s₁ h₁ => by cases b <;> exact h₁)
theorem jUnary {op x pos} {Q : Value → Shared → Prop} (h : wpJ M A (eval x env) (fun v s₁ => wpJ M A (unaryOp op v) Q s₁) s) : wpJ M A (eval (.UnaryOp op x pos) env) Q s := by
  rw [arm_eval_UnaryOp]
  exact wpJ_bind (wpJ_mono h fun v s₁ h₁ => wpJ_at (wpJ_holding h₁))
theorem jTestPlain {e : Expr} {whole : Sem Value} {Q : Bool → Shared → Prop} (h : wpJ M A whole (fun v s₁ => wpJ M A (truthy v) Q s₁) s) (he : PySem.isTrue e env whole = (do let v ← whole; standAt e.pos; holding [v] (truthy v))) : wpJ M A (PySem.isTrue e env whole) Q s := by
  rw [he]
  exact wpJ_bind (wpJ_mono h fun v s₁ h₁ => wpJ_at (wpJ_holding h₁))
theorem jSpliced_nil {Q : List Value → Shared → Prop} (h : Q [] s) : wpJ M A (spliced []) Q s := wpJ_pure h
theorem jSpliced_cons {x : Sem Value} {rest : List (Bool × Sem Value)} {Q : List Value → Shared → Prop} (h : wpJ M A x (fun v s₁ => wpJ M A (spliced rest) (fun vs s₂ => Q (v :: vs) s₂) s₁) s) : wpJ M A (spliced ((false, x) :: rest)) Q s := by
  rw [spliced]
  refine wpJ_bind (wpJ_mono h fun v s₁ h₁ => ?_)
  simp only [Bool.false_eq_true, if_false]
  exact wpJ_bind (wpJ_pure (wpJ_bind (wpJ_holding (wpJ_mono h₁ fun vs s₂ h₂ => wpJ_pure h₂))))
theorem jTuple {elts : List Expr} {k : Nat} {pos : Pos} {Q : Value → Shared → Prop} (h : wpJ M A (spliced (backTo pos (starEach elts env))) (fun vs s₁ => wpJ M A (newTuple vs) Q s₁) s) : wpJ M A (eval (.Tuple elts k pos) env) Q s := by
  rw [arm_eval_Tuple]
  exact wpJ_at (wpJ_bind h)
theorem jList {elts : List Expr} {pos : Pos} {Q : Value → Shared → Prop} (h : wpJ M A (spliced (backTo pos (starEach elts env))) (fun vs s₁ => wpJ M A (newList vs) Q s₁) s) : wpJ M A (eval (.List elts pos) env) Q s := by
  rw [arm_eval_List]
  exact wpJ_at (wpJ_bind h)
theorem jSubscript {value slice pos} {Q : Value → Shared → Prop} (h : wpJ M A (eval value env) (fun o s₁ => wpJ M A (eval slice env) (fun i s₂ => wpJ M A (subscriptTail value slice o i) Q s₂) s₁) s) : wpJ M A (eval (.Subscript value slice pos) env) Q s := by
  rw [eval_Subscript]
  exact wpJ_bind (wpJ_mono h fun o s₁ h₁ => wpJ_bind (wpJ_holding (wpJ_mono h₁ fun i s₂ h₂ => wpJ_at h₂)))
theorem back_plain {pos : Pos} {l : List (Bool × Sem Value)} (h : l.any (·.1) = false) : (backTo pos l).any (·.1) = false := by
  unfold backTo
  rw [List.any_map]
  exact h
theorem jArgs {f : Value} {args : List (Bool × Sem Value)} {Q : Args → Shared → Prop} (hp : args.any (·.1) = false) (h : wpJ M A (spliced args) (fun vs s' => Q ⟨vs, []⟩ s') s) : wpJ M A (evalArgs f true args []) Q s := by
  have key : wpJ M A (spliced args >>= fun ps => (holding (ps ++ (none : Option Value).toList) (do
      let kw := ((([] : List (Option Str × Sem Value)).filterMap (·.1)).zip (← evalAll (([] : List (Option Str × Sem Value)).map (·.2))))
      return ⟨← pure ps, kw⟩) : Sem Args)) Q s := wpJ_bind (wpJ_mono h fun vs s' h' => wpJ_holding (wpJ_bind (wpJ_pure (wpJ_bind (wpJ_pure (wpJ_pure h'))))))
  cases args with
  | nil => exact key
  | cons x r =>
    obtain ⟨b, t⟩ := x
    cases b with
    | true => simp at hp
    | false => exact key
theorem jCallWith {pos : Pos} {f : Value} {args : List (Bool × Sem Value)} {Q : Value → Shared → Prop} (hp : args.any (·.1) = false) (hn : args.length ≤ 30)
    (h : wpJ M A (spliced args) (fun vs s₁ => (∃ kp, (kp = .frame ∨ kp = .machine) ∧ ∀ {Q' : Keeper → Shared → Prop}, Q' kp s₁ → wpAny M A (keeperOf f) Q' noE s₁) ∧ wpJ M A (call f vs) Q s₁) s) : wpJ M A (callWith pos f [] args []) Q s := by
  unfold callWith
  refine wpJ_bind (wpJ_holding (jArgs hp (wpJ_mono h fun vs s₁ h₁ => wpJ_at ?_)))
  obtain ⟨⟨kp, hk, hkp⟩, hc⟩ := h₁
  have tail : ∀ {t : Sem Value}, wpJ M A t Q s₁ → wpJ M A (t >>= fun r => holding [r] point >>= fun _ => pure r) Q s₁ :=
    fun ht => wpJ_bind (wpJ_mono ht fun r s₂ hr => wpJ_bind (wpJ_holding (wpJ.of (wpAny_point (wpJ_pure hr)))))
  simp only [hp, List.any_nil, Bool.or_false, List.nil_append]
  refine wpJ_bind (wpJ.of (hkp ?_))
  rcases hk with rfl | rfl
  · simp only [List.length_nil, Nat.mul_zero, Nat.add_zero, if_neg (Nat.not_lt.mpr hn)]
    exact tail (wpJ_keep hc)
  · exact tail hc
theorem jCall_Name {x : Str} {p pos : Pos} {args : List Expr} {Q : Value → Shared → Prop} (h : wpJ M A (eval (.Name x p) env) (fun f s₁ => wpJ M A (callWith pos f [] (backTo pos (starEach args env)) []) Q s₁) s) : wpJ M A (eval (.Call (.Name x p) args [] pos) env) Q s := by
  show wpJ M A (do callWith pos (← eval (.Name x p) env) [] (backTo pos (starEach args env)) (backToKw pos (keywordEach [] env))) Q s
  exact wpJ_bind h
theorem jExecs_nil {Q : Flow → Shared → Prop} (h : Q .next s) : wpJ M A (execs [] env) Q s := fun _ _ _ _ => h
theorem jExecs_cons {st rest} {Q : Flow → Shared → Prop} (h : wpJ M A (exec st env) (fun f s' => match f with | .next => wpJ M A (execs rest env) Q s' | f => Q f s') s) : wpJ M A (execs (st :: rest) env) Q s := by
  rw [execs_cons]
  refine wpJ_bind (wpJ_mono h fun f s' h' => ?_)
  cases f <;> first | exact h' | exact wpJ_pure h'
theorem jReturn {e pos} {Q : Flow → Shared → Prop} (h : wpJ M A (eval e env) (fun v => Q (.ret v)) s) : wpJ M A (exec (.Return (some e) pos) env) Q s := by
  rw [exec_Return_some]
  exact wpJ_at (wpJ_bind (wpJ_mono h fun v s' h' => wpJ_pure h'))
theorem jIf {test body orelse pos} {Q : Flow → Shared → Prop} (h : wpJ M A (isTrue test env (eval test env)) (fun b s₂ => if b then wpJ M A (execs body env) Q s₂ else wpJ M A (execs orelse env) Q s₂) s) : wpJ M A (exec (.If test body orelse pos) env) Q s := by
  rw [exec_If]
  exact wpJ_at (wpJ_bind (wpJ_mono h fun b s₂ h₂ => by cases b <;> exact h₂))
theorem jBindName {x : Str} {v : Value} {Q : Unit → Shared → Prop} (h : wpJ M A (storeName env x v) Q s) : wpJ M A (bindName env x v) Q s := fun Γ p hΓ j => by rw [Sem.wp_bindName]; exact h Γ p hΓ j
theorem jAssign {x pos' value pos} {Q : Flow → Shared → Prop} (h : wpJ M A (eval value env) (fun v s₁ => wpJ M A (storeName env x v) (fun _ => Q .next) s₁) s) (hs : swapsWith value (some (.Name x pos')) pos.line env = pure false) : wpJ M A (exec (.Assign [.Name x pos'] value pos) env) Q s := by
  rw [exec_Assign_Name env x pos' value pos hs]
  exact wpJ_at (wpJ_bind (wpJ_mono h fun v s₁ h₁ => wpJ_at (wpJ_bind (jBindName (wpJ_mono h₁ fun _ s₂ h₂ => wpJ_pure h₂)))))
theorem jAug {x pos' op value pos} {Q : Flow → Shared → Prop} (h : wpJ M A (loadName env x) (fun old s₁ => wpJ M A (eval value env) (fun v s₂ => wpJ M A (inplaceOp op old v) (fun r s₃ => wpJ M A (storeName env x r) (fun _ => Q .next) s₃) s₂) s₁) s) : wpJ M A (exec (.AugAssign (.Name x pos') op value pos) env) Q s := by
  rw [exec_AugAssign_Name]
  exact wpJ_at (wpJ_bind (wpJ_mono h fun old s₁ h₁ => wpJ_bind (wpJ_holding (wpJ_mono h₁ fun v s₂ h₂ => wpJ_at (wpJ_bind (wpJ_operate (wpJ_mono h₂ fun r s₃ h₃ => wpJ_at (wpJ_bind (jBindName (wpJ_mono h₃ fun _ s₄ h₄ => wpJ_pure h₄))))))))))
theorem jAssignName {x pos v} {Q : Unit → Shared → Prop} (h : wpJ M A (storeName env x v) Q s) : wpJ M A (assign (.Name x pos) env v) Q s := by
  rw [PySem.assign_Name]; exact wpJ_at (jBindName h)
theorem jFor {target iter body orelse pos} {Q : Flow → Shared → Prop} (h : wpJ M A (eval iter env) (fun x s₁ => wpJ M A (pyIter x) (fun it s₂ => codeJ M A (.forLoop target it body orelse env) Q s₂) s₁) s) (hs : ∀ x, foldedSetIterable iter env x = pure x) : wpJ M A (exec (.For target iter body orelse pos) env) Q s := by
  rw [exec_For]
  exact wpJ_at (wpJ_bind (wpJ_mono h fun x s₁ h₁ => by
    rw [hs x]
    exact wpJ_bind (wpJ_pure (wpJ_at (wpJ_bind (wpJ_holding (wpJ_mono h₁ fun it s₂ h₂ => wpJ_runOwn rfl h₂)))))))
end
section
variable {prog : Program} {w : World} {A : Around} {s : Shared} {env : Env}
theorem codeJ_block {stmts : List Stmt} {Q : Flow → Shared → Prop} (h : wpJ (model prog w) A (execs stmts env) Q s) : codeJ (model prog w) A (.block stmts env) Q s := by
  refine codeJ_of_tree ?_
  rw [Around.under_of_weight rfl]
  show wpJ _ _ (do return Fin.done (← (execs stmts env).onRaise (fun x => do noteFrame x env; theTreesLotGoes x))) _ s
  exact wpJ_bind (wpJ_onRaise (wpJ_mono h fun f s' h' => wpJ_pure h'))
theorem codeJ_func {body : List Stmt} {Q : Flow → Shared → Prop} (h : wpJ (model prog w) (A.deeper env) (execs body env) (fun f s' => Q (.ret (match f with | .ret v => v | _ => .none)) s') s) : codeJ (model prog w) A (.func body env) Q s := by
  refine codeJ_of_tree ?_
  show wpJ _ (A.deeper env) (do point; match ← (execs body env).onRaise (leaving env) with | .ret v => ret v | _ => ret .none) _ s
  refine wpJ_bind (wpJ.of (wpAny_point (wpJ_bind (wpJ_onRaise (wpJ_mono h fun f s' h' => ?_)))))
  cases f <;> exact wpJ_pure h'
theorem codeJ_forLoop {Q : Flow → Shared → Prop} {target it body orelse} (I : Nat → Shared → Prop)
    (turn : ∀ n s, I n s → wpJ (model prog w) A (pyNext it) (fun r s₁ => match r with
      | none => wpJ (model prog w) A (execs orelse env) Q s₁
      | some v => wpJ (model prog w) A (assign target env v) (fun _ s₂ => wpJ (model prog w) A (execs body env) (fun f s₃ => match f with
          | .next | .cont => ∃ m, m < n ∧ I m s₃
          | .brk => Q .next s₃
          | .ret v => Q (.ret v) s₃) s₂) s₁) s)
    (n : Nat) (h : I n s) (ht : ∀ v, letOwnedTupleGo target it v = pure () := by intro _; rfl) : codeJ (model prog w) A (.forLoop target it body orelse env) Q s := by
  refine codeJ_loop rfl rfl I (fun n s hI => ?_) n h
  rw [Around.under_of_weight rfl]
  show wpJ _ _ ((forTurn target it body orelse env).onRaise (fun x => do noteFrame x env; theTreesLotGoes x)) _ s
  refine wpJ_onRaise ?_
  simp only [forTurn]
  refine wpJ_at (wpJ_bind (wpJ_onRaise (wpJ_mono (turn n s hI) fun r s₁ h₁ => ?_)))
  cases r with
  | none => exact wpJ_pure (.inr ⟨rfl, rfl, codeJ_block h₁⟩)
  | some v =>
    dsimp only
    rw [ht v]
    refine wpJ_bind (wpJ_pure (wpJ_bind (wpJ_mono h₁ fun _ s₂ h₂ => wpJ_bind (wpJ_mono h₂ fun f s₃ h₃ => ?_))))
    cases f with
    | next => exact wpJ_pure (.inl ⟨rfl, h₃⟩)
    | cont => exact wpJ_pure (.inl ⟨rfl, h₃⟩)
    | brk => exact wpJ_pure h₃
    | ret v => exact wpJ_pure h₃
/-- the call of a def, cells or none, no closure -/
theorem codeJ_call_cells {Q : Flow → Shared → Prop} {a : Addr} {o : Obj} {fd : FuncData} {body : List Stmt} {vals : List Value} {binds : List (Str × Value)}
    (hroom : A.depth < recursionLimit) (ho : s.heap.get? a = some o) (hdata : o.data = .func fd) (hlim : s.heap.NoLimit) (hcd : s.heap.CodeRec fd.code fd.qualname)
    (hbody : fd.body = .stmts body) (hbind : bindArgs fd ⟨vals, []⟩ = pure binds) (hclo : fd.closure = [])
    (hkind : ∀ x ∈ binds, fd.scope.names.lookup x.1 = some .local ∨ (fd.scope.names.lookup x.1 = some .cell ∧ ((cellsFrom (s.heap.objs.size + 1) fd.scope.names []).lookup x.1).isSome = true))
    (h : ∀ s₁, InCallC s (callEnvC fd s.heap.objs.size a).locals (bindL (callEnvC fd s.heap.objs.size a).kindOf binds fun _ => none) (callEnvC fd s.heap.objs.size a).cells
        (bindC (callEnvC fd s.heap.objs.size a).kindOf binds fun _ => none) s₁ →
      wpJ (model prog w) (A.deeper (callEnvC fd s.heap.objs.size a)) (execs body (callEnvC fd s.heap.objs.size a)) (fun f s' => Q (.ret (match f with | .ret v => v | _ => .none)) s') s₁)
    (hco : fd.scope.isCoroutine = false) (hgen : fd.scope.isGenerator = false) (hk : fd.scope.kind = .function) :
    codeJ (model prog w) A (.call (.ref a) ⟨vals, []⟩) Q s := by
  refine codeJ_of_tree ?_
  show wpJ _ A.in1 (callAny (.ref a) ⟨vals, []⟩) _ s
  simp only [callAny]
  refine wpJ_bind (wpJ.of (wpAny_load ho ?_))
  obtain ⟨c, oc, vs, tq, hc, hoc, hdc, hq⟩ := hcd
  simp only [hdata, callFunction, hco, hgen, hbody, hc]
  refine wpJ_bind (m := field (.ref c) 1) (wpJ.of (wpAny_field hoc hdc hq (wpJ_bind (wpJ_pure ?_))))
  rw [hbind, hclo]
  refine wpJ_bind (wpJ_pure (wpJ_bind (wpJ.of (wpAny_newFunctionEnv_cells hk hkind fun env he s' x => ?_))))
  have he' : env = callEnvC fd s.heap.objs.size a := by rw [he]; unfold callEnvC; rw [hc]
  subst he'
  exact wpJ_bind (wpJ.of (wpAny_enterFrame (hlim.keeps x.toInCall.keep) hroom (wpJ_pure ⟨rfl, rfl, codeJ_func (h s' x)⟩)))
end
end Mine
end
noncomputable section
open PySem PySem.W PyProof.Rows
set_option Elab.async false
namespace Mine
theorem len1 {α : Type} {l : List α} (h : l.length = 1) : ∃ a, l = [a] := List.length_eq_one_iff.mp h
theorem lenS {α : Type} {l : List α} {n : Nat} (h : l.length = n + 1) : ∃ a r, l = a :: r ∧ r.length = n := by
  cases l with
  | nil => cases h
  | cons a r => exact ⟨a, r, rfl, Nat.succ.inj h⟩
theorem len2 {α : Type} {l : List α} (h : l.length = 2) : ∃ a b, l = [a, b] := by
  obtain ⟨a, r, rfl, h'⟩ := lenS h
  obtain ⟨b, rfl⟩ := len1 h'
  exact ⟨a, b, rfl⟩
theorem len3 {α : Type} {l : List α} (h : l.length = 3) : ∃ a b c, l = [a, b, c] := by
  obtain ⟨a, r, rfl, h'⟩ := lenS h
  obtain ⟨b, c, rfl⟩ := len2 h'
  exact ⟨a, b, c, rfl⟩
/-- plain data -/
inductive D where
  | none | bool (b : Bool) | int (i : Int) | bytes (b : List UInt8) | tup (l : List D) | lst (l : List D) | range (a b c : Int) | val (v : Value) | key (C : Addr) (d : D)
/-- the heap has grown: what was outside S is there, a code table may have more rows -/
structure Grow (S : Addr → Prop) (h h' : Heap) : Prop where
  old : ∀ b o, ¬ S b → h.get? b = some o → h'.get? b = some o
noncomputable abbrev no : Addr → Prop := fun _ => False
noncomputable abbrev Le := Grow no
theorem Grow.refl (S : Addr → Prop) (h : Heap) : Grow S h h := ⟨fun _ _ _ e => e⟩
theorem Grow.trans {S : Addr → Prop} {h h' h'' : Heap} (a : Grow S h h') (b : Grow S h' h'') : Grow S h h'' := ⟨fun c o hs e => b.old c o hs (a.old c o hs e)⟩
theorem Grow.mono {S S' : Addr → Prop} {h h' : Heap} (a : Grow S h h') (hs : ∀ b, S b → S' b) : Grow S' h h' :=
  ⟨fun b o n e => a.old b o (fun x => n (hs b x)) e⟩
theorem Grow.any {S : Addr → Prop} {h h' : Heap} (a : Le h h') : Grow S h h' := a.mono fun _ x => x.elim
theorem Grow.get {S : Addr → Prop} {h h' : Heap} (a : Grow S h h') {b : Addr} {o : Obj} (hs : ¬ S b) (e : h.get? b = some o) (hc : o.cls ≠ .none) : h'.get? b = some o := a.old b o hs e
theorem Grow.getD {S : Addr → Prop} {h h' : Heap} (a : Grow S h h') {b : Addr} {o : Obj} (hs : ¬ S b) (e : h.get? b = some o) (hc : ∀ ps, o.data ≠ .fields ps) : h'.get? b = some o := a.old b o hs e
theorem Grow.keeps {S : Addr → Prop} {h h' : Heap} (k : ∀ b o, h.get? b = some o → h'.get? b = some o) : Grow S h h' := ⟨fun b o _ e => k b o e⟩
theorem Grow.push {S : Addr → Prop} (h : Heap) (o : Obj) : Grow S h (h.push o) := .keeps (fun _ _ e => Heap.get?_push_of_some _ e)
theorem Grow.same {S : Addr → Prop} {h h' : Heap} {a : Addr} (hs : Heap.SameBut a h h') (ha : S a) : Grow S h h' :=
  ⟨fun b o n e => (hs.2 b (fun q => n (q ▸ ha))).trans e⟩
theorem Grow.alive {S : Addr → Prop} {h h' : Heap} (a : Grow S h h') {b : Addr} (hs : ¬ S b) (e : ∃ o, h.get? b = some o) : ∃ o, h'.get? b = some o := let ⟨o, e⟩ := e; ⟨o, a.old b o hs e⟩
/-- all of X is there -/
noncomputable def Alive (X : Addr → Prop) (h : Heap) : Prop := ∀ a, X a → ∃ o, h.get? a = some o
theorem Alive.le {X : Addr → Prop} {h h' : Heap} (x : Alive X h) (g : Grow no h h') : Alive X h' := fun a q => g.alive (fun x => x) (x a q)
theorem Alive.new {X : Addr → Prop} {h : Heap} (x : Alive X h) : ¬ X h.objs.size := fun q => let ⟨_, e⟩ := x _ q; Nat.lt_irrefl _ (Heap.lt_size e)
theorem Grow.ns {S : Addr → Prop} {h h' : Heap} (a : Grow S h h') {b : Addr} {m} (hs : ¬ S b) (n : h.Ns b m) : h'.Ns b m := by
  obtain ⟨o, es, ep, ho, hd, r⟩ := n
  exact ⟨o, es, ep, a.getD hs ho (fun ps => by rw [hd]; intro q; cases q), hd, r⟩
theorem Grow.cell {S : Addr → Prop} {h h' : Heap} (a : Grow S h h') {b : Addr} {v} (hs : ¬ S b) (n : h.IsCell b v) : h'.IsCell b v := by
  obtain ⟨o, ho, hd⟩ := n
  exact ⟨o, a.getD hs ho (fun ps => by rw [hd]; intro q; cases q), hd⟩
theorem Grow.list {S : Addr → Prop} {h h' : Heap} (a : Grow S h h') {b : Addr} {v} (hs : ¬ S b) (n : h.IsList b v) : h'.IsList b v := by
  obtain ⟨o, ho, hc, k, hd⟩ := n
  exact ⟨o, a.getD hs ho (fun ps => by rw [hd]; intro q; cases q), hc, k, hd⟩
theorem Grow.tup {S : Addr → Prop} {h h' : Heap} (a : Grow S h h') {b : Addr} {v} (hs : ¬ S b) (n : IsTup h b v) : IsTup h' b v := by
  obtain ⟨o, ho, hc, k, hd⟩ := n
  exact ⟨o, a.getD hs ho (fun ps => by rw [hd]; intro q; cases q), hc, k, hd⟩
mutual
/-- the heap bears the datum at a value; nothing of it lies in X -/
noncomputable def Rep (h : Heap) (X : Addr → Prop) : D → Value → Prop
  | .none, v => v = .none
  | .bool b, v => v = .bool b
  | .int i, v => ∃ t, v = .int i t
  | .bytes b, v => ∃ t, v = .bytes b.toArray t
  | .tup l, v => ∃ a vs, v = .ref a ∧ ¬ X a ∧ IsTup h a (List.toArray vs) ∧ Reps h X l vs
  | .lst l, v => ∃ a vs, v = .ref a ∧ ¬ X a ∧ h.IsList a (List.toArray vs) ∧ Reps h X l vs
  | .range a b c, v => ∃ r t u z, v = .ref r ∧ ¬ X r ∧ IsRange h r a b c t u z
  | .val v', v => v = v'
  | .key C d, v => ∃ x dx u, v = .ref x ∧ ¬ X x ∧ h.get? x = some ⟨.ref C, some dx, .plain, #[some u]⟩ ∧ Rep h X d u
noncomputable def Reps (h : Heap) (X : Addr → Prop) : List D → List Value → Prop
  | [], vs => vs = []
  | d :: ds, vs => ∃ v vs', vs = v :: vs' ∧ Rep h X d v ∧ Reps h X ds vs'
end
/-- an object that bears no datum -/
noncomputable def Bare (o : Obj) : Prop := (∀ xs n, o.data ≠ .seq xs n) ∧ (∀ vs, o.data = .fields vs → o.cls ≠ .type "range") ∧ o.data ≠ .plain
theorem Bare.dict {o : Obj} {es n} (q : o.data = .dict es n) : Bare o := ⟨(fun xs n hd => by rw [q] at hd; cases hd), (fun vs hd => by rw [q] at hd; cases hd), (fun hd => by rw [q] at hd; cases hd)⟩
theorem Bare.cell {o : Obj} {v} (q : o.data = .cell v) : Bare o := ⟨(fun xs n hd => by rw [q] at hd; cases hd), (fun vs hd => by rw [q] at hd; cases hd), (fun hd => by rw [q] at hd; cases hd)⟩
theorem Bare.fields {o : Obj} {v} (q : o.data = .fields v) (hc : o.cls ≠ .type "range") : Bare o := ⟨(fun xs n hd => by rw [q] at hd; cases hd), (fun _ _ => hc), (fun hd => by rw [q] at hd; cases hd)⟩
mutual
theorem Rep.grow {S X X' : Addr → Prop} {h h' : Heap} (g : Grow S h h') (hS : ∀ b, S b → X b ∨ ∀ o, h.get? b = some o → Bare o) (hX : ∀ b, b < h.objs.size → X' b → X b) :
    ∀ {d : D} {v : Value}, Rep h X d v → Rep h' X' d v
  | .none, _, r => r
  | .bool _, _, r => r
  | .int _, _, r => r
  | .bytes _, _, r => r
  | .val _, _, r => r
  | .key C d, v, r => by
    obtain ⟨x, dx, u, e, hx, ho, ru⟩ := r
    have hs : ¬ S x := fun s => by
      rcases hS x s with q | q
      · exact hx q
      · exact (q _ ho).2.2 rfl
    exact ⟨x, dx, u, e, fun q => hx (hX x (Heap.lt_size ho) q), g.old _ _ hs ho, Rep.grow g hS hX ru⟩
  | .range a b c, v, r => by
    obtain ⟨a, t, u, z, e, hx, ht⟩ := r
    have hs : ¬ S a := fun s => by
      rcases hS a s with x | x
      · exact hx x
      · exact (x _ ht).2.1 _ rfl rfl
    exact ⟨a, t, u, z, e, fun q => hx (hX a (Heap.lt_size ht) q), g.get hs ht (fun q => nomatch q)⟩
  | .tup l, v, r => by
    obtain ⟨a, vs, e, hx, ht, rs⟩ := r
    have hs : ¬ S a := fun s => by
      rcases hS a s with x | x
      · exact hx x
      · obtain ⟨o, ho, _, n, hd⟩ := ht; exact (x o ho).1 _ n hd
    exact ⟨a, vs, e, fun q => hx (hX a (let ⟨_, ho, _⟩ := ht; Heap.lt_size ho) q), g.tup hs ht, Reps.grow g hS hX rs⟩
  | .lst l, v, r => by
    obtain ⟨a, vs, e, hx, ht, rs⟩ := r
    have hs : ¬ S a := fun s => by
      rcases hS a s with x | x
      · exact hx x
      · obtain ⟨o, ho, _, n, hd⟩ := ht; exact (x o ho).1 _ n hd
    exact ⟨a, vs, e, fun q => hx (hX a (let ⟨_, ho, _⟩ := ht; Heap.lt_size ho) q), g.list hs ht, Reps.grow g hS hX rs⟩
theorem Reps.grow {S X X' : Addr → Prop} {h h' : Heap} (g : Grow S h h') (hS : ∀ b, S b → X b ∨ ∀ o, h.get? b = some o → Bare o) (hX : ∀ b, b < h.objs.size → X' b → X b) :
    ∀ {d : List D} {v : List Value}, Reps h X d v → Reps h' X' d v
  | [], _, r => r
  | _ :: _, _, ⟨v, vs, e, r, rs⟩ => ⟨v, vs, e, Rep.grow g hS hX r, Reps.grow g hS hX rs⟩
end
theorem Rep.le {X : Addr → Prop} {h h' : Heap} (g : Le h h') {d : D} {v : Value} (r : Rep h X d v) : Rep h' X d v := r.grow g (fun _ s => s.elim) fun _ _ x => x
theorem Reps.le {X : Addr → Prop} {h h' : Heap} (g : Le h h') {d : List D} {v : List Value} (r : Reps h X d v) : Reps h' X d v := r.grow g (fun _ s => s.elim) fun _ _ x => x
theorem Reps.length {X : Addr → Prop} {h : Heap} : ∀ {d : List D} {v : List Value}, Reps h X d v → v.length = d.length
  | [], _, r => by cases r; rfl
  | _ :: _, _, ⟨v, vs, e, _, rs⟩ => by rw [e, List.length_cons, List.length_cons, rs.length]
theorem Reps.get {X : Addr → Prop} {h : Heap} : ∀ {ds : List D} {vs : List Value}, Reps h X ds vs → ∀ {i : Nat} {d : D}, ds[i]? = some d → ∃ v, vs[i]? = some v ∧ Rep h X d v
  | [], _, _, i, d, e => by simp at e
  | d₀ :: ds, _, ⟨v, vs, rfl, r, rs⟩, 0, d, e => by
    simp at e; subst e; exact ⟨v, rfl, r⟩
  | d₀ :: ds, _, ⟨v, vs, rfl, r, rs⟩, i + 1, d, e => by
    simp at e; simpa using rs.get e
theorem Reps.append {X : Addr → Prop} {h : Heap} : ∀ {ds es : List D} {vs us : List Value}, Reps h X ds vs → Reps h X es us → Reps h X (ds ++ es) (vs ++ us)
  | [], _, _, _, r, q => by cases r; exact q
  | _ :: _, _, _, _, ⟨v, vs, rfl, r, rs⟩, q => ⟨v, vs ++ _, rfl, r, rs.append q⟩
theorem Reps.drop {X : Addr → Prop} {h : Heap} : ∀ (n : Nat) {ds : List D} {vs : List Value}, Reps h X ds vs → Reps h X (ds.drop n) (vs.drop n)
  | 0, _, _, r => r
  | _ + 1, [], _, r => by cases r; rfl
  | n + 1, _ :: _, _, ⟨v, vs, rfl, r, rs⟩ => by simpa using rs.drop n
theorem Reps.take {X : Addr → Prop} {h : Heap} : ∀ (n : Nat) {ds : List D} {vs : List Value}, Reps h X ds vs → Reps h X (ds.take n) (vs.take n)
  | 0, _, _, _ => by simp only [List.take_zero]; rfl
  | _ + 1, [], _, r => by cases r; simp only [List.take_nil]; rfl
  | n + 1, _ :: _, _, ⟨v, vs, rfl, r, rs⟩ => by simp only [List.take_succ_cons]; exact ⟨v, _, rfl, r, rs.take n⟩
/-- the ints among them -/
theorem Reps.ints {X : Addr → Prop} {h : Heap} : ∀ {ns : List Int} {vs : List Value}, Reps h X (ns.map D.int) vs → IntsAre vs ns
  | [], _, r => by cases r; exact .nil
  | n :: ns, _, r => by
    obtain ⟨v, vs, rfl, ⟨t, rfl⟩, rs⟩ := r
    exact .cons n t (Reps.ints rs)
theorem Reps.of_ints {X : Addr → Prop} {h : Heap} {vs : List Value} {ns : List Int} (hi : IntsAre vs ns) : Reps h X (ns.map D.int) vs := by
  induction hi with
  | nil => rfl
  | cons n t _ ih => exact ⟨_, _, rfl, ⟨t, rfl⟩, ih⟩
/-- room above the stack -/
structure Bud (k : Nat) (A : Around) : Prop where
  handled : A.handled = none
  depth : A.depth + k < 1000
  units : A.units + 10 * k < 9900
  guards : A.guards = some []
theorem Bud.lt {k : Nat} {A : Around} (b : Bud k A) : A.depth < recursionLimit := by have := b.depth; unfold recursionLimit; omega
theorem Bud.un {k : Nat} {A : Around} (b : Bud k A) : A.units < cLine := by have := b.units; unfold cLine; omega
theorem Bud.mono {k j : Nat} {A : Around} (b : Bud k A) (h : j ≤ k) : Bud j A := ⟨b.handled, by have := b.depth; omega, by have := b.units; omega, b.guards⟩
theorem Bud.in1 {k : Nat} {A : Around} (b : Bud (k + 1) A) : Bud k A.in1 := ⟨b.handled, by have := b.depth; show A.depth + k < 1000; omega, by have := b.units; show A.units + 1 + 10 * k < 9900; omega, b.guards⟩
theorem Bud.deeper {k : Nat} {A : Around} {env : Env} (b : Bud (k + 1) A) : Bud k (A.deeper env) := ⟨b.handled, by have := b.depth; show A.depth + 1 + k < 1000; omega, by have := b.units; simp only [Around.deeper_units]; omega, b.guards⟩
/-- what an evaluation leaves -/
noncomputable def Post (g : Array GenState) (d : Drawn) (o : OsState) (S : Addr → Prop) (h : Heap) {α : Type} (R : Heap → α → Prop) : α → Shared → Prop :=
  fun v s' => ∃ h' t', s' = ⟨h', g, d, t', o⟩ ∧ Grow S h h' ∧ R h' v
end Mine
end
noncomputable section
open PySem PySem.W PyProof.Rows
set_option Elab.async false
set_option linter.unusedVariables false
namespace Mine
noncomputable abbrev Rho := Str → Option D
noncomputable def upd (ρ : Rho) (x : Str) (d : D) : Rho := fun y => if y = x then some d else ρ y
noncomputable def nil : Rho := fun _ => none
/-- what is known of the top, wherever the heap has grown -/
structure Glob (G : Heap → Prop) (Z : Addr → Prop) : Prop where
  grow : ∀ S h h', (∀ a, S a → ¬ Z a) → Grow S h h' → G h → G h'
  lim : ∀ h, G h → h.NoLimit
  fresh : ∀ h, G h → ∀ a, h.objs.size ≤ a → ¬ Z a
variable {prog : Program} {w : World} {G : Heap → Prop} {Z : Addr → Prop}
/-- the activation's own objects, which it may change -/
noncomputable def Mut (env : Env) : Addr → Prop := fun b => b = env.locals ∨ ∃ x, env.kindOf x = some .cell ∧ env.cells.lookup x = some b
/-- the frame bears the data ρ -/
structure Fok (G : Heap → Prop) (Z : Addr → Prop) (X : Addr → Prop) (h : Heap) (env : Env) (ρ : Rho) : Prop where
  g : G h
  xs : Alive X h
  low : ¬ Z env.locals
  loc : ∃ m, h.Ns env.locals m ∧ ∀ x d, ρ x = some d → env.kindOf x = some .local → ∃ v, m x = some v ∧ Rep h X d v
  cel : ∀ x d, ρ x = some d → env.kindOf x ≠ some .local → ∃ c v, env.cells.lookup x = some c ∧ h.IsCell c (some v) ∧ Rep h X d v
  own : ∀ x, env.kindOf x = some .cell → ∃ c ov, env.cells.lookup x = some c ∧ h.IsCell c ov ∧ ¬ Z c
  apart : ∀ x y c, env.cells.lookup x = some c → env.cells.lookup y = some c → x = y
/-- nothing of the activation's own objects is a list or a tuple -/
theorem Mut.kind {X h env} {ρ : Rho} (F : Fok G Z X h env ρ) {b : Addr} (m : Mut env b) : ∃ o, h.get? b = some o ∧ ((∃ es n, o.data = .dict es n) ∨ ∃ v, o.data = .cell v) := by
  rcases m with rfl | ⟨x, hk, hc⟩
  · obtain ⟨m, ⟨o', es, ep, ho', hd', _⟩, _⟩ := F.loc
    exact ⟨o', ho', .inl ⟨es, ep, hd'⟩⟩
  · obtain ⟨c, ov, e, ⟨o', ho', hd'⟩, _⟩ := F.own x hk
    rw [hc] at e; cases e
    exact ⟨o', ho', .inr ⟨_, hd'⟩⟩
theorem Mut.noSeq {X h env} {ρ : Rho} (F : Fok G Z X h env ρ) {b : Addr} (m : Mut env b) : ∀ o, h.get? b = some o → Bare o := by
  intro o ho
  obtain ⟨o', ho', q⟩ := Mut.kind F m
  rw [ho'] at ho; cases ho
  rcases q with ⟨es, n, q⟩ | ⟨v, q⟩
  · exact .dict q
  · exact .cell q
theorem Fok.le (W : Glob G Z) {X h h' env} {ρ : Rho} (F : Fok G Z X h env ρ) (g : Le h h') : Fok G Z X h' env ρ where
  g := W.grow no h h' (fun _ x => x.elim) g F.g
  xs := F.xs.le g
  low := F.low
  loc := let ⟨m, n, q⟩ := F.loc; ⟨m, g.ns (fun x => x) n, fun x d e k => let ⟨v, a, r⟩ := q x d e k; ⟨v, a, r.le g⟩⟩
  cel := fun x d e k => let ⟨c, v, a, i, r⟩ := F.cel x d e k; ⟨c, v, a, g.cell (fun x => x) i, r.le g⟩
  own := fun x k => let ⟨c, v, a, i, r⟩ := F.own x k; ⟨c, v, a, g.cell (fun x => x) i, r⟩
  apart := F.apart
/-- a larger set set apart, all of it new -/
theorem Fok.more (W : Glob G Z) {X X' h h' env} {ρ : Rho} (F : Fok G Z X h env ρ) (g : Le h h') (hX : ∀ b, b < h.objs.size → X' b → X b) (hx : Alive X' h') : Fok G Z X' h' env ρ where
  g := W.grow no h h' (fun _ x => x.elim) g F.g
  xs := hx
  low := F.low
  loc := let ⟨m, n, q⟩ := F.loc; ⟨m, g.ns (fun x => x) n, fun x d e k => let ⟨v, a, r⟩ := q x d e k; ⟨v, a, r.grow g (fun _ s => s.elim) hX⟩⟩
  cel := fun x d e k => let ⟨c, v, a, i, r⟩ := F.cel x d e k; ⟨c, v, a, g.cell (fun x => x) i, r.grow g (fun _ s => s.elim) hX⟩
  own := fun x k => let ⟨c, v, a, i, r⟩ := F.own x k; ⟨c, v, a, g.cell (fun x => x) i, r⟩
  apart := F.apart
/-- objects in X (or ones that are no frame and no datum) may turn -/
theorem Fok.turn (W : Glob G Z) {S X h h' env} {ρ : Rho} (F : Fok G Z X h env ρ) (g : Grow S h h') (hlow : ∀ b, S b → ¬ Z b) (hal : ∀ b, S b → X b → ∃ o, h'.get? b = some o)
    (hS : ∀ b, S b → ∃ o, h.get? b = some o ∧ ((X b ∨ Bare o) ∧ (∀ xs n, o.data ≠ .dict xs n) ∧ ∀ v, o.data ≠ .cell v)) : Fok G Z X h' env ρ := by
  have rp : ∀ {d v}, Rep h X d v → Rep h' X d v := fun r => r.grow g (fun b s => by
    obtain ⟨o, ho, q, _⟩ := hS b s
    rcases q with q | q
    · exact .inl q
    · exact .inr fun o' ho' => by rw [ho] at ho'; cases ho'; exact q) fun _ _ x => x
  have nd : ∀ {b o es ep}, h.get? b = some o → o.data = .dict es ep → ¬ S b := fun ho hd s => by
    obtain ⟨o', ho', q⟩ := hS _ s
    rw [ho] at ho'; cases ho'
    exact q.2.1 _ _ hd
  have nc : ∀ {b v}, h.IsCell b v → ¬ S b := fun ⟨o, ho, hd⟩ s => by
    obtain ⟨o', ho', q⟩ := hS _ s
    rw [ho] at ho'; cases ho'
    exact q.2.2 _ hd
  exact {
    g := W.grow S h h' hlow g F.g
    xs := fun a x => Classical.byCases (fun s : S a => hal a s x) fun s => g.alive s (F.xs a x)
    low := F.low
    loc := by
      obtain ⟨m, n, q⟩ := F.loc
      have n' := n
      obtain ⟨o, es, ep, ho, hd, _⟩ := n'
      exact ⟨m, g.ns (nd ho hd) n, fun x d e k => let ⟨v, a, r⟩ := q x d e k; ⟨v, a, rp r⟩⟩
    cel := fun x d e k => let ⟨c, v, a, i, r⟩ := F.cel x d e k; ⟨c, v, a, g.cell (nc i) i, rp r⟩
    own := fun x k => let ⟨c, v, a, i, r⟩ := F.own x k; ⟨c, v, a, g.cell (nc i) i, r⟩
    apart := F.apart }
/-- a name is stored -/
theorem Fok.setLocal (W : Glob G Z) {X h h' env} {ρ : Rho} (F : Fok G Z X h env ρ) {m : Str → Option Value} (hm : ∀ x d, ρ x = some d → env.kindOf x = some .local → ∃ v, m x = some v ∧ Rep h X d v)
    {x : Str} {v : Value} {d : D} (hn : h'.Ns env.locals (fun y => if y = x then some v else m y)) (hs : Heap.SameBut env.locals h h') (r : Rep h X d v) (hk : env.kindOf x = some .local) : Fok G Z X h' env (upd ρ x d) := by
  have g : Grow (fun b => b = env.locals) h h' := .same hs rfl
  have dl : ∀ b, b = env.locals → ∀ o, h.get? b = some o → Bare o := fun b e => Mut.noSeq F (b := b) (.inl e)
  have rp : ∀ {d v}, Rep h X d v → Rep h' X d v := fun r => r.grow g (fun b s => .inr (dl b s)) fun _ _ x => x
  have nc : ∀ {b v}, h.IsCell b v → ¬ b = env.locals := fun ⟨o, ho, hd⟩ e => by
    subst e
    obtain ⟨_, ⟨o', es, ep, ho', hd', _⟩, _⟩ := F.loc
    rw [ho'] at ho; cases ho; rw [hd'] at hd; cases hd
  exact {
    g := W.grow (fun b => b = env.locals) h h' (fun a e => by subst e; exact F.low) g F.g
    xs := fun a x => Classical.byCases (fun s : a = env.locals => let ⟨o, _, _, e, _⟩ := hn; ⟨o, s ▸ e⟩) fun s => g.alive s (F.xs a x)
    low := F.low
    loc := ⟨_, hn, fun y d' e k => by
      unfold upd at e
      by_cases q : y = x
      · rw [if_pos q] at e; cases e
        exact ⟨v, if_pos q, rp r⟩
      · rw [if_neg q] at e
        obtain ⟨v', a, r'⟩ := hm y d' e k
        exact ⟨v', (if_neg q).trans a, rp r'⟩⟩
    cel := fun y d' e k => by
      unfold upd at e
      by_cases q : y = x
      · subst q; exact absurd hk k
      · rw [if_neg q] at e
        obtain ⟨c, v, a, i, r⟩ := F.cel y d' e k
        exact ⟨c, v, a, g.cell (nc i) i, rp r⟩
    own := fun x k => let ⟨c, v, a, i, r⟩ := F.own x k; ⟨c, v, a, g.cell (nc i) i, r⟩
    apart := F.apart }
theorem Fok.setCell (W : Glob G Z) {X h h' env} {ρ : Rho} (F : Fok G Z X h env ρ) {x : Str} {c : Addr} {v : Value} {d : D} (hc : env.cells.lookup x = some c) {ov : Option Value} (hv₀ : h.IsCell c ov) (hlow : ¬ Z c) (hv : h'.IsCell c (some v)) (hs : Heap.SameBut c h h') (r : Rep h X d v) (hk : env.kindOf x = some .cell) :
    Fok G Z X h' env (upd ρ x d) := by
  have g : Grow (fun b => b = c) h h' := .same hs rfl
  obtain ⟨oc, hoc, hdc⟩ := hv₀
  have rp : ∀ {d v}, Rep h X d v → Rep h' X d v := fun r => r.grow g (fun b s => .inr fun o ho => by subst s; rw [hoc] at ho; cases ho; exact .cell hdc) fun _ _ x => x
  obtain ⟨m, n, q⟩ := F.loc
  have n' := n
  obtain ⟨o, es, ep, ho, hd, _⟩ := n'
  have nl : ¬ env.locals = c := fun e => by rw [e, hoc] at ho; cases ho; rw [hdc] at hd; cases hd
  exact {
    g := W.grow (fun b => b = c) h h' (fun a e => by subst e; exact hlow) g F.g
    xs := fun a x => Classical.byCases (fun s : a = c => let ⟨o, e, _⟩ := hv; ⟨o, s ▸ e⟩) fun s => g.alive s (F.xs a x)
    low := F.low
    loc := ⟨m, g.ns nl n, fun y d' e k => by
      unfold upd at e
      by_cases z : y = x
      · subst z; rw [hk] at k; cases k
      · rw [if_neg z] at e
        obtain ⟨v', a, r'⟩ := q y d' e k
        exact ⟨v', a, rp r'⟩⟩
    cel := fun y d' e k => by
      unfold upd at e
      by_cases z : y = x
      · subst z
        rw [if_pos rfl] at e; cases e
        exact ⟨c, v, hc, hv, rp r⟩
      · rw [if_neg z] at e
        obtain ⟨c', v', a, i, r'⟩ := F.cel y d' e k
        have : ¬ c' = c := fun e => z (F.apart y x c (e ▸ a) hc)
        exact ⟨c', v', a, g.cell this i, rp r'⟩
    own := fun y k => by
      obtain ⟨c', v', a, i, l⟩ := F.own y k
      by_cases z : c' = c
      · subst z; exact ⟨c', _, a, hv, l⟩
      · exact ⟨c', v', a, g.cell z i, l⟩
    apart := F.apart }
/-- a tree evaluates over the frame -/
noncomputable def Tree (prog : Program) (w : World) (G : Heap → Prop) (Z : Addr → Prop) (k : Nat) (env : Env) (ρ : Rho) {α : Type} (t : Sem α) (S : Addr → Prop) (R : (Addr → Prop) → Heap → α → Prop) : Prop :=
  ∀ A, Bud k A → ∀ X h g dr tk o, Fok G Z X h env ρ → wpJ (model prog w) A t (Post g dr o S h (R X)) ⟨h, g, dr, tk, o⟩
noncomputable abbrev EvS (prog : Program) (w : World) (G : Heap → Prop) (Z : Addr → Prop) (k : Nat) (env : Env) (ρ : Rho) (e : Expr) (d : D) : Prop := Tree prog w G Z k env ρ (eval e env) no fun X h v => Rep h X d v
noncomputable abbrev TestS (prog : Program) (w : World) (G : Heap → Prop) (Z : Addr → Prop) (k : Nat) (env : Env) (ρ : Rho) (e : Expr) (b : Bool) : Prop := Tree prog w G Z k env ρ (isTrue e env (eval e env)) no fun _ _ r => r = b
inductive Fl where
  | next
  | ret (d : D)
noncomputable def Fl.Is (X : Addr → Prop) (h : Heap) : Fl → Flow → Prop
  | .next, f => f = .next
  | .ret d, f => ∃ v, f = .ret v ∧ Rep h X d v
noncomputable abbrev ExS (prog : Program) (w : World) (G : Heap → Prop) (Z : Addr → Prop) (k : Nat) (env : Env) (ρ : Rho) (st : Stmt) (f : Fl) (ρ' : Rho) : Prop := Tree prog w G Z k env ρ (exec st env) (Mut env) fun X h r => f.Is X h r ∧ Fok G Z X h env ρ'
noncomputable abbrev ExsS (prog : Program) (w : World) (G : Heap → Prop) (Z : Addr → Prop) (k : Nat) (env : Env) (ρ : Rho) (st : List Stmt) (f : Fl) (ρ' : Rho) : Prop := Tree prog w G Z k env ρ (execs st env) (Mut env) fun X h r => f.Is X h r ∧ Fok G Z X h env ρ'
section
variable {k : Nat} {env : Env} {ρ : Rho} {α : Type} {t : Sem α} {S : Addr → Prop} {R : (Addr → Prop) → Heap → α → Prop}
theorem Tree.use (H : Tree prog w G Z k env ρ t S R) {A : Around} (hA : Bud k A) {X h g dr tk o} (F : Fok G Z X h env ρ) {Q : α → Shared → Prop}
    (q : ∀ h' t' v, Grow S h h' → R X h' v → Q v ⟨h', g, dr, t', o⟩) : wpJ (model prog w) A t Q ⟨h, g, dr, tk, o⟩ :=
  wpJ_mono (H A hA X h g dr tk o F) fun v s' ⟨h', t', e, gr, r⟩ => e ▸ q h' t' v gr r
end
theorem ev_local {k env} {ρ : Rho} {x pos d} (e : ρ x = some d) (hl : env.kindOf x = some .local := by rfl) (hf : env.scope.kind = .function := by rfl) (hd : (x == ("__debug__" : Str)) = false := by decide) : EvS prog w G Z k env ρ (.Name x pos) d := by
  intro A hA X h g dr tk o F
  obtain ⟨m, n, q⟩ := F.loc
  obtain ⟨v, hv, r⟩ := q x d e hl
  exact wpJ.of <| wpAny_Name (wpAny_loadName_local hf hl n hv ⟨h, tk, rfl, .refl _ _, r⟩) hd
theorem ev_cell {k env} {ρ : Rho} {x pos d} (e : ρ x = some d) (hl : env.kindOf x = some .cell := by rfl) (hf : env.scope.kind = .function := by rfl) (hd : (x == ("__debug__" : Str)) = false := by decide) : EvS prog w G Z k env ρ (.Name x pos) d := by
  intro A hA X h g dr tk o F
  obtain ⟨c, v, hc, i, r⟩ := F.cel x d e (by rw [hl]; intro q; cases q)
  exact wpJ.of <| wpAny_Name (wpAny_loadName_cell hf hl hc i ⟨h, tk, rfl, .refl _ _, r⟩) hd
theorem ev_free {k env} {ρ : Rho} {x pos d} (e : ρ x = some d) (hl : env.kindOf x = some .free := by rfl) (hf : env.scope.kind = .function := by rfl) (hd : (x == ("__debug__" : Str)) = false := by decide) (hn : (x == ("__classdict__" : Str)) = false := by decide) : EvS prog w G Z k env ρ (.Name x pos) d := by
  intro A hA X h g dr tk o F
  obtain ⟨c, v, hc, i, r⟩ := F.cel x d e (by rw [hl]; intro q; cases q)
  exact wpJ.of <| wpAny_Name (wpAny_loadName_free hf hl hc i ⟨h, tk, rfl, .refl _ _, r⟩ hn) hd
/-- a global name, or a built-in one -/
noncomputable def GV (G : Heap → Prop) (x : Str) (v : Value) : Prop := ∀ h, G h → (∃ mg, h.Ns mainGlobals mg ∧ mg x = some v) ∨ ∃ mg mb, h.Ns mainGlobals mg ∧ mg x = none ∧ h.Ns builtinsNs mb ∧ mb x = some v
theorem ev_global {k env} {ρ : Rho} {x pos v} (e : GV G x v) (hl : env.kindOf x = some .globalImplicit := by rfl) (hf : env.scope.kind = .function := by rfl) (hg : env.globals = mainGlobals := by rfl) (hb : env.builtins = builtinsNs := by rfl) (hd : (x == ("__debug__" : Str)) = false := by decide) : EvS prog w G Z k env ρ (.Name x pos) (.val v) := by
  intro A hA X h g dr tk o F
  rcases e h F.g with ⟨mg, n, q⟩ | ⟨mg, mb, n, q, nb, qb⟩
  · exact wpJ.of <| Calls.Name_function_global hf hl (Calls.loadGlobal_global (env := env) (by rw [hg]; exact n) q ⟨h, tk, rfl, .refl _ _, rfl⟩) hd
  · exact wpJ.of <| Calls.Name_function_global hf hl (Calls.loadGlobal_builtin (env := env) (by rw [hg]; exact n) q (by rw [hb]; exact nb) qb ⟨h, tk, rfl, .refl _ _, rfl⟩) hd
theorem ev_int {k env} {ρ : Rho} {i c pos} : EvS prog w G Z k env ρ (.Constant (.int i) c pos) (.int i) := fun A hA X h g dr tk o F => wpJ.of <| wpAny_Constant_int ⟨h, tk + 1, rfl, .refl _ _, _, rfl⟩
end Mine
end
noncomputable section
open PySem PySem.W PyProof.Rows
set_option Elab.async false
set_option linter.unusedVariables false
namespace Mine
variable {prog : Program} {w : World} {G : Heap → Prop} {Z : Addr → Prop}
/-- an operation upon two values -/
noncomputable def Op2 (prog : Program) (w : World) (G : Heap → Prop) (t : Value → Value → Sem Value) (d₁ d₂ d : D) : Prop :=
  ∀ A, Bud 4 A → ∀ X h g dr tk o v₁ v₂, G h → Alive X h → Rep h X d₁ v₁ → Rep h X d₂ v₂ → wpJ (model prog w) A (t v₁ v₂) (Post g dr o no h fun h' v => Rep h' X d v) ⟨h, g, dr, tk, o⟩
noncomputable abbrev BinS (prog : Program) (w : World) (G : Heap → Prop) (op : Operator) (d₁ d₂ d : D) : Prop := Op2 prog w G (binaryOp op) d₁ d₂ d
noncomputable abbrev CmpS (prog : Program) (w : World) (G : Heap → Prop) (op : CmpOp) (d₁ d₂ : D) (b : Bool) : Prop := Op2 prog w G (compareOp op) d₁ d₂ (.bool b)
theorem Op2.use {t : Value → Value → Sem Value} {d₁ d₂ d : D} (H : Op2 prog w G t d₁ d₂ d) {A : Around} (hA : Bud 4 A) {X h g dr tk o v₁ v₂} (hg : G h) (hx : Alive X h) (r₁ : Rep h X d₁ v₁) (r₂ : Rep h X d₂ v₂)
    {Q : Value → Shared → Prop} (q : ∀ h' t' v, Le h h' → Rep h' X d v → Q v ⟨h', g, dr, t', o⟩) : wpJ (model prog w) A (t v₁ v₂) Q ⟨h, g, dr, tk, o⟩ :=
  wpJ_mono (H A hA X h g dr tk o v₁ v₂ hg hx r₁ r₂) fun v s' ⟨h', t', e, gr, r⟩ => e ▸ q h' t' v gr r
section
variable {k : Nat} {env : Env} {ρ : Rho}
theorem ev_bin (W : Glob G Z) {l op r pos d₁ d₂ d} (h₁ : EvS prog w G Z k env ρ l d₁) (h₂ : EvS prog w G Z k env ρ r d₂) (hb : BinS prog w G op d₁ d₂ d) (hk : 4 ≤ k := by omega) : EvS prog w G Z k env ρ (.BinOp l op r pos) d := by
  intro A hA X h g dr tk o F
  refine jBinOp (h₁.use hA F fun h' t' v g₁ r₁ => h₂.use hA (F.le W g₁) fun h'' t'' v' g₂ r₂ => ?_)
  have F' := (F.le W g₁).le W g₂
  exact hb.use (hA.mono hk) F'.g F'.xs (r₁.le g₂) r₂ fun h3 t3 v3 g₃ r₃ => ⟨h3, t3, rfl, (g₁.trans g₂).trans g₃, r₃⟩
theorem ev_cmp (W : Glob G Z) {l op r pos d₁ d₂ b} (h₁ : EvS prog w G Z k env ρ l d₁) (h₂ : EvS prog w G Z k env ρ r d₂) (hb : CmpS prog w G op d₁ d₂ b) (hm : behindInMarks op r = false := by with_unfolding_all rfl) (hk : 4 ≤ k := by omega) : EvS prog w G Z k env ρ (.Compare l [op] [r] pos) (.bool b) := by
  intro A hA X h g dr tk o F
  refine jCompare (h₁.use hA F fun h' t' v g₁ r₁ => h₂.use hA (F.le W g₁) fun h'' t'' v' g₂ r₂ => ?_) hm
  have F' := (F.le W g₁).le W g₂
  exact hb.use (hA.mono hk) F'.g F'.xs (r₁.le g₂) r₂ fun h3 t3 v3 g₃ r₃ => ⟨h3, t3, rfl, (g₁.trans g₂).trans g₃, r₃⟩
theorem test_cmp (W : Glob G Z) {l op r pos d₁ d₂ b} (h₁ : EvS prog w G Z k env ρ l d₁) (h₂ : EvS prog w G Z k env ρ r d₂) (hb : CmpS prog w G op d₁ d₂ b) (hm : behindInMarks op r = false := by with_unfolding_all rfl) (hk : 4 ≤ k := by omega) : TestS prog w G Z k env ρ (.Compare l [op] [r] pos) b := by
  intro A hA X h g dr tk o F
  refine jTestCompare (h₁.use hA F fun h' t' v g₁ r₁ => h₂.use hA (F.le W g₁) fun h'' t'' v' g₂ r₂ => ?_) hm
  have F' := (F.le W g₁).le W g₂
  refine hb.use (hA.mono hk) F'.g F'.xs (r₁.le g₂) r₂ fun h3 t3 v3 g₃ r₃ => ?_
  cases r₃
  exact wpJ.of <| wpAny_truthy_bool ⟨h3, t3, rfl, (g₁.trans g₂).trans g₃, rfl⟩
theorem ev_ifexp (W : Glob G Z) {test body orelse pos b d} (h₁ : TestS prog w G Z k env ρ test b) (h₂ : b = true → EvS prog w G Z k env ρ body d) (h₃ : b = false → EvS prog w G Z k env ρ orelse d) : EvS prog w G Z k env ρ (.IfExp test body orelse pos) d := by
  intro A hA X h g dr tk o F
  refine jIfExp (h₁.use hA F fun h' t' v g₁ r₁ => ?_)
  subst r₁
  cases v with
  | true => rw [if_pos rfl]; exact (h₂ rfl).use hA (F.le W g₁) fun h3 t3 v3 g₃ r₃ => ⟨h3, t3, rfl, g₁.trans g₃, r₃⟩
  | false => rw [if_neg Bool.false_ne_true]; exact (h₃ rfl).use hA (F.le W g₁) fun h3 t3 v3 g₃ r₃ => ⟨h3, t3, rfl, g₁.trans g₃, r₃⟩
theorem ev_neg (W : Glob G Z) {e pos i} (h₁ : EvS prog w G Z k env ρ e (.int i)) : EvS prog w G Z k env ρ (.UnaryOp .USub e pos) (.int (-i)) := by
  intro A hA X h g dr tk o F
  refine jUnary (h₁.use hA F fun h' t' v g₁ r₁ => ?_)
  obtain ⟨t, rfl⟩ := r₁
  exact wpJ.of <| neg_int ⟨h', t' + 1, rfl, g₁, _, rfl⟩
/-- the truth of a bool, an int -/
theorem test_bool (W : Glob G Z) {e : Expr} {b : Bool} (h₁ : EvS prog w G Z k env ρ e (.bool b)) (he : ∀ whole, PySem.isTrue e env whole = (do let v ← whole; standAt e.pos; holding [v] (truthy v)) := by intro _; rfl) : TestS prog w G Z k env ρ e b := by
  intro A hA X h g dr tk o F
  refine jTestPlain (h₁.use hA F fun h' t' v g₁ r₁ => ?_) (he _)
  cases r₁
  exact wpJ.of <| wpAny_truthy_bool ⟨h', t', rfl, g₁, rfl⟩
/-- arguments, items -/
noncomputable abbrev EvsS (prog : Program) (w : World) (G : Heap → Prop) (Z : Addr → Prop) (k : Nat) (env : Env) (ρ : Rho) (es : List Expr) (ds : List D) : Prop := ∀ pos, Tree prog w G Z k env ρ (spliced (backTo pos (starEach es env))) no fun X h vs => Reps h X ds vs
theorem evs_nil : EvsS prog w G Z k env ρ [] [] := fun pos A hA X h g dr tk o F => wpJ.of <| args_nil ⟨h, tk, rfl, .refl _ _, rfl⟩
theorem evs_cons (W : Glob G Z) {e es d ds} (h₁ : EvS prog w G Z k env ρ e d) (h₂ : EvsS prog w G Z k env ρ es ds) (hs : starEach (e :: es) env = (false, eval e env) :: starEach es env := by rfl) : EvsS prog w G Z k env ρ (e :: es) (d :: ds) := by
  intro pos A hA X h g dr tk o F
  rw [hs]
  show wpJ _ _ (spliced ((false, eval e env) :: backTo pos (starEach es env))) _ _
  exact jSpliced_cons (h₁.use hA F fun h' t' v g₁ r₁ => (h₂ pos).use hA (F.le W g₁) fun h3 t3 vs g₃ r₃ => ⟨h3, t3, rfl, g₁.trans g₃, v, vs, rfl, r₁.le g₃, r₃⟩)
theorem rep_tup {X : Addr → Prop} {h : Heap} {ds : List D} {vs : List Value} (hx : Alive X h) (r : Reps h X ds vs) : Rep (h.push { cls := .type "tuple", data := .seq vs.toArray }) X (.tup ds) (.ref h.objs.size) :=
  ⟨_, vs, rfl, hx.new, ⟨_, Heap.get?_push_size _ rfl, rfl, _, rfl⟩, r.le (.push _ _)⟩
theorem rep_lst {X : Addr → Prop} {h : Heap} {ds : List D} {vs : List Value} (hx : Alive X h) (r : Reps h X ds vs) : Rep (h.push { cls := .type "list", data := .seq vs.toArray }) X (.lst ds) (.ref h.objs.size) :=
  ⟨_, vs, rfl, hx.new, ⟨_, Heap.get?_push_size _ rfl, rfl, _, rfl⟩, r.le (.push _ _)⟩
theorem fits_len {ds : List D} {vs : List Value} {X : Addr → Prop} {h : Heap} (r : Reps h X ds vs) (hz : Nat.ble ds.length 16777216 = true) : vs.toArray.size ≤ sizeLine := by
  rw [List.size_toArray, r.length]; exact Nat.le_of_ble_eq_true hz
theorem ev_tuple (W : Glob G Z) {es c pos ds} (h₁ : EvsS prog w G Z k env ρ es ds) (hz : Nat.ble ds.length 16777216 = true := by rfl) : EvS prog w G Z k env ρ (.Tuple es c pos) (.tup ds) := by
  intro A hA X h g dr tk o F
  refine jTuple ((h₁ pos).use hA F fun h' t' vs g₁ r₁ => ?_)
  exact wpJ.of <| wpAny_newObj_type ⟨_, _, rfl, g₁.trans (.push _ _), rep_tup (F.le W g₁).xs r₁⟩ (fits_len r₁ hz)
theorem ev_list (W : Glob G Z) {es pos ds} (h₁ : EvsS prog w G Z k env ρ es ds) (hz : Nat.ble ds.length 16777216 = true := by rfl) : EvS prog w G Z k env ρ (.List es pos) (.lst ds) := by
  intro A hA X h g dr tk o F
  refine jList ((h₁ pos).use hA F fun h' t' vs g₁ r₁ => ?_)
  exact wpJ.of <| wpAny_newObj_type ⟨_, _, rfl, g₁.trans (.push _ _), rep_lst (F.le W g₁).xs r₁⟩ (fits_len r₁ hz)
end
/-- a call -/
noncomputable def CallS (prog : Program) (w : World) (G : Heap → Prop) (k : Nat) (f : Value) (ds : List D) (d : D) : Prop :=
  ∀ A, Bud k A → ∀ X h g dr tk o vs, G h → Alive X h → Reps h X ds vs → wpJ (model prog w) A (call f vs) (Post g dr o no h fun h' v => Rep h' X d v) ⟨h, g, dr, tk, o⟩
theorem CallS.use {k : Nat} {f : Value} {ds : List D} {d : D} (H : CallS prog w G k f ds d) {A : Around} (hA : Bud k A) {X h g dr tk o vs} (hg : G h) (hx : Alive X h) (r : Reps h X ds vs)
    {Q : Value → Shared → Prop} (q : ∀ h' t' v, Le h h' → Rep h' X d v → Q v ⟨h', g, dr, t', o⟩) : wpJ (model prog w) A (call f vs) Q ⟨h, g, dr, tk, o⟩ :=
  wpJ_mono (H A hA X h g dr tk o vs hg hx r) fun v s' ⟨h', t', e, gr, r⟩ => e ▸ q h' t' v gr r
/-- what the interpreter looks at ahead of a call: a function of the text, a built-in one, a type -/
noncomputable def Callee (G : Heap → Prop) (f : Value) : Prop := (∃ id, f = .builtin id) ∨ (∃ T, f = .type T) ∨ ∃ a, f = .ref a ∧ ∀ h, G h → (∃ o, h.get? a = some o ∧ ((∃ fd, o.data = .func fd) ∨ ∃ c, o.data = .cls c ∧ o.cls = .type "type"))
section
variable {k : Nat} {env : Env} {ρ : Rho}
/-- the call of a name -/
theorem ev_call (W : Glob G Z) {x p args pos f ds d} {j : Nat} (h₁ : EvS prog w G Z k env ρ (.Name x p) (.val f)) (hc : Callee G f) (h₂ : EvsS prog w G Z k env ρ args ds) (h₃ : CallS prog w G j f ds d) (hj : j ≤ k := by omega) (hs : (starEach args env).any (·.1) = false := by rfl) (hn : Nat.ble (starEach args env).length 30 = true := by rfl) :
    EvS prog w G Z k env ρ (.Call (.Name x p) args [] pos) d := by
  intro A hA X h g dr tk o F
  refine jCall_Name (h₁.use hA F fun h' t' v g₁ r₁ => ?_)
  cases r₁
  refine jCallWith (back_plain hs) (by unfold backTo; rw [List.length_map]; exact Nat.le_of_ble_eq_true hn) ((h₂ pos).use hA (F.le W g₁) fun h'' t'' vs g₂ r₂ => ⟨?_, h₃.use (hA.mono hj) ((F.le W g₁).le W g₂).g ((F.le W g₁).le W g₂).xs r₂ fun h3 t3 v3 g₃ r₃ => ⟨h3, t3, rfl, (g₁.trans g₂).trans g₃, r₃⟩⟩)
  rcases hc with ⟨id, rfl⟩ | ⟨T, rfl⟩ | ⟨a, rfl, ha⟩
  · exact ⟨.machine, .inr rfl, fun q => wpAny_pure q⟩
  · exact ⟨.machine, .inr rfl, fun q => wpAny_pure q⟩
  · obtain ⟨o', ho, ⟨fd, hd⟩ | ⟨c, hd, hc⟩⟩ := ha h'' ((F.le W g₁).le W g₂).g
    · refine ⟨.frame, .inl rfl, fun q => ?_⟩
      unfold keeperOf
      refine wpAny_bind (wpAny_load ho ?_)
      rw [hd]
      exact wpAny_pure q
    · refine ⟨.machine, .inr rfl, fun q => ?_⟩
      unfold keeperOf
      refine wpAny_bind (wpAny_load ho ?_)
      rw [hd]
      exact wpAny_bind (wpAny_specialOf ⟨_, ho, hc⟩ PySem.F.lookup_type_call (wpAny_pure q))
end
/-! statements -/
section
variable {k : Nat} {env : Env} {ρ ρ' ρ'' : Rho}
theorem exs_nil : ExsS prog w G Z k env ρ [] .next ρ := fun A hA X h g dr tk o F => jExecs_nil ⟨h, tk, rfl, .refl _ _, rfl, F⟩
theorem exs_cons {st rest f} (h₁ : ExS prog w G Z k env ρ st .next ρ') (h₂ : ExsS prog w G Z k env ρ' rest f ρ'') : ExsS prog w G Z k env ρ (st :: rest) f ρ'' := by
  intro A hA X h g dr tk o F
  refine jExecs_cons (h₁.use hA F fun h' t' fl g₁ r₁ => ?_)
  obtain ⟨e, F'⟩ := r₁
  cases e
  exact h₂.use hA F' fun h3 t3 v3 g₃ r₃ => ⟨h3, t3, rfl, g₁.trans g₃, r₃⟩
theorem exs_ret {st rest d} (h₁ : ExS prog w G Z k env ρ st (.ret d) ρ') : ExsS prog w G Z k env ρ (st :: rest) (.ret d) ρ' := by
  intro A hA X h g dr tk o F
  refine jExecs_cons (h₁.use hA F fun h' t' fl g₁ r₁ => ?_)
  obtain ⟨⟨v, e, r⟩, F'⟩ := r₁
  cases e
  exact ⟨h', t', rfl, g₁, ⟨v, rfl, r⟩, F'⟩
theorem ex_return (W : Glob G Z) {e pos d} (h₁ : EvS prog w G Z k env ρ e d) : ExS prog w G Z k env ρ (.Return (some e) pos) (.ret d) ρ := by
  intro A hA X h g dr tk o F
  exact jReturn (h₁.use hA F fun h' t' v g₁ r₁ => ⟨h', t', rfl, .any g₁, ⟨v, rfl, r₁⟩, F.le W g₁⟩)
theorem ex_if (W : Glob G Z) {test body orelse pos b f} (h₁ : TestS prog w G Z k env ρ test b) (h₂ : b = true → ExsS prog w G Z k env ρ body f ρ') (h₃ : b = false → ExsS prog w G Z k env ρ orelse f ρ') : ExS prog w G Z k env ρ (.If test body orelse pos) f ρ' := by
  intro A hA X h g dr tk o F
  refine jIf (h₁.use hA F fun h' t' v g₁ r₁ => ?_)
  subst r₁
  cases v with
  | true => rw [if_pos rfl]; exact (h₂ rfl).use hA (F.le W g₁) fun h3 t3 v3 g₃ r₃ => ⟨h3, t3, rfl, (Grow.any g₁).trans g₃, r₃⟩
  | false => rw [if_neg Bool.false_ne_true]; exact (h₃ rfl).use hA (F.le W g₁) fun h3 t3 v3 g₃ r₃ => ⟨h3, t3, rfl, (Grow.any g₁).trans g₃, r₃⟩
/-- a name is stored -/
theorem store_S (W : Glob G Z) {x v d} (hl : env.kindOf x = some .local ∨ env.kindOf x = some .cell) (hf : env.scope.kind = .function) {A : Around} {X h g dr tk o} (F : Fok G Z X h env ρ) (r : Rep h X d v) {Q : Unit → Shared → Prop}
    (q : ∀ h' t', Grow (Mut env) h h' → Fok G Z X h' env (upd ρ x d) → Q () ⟨h', g, dr, t', o⟩) : wpJ (model prog w) A (storeName env x v) Q ⟨h, g, dr, tk, o⟩ := by
  rcases hl with hl | hl
  · obtain ⟨m, n, hm⟩ := F.loc
    exact wpJ.of <| wpAny_storeName_local hl n (fun h' hn hs => q h' _ (.same hs (.inl rfl)) (F.setLocal W hm hn hs r hl)) (by rw [hf]; rfl)
  · obtain ⟨c, ov, hc, hi, hlow⟩ := F.own x hl
    exact wpJ.of <| wpAny_storeName_cell hf hl hc hi fun h' hi' hs => q h' _ (.same hs (.inr ⟨x, hl, hc⟩)) (F.setCell W hc hi hlow hi' hs r hl)
theorem ex_assign (W : Glob G Z) {x p value pos d} (h₁ : EvS prog w G Z k env ρ value d) (hl : env.kindOf x = some .local ∨ env.kindOf x = some .cell := by first | exact .inl rfl | exact .inr rfl) (hf : env.scope.kind = .function := by rfl)
    (hs : swapsWith value (some (.Name x p)) pos.line env = pure false := by rfl) : ExS prog w G Z k env ρ (.Assign [.Name x p] value pos) .next (upd ρ x d) := by
  intro A hA X h g dr tk o F
  refine jAssign (h₁.use hA F fun h' t' v g₁ r₁ => ?_) hs
  exact store_S W hl hf (F.le W g₁) r₁ fun h3 t3 g₃ F₃ => ⟨h3, t3, rfl, (Grow.any g₁).trans g₃, rfl, F₃⟩
theorem ex_aug (W : Glob G Z) {x p op value pos d₀ d₁ d} (h₀ : ∀ pos, EvS prog w G Z k env ρ (.Name x pos) d₀) (h₁ : EvS prog w G Z k env ρ value d₁) (ho : Op2 prog w G (inplaceOp op) d₀ d₁ d) (hl : env.kindOf x = some .local ∨ env.kindOf x = some .cell := by first | exact .inl rfl | exact .inr rfl) (hf : env.scope.kind = .function := by rfl) (hk : 4 ≤ k := by omega)
    (hd : (x == ("__debug__" : Str)) = false := by decide) : ExS prog w G Z k env ρ (.AugAssign (.Name x p) op value pos) .next (upd ρ x d) := by
  intro A hA X h g dr tk o F
  refine jAug ?_
  have q' : wpJ (model prog w) A (loadName env x) (Post g dr o no h fun h' v => Rep h' X d₀ v) ⟨h, g, dr, tk, o⟩ := by
    intro Γ p' hΓ j
    have q := h₀ p' A hA X h g dr tk o F
    rw [eval_Name env x p' hd] at q
    have q2 := q Γ p' hΓ j
    simp only [Sem.wp_bind', Sem.wp_cmd_standAt] at q2
    exact q2
  refine wpJ_mono q' fun v s' hv => ?_
  obtain ⟨h', t', rfl, g₁, r₁⟩ := hv
  refine h₁.use hA (F.le W g₁) fun h2 t2 v2 g₂ r₂ => ?_
  have F' := (F.le W g₁).le W g₂
  refine ho.use (hA.mono hk) F'.g F'.xs (r₁.le g₂) r₂ fun h3 t3 v3 g₃ r₃ => ?_
  exact store_S W hl hf (F'.le W g₃) r₃ fun h4 t4 g₄ F₄ => ⟨h4, t4, rfl, (Grow.any ((g₁.trans g₂).trans g₃)).trans g₄, rfl, F₄⟩
end
/-! ints -/
section
variable {a b : Int}
theorem bin_add : BinS prog w G .Add (.int a) (.int b) (.int (a + b)) := by
  rintro A hA X h g dr tk o _ _ hg hx ⟨t, rfl⟩ ⟨u, rfl⟩; exact wpJ.of <| add_int ⟨h, tk + 1, rfl, .refl _ _, _, rfl⟩
theorem bin_sub : BinS prog w G .Sub (.int a) (.int b) (.int (a - b)) := by
  rintro A hA X h g dr tk o _ _ hg hx ⟨t, rfl⟩ ⟨u, rfl⟩; exact wpJ.of <| sub_int ⟨h, tk + 1, rfl, .refl _ _, _, rfl⟩
theorem bin_mul (hm : IntMulOk a b) : BinS prog w G .Mult (.int a) (.int b) (.int (a * b)) := by
  rintro A hA X h g dr tk o _ _ hg hx ⟨t, rfl⟩ ⟨u, rfl⟩; exact wpJ.of <| mul_int ⟨h, tk + 1, rfl, .refl _ _, _, rfl⟩ hm
theorem bin_mod (hb : b ≠ 0) : BinS prog w G .Mod (.int a) (.int b) (.int (a.fmod b)) := by
  rintro A hA X h g dr tk o _ _ hg hx ⟨t, rfl⟩ ⟨u, rfl⟩; exact wpJ.of <| mod_int' hb ⟨h, tk + 1, rfl, .refl _ _, _, rfl⟩
theorem bin_div (hb : b ≠ 0) (hl : b.natAbs.log2 < 9000) : BinS prog w G .FloorDiv (.int a) (.int b) (.int (a.fdiv b)) := by
  rintro A hA X h g dr tk o _ _ hg hx ⟨t, rfl⟩ ⟨u, rfl⟩; exact wpJ.of <| floordiv_int hb ⟨h, tk + 1, rfl, .refl _ _, _, rfl⟩ (.inl (PyProof.noPylong_of_log2 hl))
theorem inp_add : Op2 prog w G (inplaceOp .Add) (.int a) (.int b) (.int (a + b)) := by
  rintro A hA X h g dr tk o _ _ hg hx ⟨t, rfl⟩ ⟨u, rfl⟩; exact wpJ.of <| iadd_int ⟨h, tk + 1, rfl, .refl _ _, _, rfl⟩
theorem cmp_lt : CmpS prog w G .Lt (.int a) (.int b) (decide (a < b)) := by
  rintro A hA X h g dr tk o _ _ hg hx ⟨t, rfl⟩ ⟨u, rfl⟩; exact wpJ.of <| lt_int ⟨h, tk, rfl, .refl _ _, rfl⟩
theorem cmp_le : CmpS prog w G .LtE (.int a) (.int b) (decide (a ≤ b)) := by
  rintro A hA X h g dr tk o _ _ hg hx ⟨t, rfl⟩ ⟨u, rfl⟩; exact wpJ.of <| le_int ⟨h, tk, rfl, .refl _ _, rfl⟩
theorem cmp_gt : CmpS prog w G .Gt (.int a) (.int b) (decide (b < a)) := by
  rintro A hA X h g dr tk o _ _ hg hx ⟨t, rfl⟩ ⟨u, rfl⟩; exact wpJ.of <| gt_int ⟨h, tk, rfl, .refl _ _, rfl⟩
theorem cmp_ge : CmpS prog w G .GtE (.int a) (.int b) (decide (b ≤ a)) := by
  rintro A hA X h g dr tk o _ _ hg hx ⟨t, rfl⟩ ⟨u, rfl⟩; exact wpJ.of <| ge_int ⟨h, tk, rfl, .refl _ _, rfl⟩
theorem cmp_eq : CmpS prog w G .Eq (.int a) (.int b) (a == b) := by
  rintro A hA X h g dr tk o _ _ hg hx ⟨t, rfl⟩ ⟨u, rfl⟩; exact wpJ.of <| eq_int ⟨h, tk, rfl, .refl _ _, rfl⟩
end
end Mine
end
noncomputable section
open PySem PySem.W PyProof.Rows
set_option Elab.async false
set_option linter.unusedVariables false
namespace Mine
variable {prog : Program} {w : World} {G : Heap → Prop} {Z : Addr → Prop}
noncomputable def bindR : List Str → List D → Rho → Rho
  | x :: xs, d :: ds, ρ => bindR xs ds (upd ρ x d)
  | _, _, ρ => ρ
theorem cellsFrom_mono (ns : List (Str × NameKind)) : ∀ (n : Nat) (acc : List (Str × Addr)) (x : Str), (acc.lookup x).isSome = true → ((cellsFrom n ns acc).lookup x).isSome = true := by
  induction ns with
  | nil => intro n acc x h; exact h
  | cons p r ih =>
    obtain ⟨y, kd⟩ := p
    intro n acc x h
    unfold cellsFrom
    split
    · apply ih
      rw [List.lookup_cons]
      split
      · rfl
      · exact h
    · exact ih n acc x h
theorem cellsFrom_has (ns : List (Str × NameKind)) : ∀ (n : Nat) (acc : List (Str × Addr)) (x : Str), ns.lookup x = some .cell → ((cellsFrom n ns acc).lookup x).isSome = true := by
  induction ns with
  | nil => intro n acc x h; cases h
  | cons p r ih =>
    obtain ⟨y, kd⟩ := p
    intro n acc x h
    rw [List.lookup_cons] at h
    unfold cellsFrom
    cases hb : x == y with
    | true =>
      rw [hb] at h
      cases h
      rw [if_pos (by decide)]
      exact cellsFrom_mono r _ _ x (by rw [List.lookup_cons, hb]; rfl)
    | false =>
      rw [hb] at h
      split
      · exact ih _ _ x h
      · exact ih _ _ x h
/-- the parameters as they are bound -/
theorem bind_rel {h : Heap} {X : Addr → Prop} {kd : Str → Option NameKind} : ∀ (xs : List Str) (ds : List D) (vs : List Value), Reps h X ds vs → ∀ (m cm : Str → Option Value) (ρ : Rho),
    (∀ x d, ρ x = some d → (kd x = some .local → ∃ v, m x = some v ∧ Rep h X d v) ∧ (kd x ≠ some .local → ∃ v, cm x = some v ∧ Rep h X d v)) →
    ∀ x d, bindR xs ds ρ x = some d → (kd x = some .local → ∃ v, bindL kd (xs.zip vs) m x = some v ∧ Rep h X d v) ∧ (kd x ≠ some .local → ∃ v, bindC kd (xs.zip vs) cm x = some v ∧ Rep h X d v)
  | [], _, _, _, m, cm, ρ, q => by intro x d e; simp only [bindR] at e; simpa [bindL, bindC] using q x d e
  | _ :: _, [], vs, r, m, cm, ρ, q => by
    cases r
    intro x d e; simp only [bindR] at e; simpa [bindL, bindC] using q x d e
  | y :: xs, d₀ :: ds, _, ⟨v₀, vs, rfl, r₀, rs⟩, m, cm, ρ, q => by
    simp only [bindR, List.zip_cons_cons, bindL, bindC]
    apply bind_rel xs ds vs rs
    intro x d e
    unfold upd at e
    by_cases hx : x = y
    · rw [if_pos hx] at e; cases e
      subst hx
      refine ⟨fun k => ?_, fun k => ?_⟩
      · rw [if_pos k]; exact ⟨v₀, if_pos rfl, r₀⟩
      · rw [if_neg k]; exact ⟨v₀, if_pos rfl, r₀⟩
    · rw [if_neg hx] at e
      obtain ⟨q1, q2⟩ := q x d e
      refine ⟨fun k => ?_, fun k => ?_⟩
      · obtain ⟨v, a, b⟩ := q1 k
        split
        · exact ⟨v, by simp [hx, a], b⟩
        · exact ⟨v, a, b⟩
      · obtain ⟨v, a, b⟩ := q2 k
        split
        · exact ⟨v, a, b⟩
        · exact ⟨v, by simp [hx, a], b⟩
theorem bindR_dom : ∀ (xs : List Str) (ds : List D) (ρ : Rho) (x : Str) (d : D), bindR xs ds ρ x = some d → x ∈ xs ∨ ∃ d', ρ x = some d'
  | [], _, ρ, x, d, e => .inr ⟨d, by simpa [bindR] using e⟩
  | _ :: _, [], ρ, x, d, e => .inr ⟨d, by simpa [bindR] using e⟩
  | y :: xs, d₀ :: ds, ρ, x, d, e => by
    simp only [bindR] at e
    rcases bindR_dom xs ds _ x d e with h | ⟨d', h⟩
    · exact .inl (.tail _ h)
    · unfold upd at h
      by_cases hx : x = y
      · exact .inl (hx ▸ .head _)
      · rw [if_neg hx] at h; exact .inr ⟨d', h⟩
/-- a def of the text, no closure, positional arguments: what its body does is what its call does -/
theorem call_fn (W : Glob G Z) {a : Addr} {fd : FuncData} {body : List Stmt} {names : List Str} {ds : List D} {d : D} {ρ' : Rho} {k : Nat}
    (hG : ∀ h, G h → ∃ o, h.get? a = some o ∧ o.data = .func fd ∧ h.CodeRec fd.code fd.qualname)
    (hbody : fd.body = .stmts body) (hclo : fd.closure = [])
    (hbind : ∀ vs : List Value, vs.length = ds.length → bindArgs fd ⟨vs, []⟩ = pure (names.zip vs))
    (hloc : ∀ x ∈ names, fd.scope.names.lookup x = some .local ∨ fd.scope.names.lookup x = some .cell)
    (H : ∀ L, ¬ Z L → ExsS prog w G Z k (callEnvC fd L a) (bindR names ds nil) body (.ret d) ρ')
    (hco : fd.scope.isCoroutine = false := by rfl) (hgen : fd.scope.isGenerator = false := by rfl) (hk : fd.scope.kind = .function := by rfl) : CallS prog w G (k + 1) (.ref a) ds d := by
  intro A hA X h g dr tk o vs hg hx r
  obtain ⟨ob, ho, hd, hcr⟩ := hG h hg
  refine wpJ_call (codeJ_call_cells (binds := names.zip vs) (hA.lt) ho hd (W.lim h hg) hcr hbody (hbind vs r.length) hclo ?_ ?_ hco hgen hk)
  · intro x hm
    have hm1 : x.1 ∈ names := (List.of_mem_zip hm).1
    rcases hloc x.1 hm1 with q | q
    · exact .inl q
    · exact .inr ⟨q, cellsFrom_has _ _ _ _ q⟩
  · intro s₁ x
    generalize hE : callEnvC fd h.objs.size a = env at x
    have henvL : env.locals = h.objs.size := by rw [← hE]; rfl
    have henvS : env.scope = fd.scope := by rw [← hE]; rfl
    have henvC : env.cells = cellsFrom (h.objs.size + 1) fd.scope.names [] := by rw [← hE]; rfl
    obtain ⟨h₁, tk₁, hs₁⟩ := x.toInCall.same
    subst hs₁
    have gr : Le h h₁ := .keeps x.toInCall.keep
    have kk : ∀ y, env.kindOf y = fd.scope.names.lookup y := fun y => by show env.scope.names.lookup y = _; rw [henvS]
    have F : Fok G Z X h₁ env (bindR names ds nil) := by
      have rel := bind_rel (h := h₁) (X := X) (kd := env.kindOf) names ds vs (r.le gr) (fun _ => none) (fun _ => none) nil (fun _ _ e => nomatch e)
      refine ⟨W.grow no h h₁ (fun _ x => x.elim) gr hg, hx.le gr, by rw [henvL]; exact W.fresh h hg _ (Nat.le_refl _), ⟨_, x.toInCall.ns, fun y d' e k' => (rel y d' e).1 k'⟩, fun y d' e k' => ?_, fun y k' => ?_, fun y z c e1 e2 => name_of_addr x.apart (mem_of_lookup e1) (mem_of_lookup e2)⟩
      · obtain ⟨v, e1, r1⟩ := (rel y d' e).2 k'
        have hc : fd.scope.names.lookup y = some .cell := by
          rcases bindR_dom names ds nil y d' e with m | ⟨_, m⟩
          · rcases hloc y m with q | q
            · exact absurd ((kk y).trans q) k'
            · exact q
          · cases m
        have := cellsFrom_has fd.scope.names (h.objs.size + 1) [] y hc
        rw [← henvC] at this
        obtain ⟨c, hc'⟩ := Option.isSome_iff_exists.mp this
        exact ⟨c, v, hc', e1 ▸ x.cell y c hc', r1⟩
      · have hc : fd.scope.names.lookup y = some .cell := (kk y).symm.trans k'
        have := cellsFrom_has fd.scope.names (h.objs.size + 1) [] y hc
        rw [← henvC] at this
        obtain ⟨c, hc'⟩ := Option.isSome_iff_exists.mp this
        refine ⟨c, _, hc', x.cell y c hc', ?_⟩
        have q1 : h.objs.size < c := henvL ▸ x.above y c (mem_of_lookup hc')
        exact W.fresh h hg _ (Nat.le_of_lt q1)
    subst hE
    refine wpJ_mono (H h.objs.size (W.fresh h hg _ (Nat.le_refl _)) (A.deeper _) hA.deeper X h₁ g dr tk₁ o F) fun f s' hf => ?_
    obtain ⟨h', t', rfl, gm, ⟨v, rfl, rv⟩, F'⟩ := hf
    refine ⟨v, rfl, h', t', rfl, ⟨fun b ob' _ e => ?_⟩, rv⟩
    have hlt := Heap.lt_size e
    refine gm.old b ob' (fun mt => ?_) (gr.old b ob' (fun x => x) e)
    rcases mt with q | ⟨y, hk1, hk2⟩
    · rw [q, henvL] at hlt; exact Nat.lt_irrefl _ hlt
    · have q1 : h.objs.size < b := henvL ▸ x.above y b (mem_of_lookup hk2)
      exact Nat.lt_irrefl _ (Nat.lt_trans hlt q1)
end Mine
end
noncomputable section
open PySem PySem.W PyProof.Rows
set_option Elab.async false
set_option linter.unusedVariables false
namespace Mine
variable {prog : Program} {w : World} {G : Heap → Prop} {Z : Addr → Prop}
noncomputable def rangeL (a b c : Int) : List D := (List.range (Builtin.Range.rangeSize a b c).toNat).map fun (i : Nat) => .int (a + (i : Int) * c)
/-- what a loop takes of a datum -/
noncomputable def items : D → List D
  | .lst l => l
  | .bytes b => b.map fun c => .int (c.toNat : Int)
  | .range a b c => rangeL a b c
  | _ => []
theorem items_lst (l : List D) : items (.lst l) = l := rfl
theorem items_bytes (b : List UInt8) : items (.bytes b) = b.map fun c => .int (c.toNat : Int) := rfl
theorem items_range (a b c : Int) : items (.range a b c) = rangeL a b c := rfl
/-- what can be iterated -/
noncomputable def CanIter : D → Prop
  | .lst _ => True
  | .bytes _ => True
  | .range a b c => Builtin.Range.small a b c = true ∧ 0 ≤ Builtin.Range.rangeSize a b c
  | _ => False
theorem walks_range {A : Around} {I : Addr} (hh : A.handled = none) (a c : Int) (n : Nat) :
    Walks prog w A I [I] [I] n (fun i v => i < n ∧ ∃ t, v = .int (a + (i : Int) * c) t) (fun i h => IsRangeIter h I (a + (i : Int) * c) ((n : Int) - (i : Int)) c) := (Walks.range hh I a c n).bound
/-- an iterator has been made: what the loop lives on -/
structure Started (prog : Program) (w : World) (A : Around) (X : Addr → Prop) (h : Heap) (d : D) (fp : List Addr) (P : Nat → Value → Prop) (St : Nat → Heap → Prop) : Prop where
  walks : Walks prog w A h.objs.size fp [h.objs.size] (items d).length P St
  item : ∀ i v, P i v → ∃ e, (items d)[i]? = some e ∧ Rep h X e v
  feet : ∀ b ∈ fp, b = h.objs.size ∨ ((∃ o, h.get? b = some o ∧ ∃ xs n, o.data = .seq xs n) ∧ ¬ X b)
  named : ∀ i H, St i H → ∀ b ∈ fp, ∀ o, H.get? b = some o → o.cls ≠ .none
  bare : ∀ i H, St i H → ∃ o, H.get? h.objs.size = some o ∧ Bare o ∧ (∀ xs n, o.data ≠ .dict xs n) ∧ ∀ v, o.data ≠ .cell v
theorem start_iter {A : Around} (hh : A.handled = none) {X h g dr tk o d v} (hc : CanIter d) (r : Rep h X d v) {Q : Value → Shared → Prop} {E : Value → Shared → Prop}
    (q : ∀ fp P St ob, Started prog w A X h d fp P St → St 0 (h.push ob) → Q (.ref h.objs.size) ⟨h.push ob, g, dr, tk, o⟩) : wpAny (model prog w) A (pyIter v) Q E ⟨h, g, dr, tk, o⟩ := by
  cases d with
  | lst l =>
    obtain ⟨a, vs, rfl, hx, hl, rs⟩ := r
    refine wpAny_pyIter_list (s := ⟨h, g, dr, tk, o⟩) hl ?_
    have hne : a ≠ h.objs.size := Nat.ne_of_lt (let ⟨_, e, _⟩ := hl; Heap.lt_size e)
    refine q [h.objs.size, a] (fun i v => vs.toArray[i]? = some v) (fun i h' => h'.IsListIter h.objs.size a i ∧ h'.IsList a vs.toArray) _ ⟨by rw [show (items (.lst l)).length = vs.toArray.size by simp [items_lst, rs.length]]; exact Walks.list hh h.objs.size a hne vs.toArray, fun i v e => ?_, fun b hb => ?_, fun i H st b hb ob e => ?_, fun i H st => ?_⟩ ⟨⟨_, Heap.get?_push_size _ rfl, rfl, rfl⟩, hl.push _⟩
    · have e' : vs[i]? = some v := by simpa using e
      have hi : i < l.length := by rw [← rs.length]; exact (List.getElem?_eq_some_iff.mp e').1
      obtain ⟨v', e1, r1⟩ := rs.get (i := i) (d := l[i]) (by simp [hi])
      rw [e'] at e1; cases e1
      exact ⟨l[i], by simp [items_lst, hi], r1⟩
    · simp at hb
      rcases hb with rfl | rfl
      · exact .inl rfl
      · obtain ⟨ob, ho, _, n, hd⟩ := hl
        exact .inr ⟨⟨ob, ho, _, n, hd⟩, hx⟩
    · simp at hb
      rcases hb with rfl | rfl
      · obtain ⟨⟨o1, h1, h2, _⟩, _⟩ := st
        rw [h1] at e; cases e; rw [h2]; exact fun q => nomatch q
      · obtain ⟨_, ⟨o1, h1, h2, _⟩⟩ := st
        rw [h1] at e; cases e; rw [h2]; exact fun q => nomatch q
    · obtain ⟨⟨o1, h1, h2, h3⟩, _⟩ := st
      exact ⟨o1, h1, .fields h3 (by rw [h2]; decide), by simp [h3], by simp [h3]⟩
  | bytes b =>
    obtain ⟨t, rfl⟩ := r
    refine KBw.pyIter_bytes (s := ⟨h, g, dr, tk, o⟩) ?_
    refine q [h.objs.size] (fun i v => ∃ c u, b.toArray[i]? = some c ∧ v = .int (c.toNat : Int) u) (fun i h' => KBw.IsBytesIter h' h.objs.size b.toArray t i) _ ⟨by rw [show (items (.bytes b)).length = b.toArray.size by simp [items_bytes]]; exact KBw.walks hh h.objs.size b.toArray t, fun i v e => ?_, fun c hb => ?_, fun i H st c hb ob e => ?_, fun i H st => ?_⟩ ⟨_, Heap.get?_push_size _ rfl, rfl, rfl⟩
    · obtain ⟨c, u, e1, rfl⟩ := e
      exact ⟨.int (c.toNat : Int), by simp at e1; simp [items_bytes, e1], u, rfl⟩
    · simp at hb; exact .inl hb
    · simp at hb; subst hb
      obtain ⟨o1, h1, h2, _⟩ := st
      rw [h1] at e; cases e; rw [h2]; exact fun q => nomatch q
    · obtain ⟨o1, h1, h2, h3⟩ := st
      exact ⟨o1, h1, .fields h3 (by rw [h2]; decide), by simp [h3], by simp [h3]⟩
  | range a b c =>
    obtain ⟨r, t, u, z, rfl, hx, hr⟩ := r
    obtain ⟨hs, hn⟩ := hc
    refine wpAny_pyIter_range (s := ⟨h, g, dr, tk, o⟩) hr hs ?_
    refine q [h.objs.size] (fun i v => i < (Builtin.Range.rangeSize a b c).toNat ∧ ∃ t, v = .int (a + (i : Int) * c) t) (fun i H => IsRangeIter H h.objs.size (a + (i : Int) * c) (((Builtin.Range.rangeSize a b c).toNat : Int) - (i : Int)) c) _ ⟨by rw [show (items (.range a b c)).length = (Builtin.Range.rangeSize a b c).toNat by simp [items_range, rangeL]]; exact walks_range hh a c _, fun i v e => ?_, fun c hb => ?_, fun i H st c hb ob e => ?_, fun i H st => ?_⟩ ?_
    · obtain ⟨hi, t, rfl⟩ := e
      exact ⟨.int (a + (i : Int) * c), by simp [items_range, rangeL, hi], t, rfl⟩
    · simp at hb; exact .inl hb
    · simp at hb; subst hb
      rw [show H.get? h.objs.size = _ from st] at e; cases e; exact fun q => nomatch q
    · exact ⟨_, st, .fields rfl (fun q => by simp at q), by simp, by simp⟩
    · show IsRangeIter _ _ _ _ _
      unfold IsRangeIter
      simp only [Int.toNat_of_nonneg hn, Int.natCast_zero, Int.zero_mul, Int.add_zero, Int.sub_zero]
      exact Heap.get?_push_size _ rfl
  | _ => exact hc.elim
end Mine
end
noncomputable section
open PySem PySem.W PyProof.Rows
set_option Elab.async false
set_option linter.unusedVariables false
namespace Mine
variable {prog : Program} {w : World} {G : Heap → Prop} {Z : Addr → Prop}
/-- a statement that may also turn the objects of O; P says what they hold -/
noncomputable def TrO (prog : Program) (w : World) (G : Heap → Prop) (Z : Addr → Prop) (k : Nat) (env : Env) (O : Addr → Prop) (P : Heap → Prop) (ρ : Rho) (t : Sem Flow) (f : Fl) (ρ' : Rho) (P' : Heap → Prop) : Prop :=
  ∀ A, Bud k A → ∀ X h g dr tk o, (∀ b, O b → X b ∧ ¬ Mut env b) → Fok G Z X h env ρ → P h →
    wpJ (model prog w) A t (Post g dr o (fun b => Mut env b ∨ O b) h fun h' r => f.Is X h' r ∧ Fok G Z X h' env ρ' ∧ P' h') ⟨h, g, dr, tk, o⟩
noncomputable abbrev ExO (prog : Program) (w : World) (G : Heap → Prop) (Z : Addr → Prop) (k : Nat) (env : Env) (O : Addr → Prop) (P : Heap → Prop) (ρ : Rho) (st : Stmt) (f : Fl) (ρ' : Rho) (P' : Heap → Prop) : Prop := TrO prog w G Z k env O P ρ (exec st env) f ρ' P'
noncomputable abbrev ExsO (prog : Program) (w : World) (G : Heap → Prop) (Z : Addr → Prop) (k : Nat) (env : Env) (O : Addr → Prop) (P : Heap → Prop) (ρ : Rho) (st : List Stmt) (f : Fl) (ρ' : Rho) (P' : Heap → Prop) : Prop := TrO prog w G Z k env O P ρ (execs st env) f ρ' P'
noncomputable def Stab (O : Addr → Prop) (P : Heap → Prop) : Prop := ∀ S h h', Grow S h h' → (∀ b, S b → ¬ O b) → P h → P h'
section
variable {k : Nat} {env : Env} {ρ ρ' ρ'' : Rho} {O : Addr → Prop} {P P' P'' : Heap → Prop}
theorem TrO.use {t : Sem Flow} {f : Fl} (H : TrO prog w G Z k env O P ρ t f ρ' P') {A : Around} (hA : Bud k A) {X h g dr tk o} (hO : ∀ b, O b → X b ∧ ¬ Mut env b) (F : Fok G Z X h env ρ) (hP : P h) {Q : Flow → Shared → Prop}
    (q : ∀ h' t' r, Grow (fun b => Mut env b ∨ O b) h h' → f.Is X h' r → Fok G Z X h' env ρ' → P' h' → Q r ⟨h', g, dr, t', o⟩) : wpJ (model prog w) A t Q ⟨h, g, dr, tk, o⟩ :=
  wpJ_mono (H A hA X h g dr tk o hO F hP) fun v s' ⟨h', t', e, gr, r1, r2, r3⟩ => e ▸ q h' t' v gr r1 r2 r3
/-- what touches nothing of O -/
theorem TrO.of {t : Sem Flow} {f : Fl} (hs : Stab O P) (H : Tree prog w G Z k env ρ t (Mut env) fun X h r => f.Is X h r ∧ Fok G Z X h env ρ') : TrO prog w G Z k env O P ρ t f ρ' P := by
  intro A hA X h g dr tk o hO F hP
  exact H.use hA F fun h' t' v gr r => ⟨h', t', rfl, gr.mono fun _ => .inl, r.1, r.2, hs _ _ _ gr (fun b m q => (hO b q).2 m) hP⟩
/-- with nothing to turn -/
theorem TrO.plain {t : Sem Flow} {f : Fl} (H : TrO prog w G Z k env no (fun _ => True) ρ t f ρ' fun _ => True) : Tree prog w G Z k env ρ t (Mut env) fun X h r => f.Is X h r ∧ Fok G Z X h env ρ' := by
  intro A hA X h g dr tk o F
  exact H.use hA (fun _ q => q.elim) F trivial fun h' t' v gr r1 r2 _ => ⟨h', t', rfl, gr.mono fun _ q => q.elim id False.elim, r1, r2⟩
theorem exsO_nil : ExsO prog w G Z k env O P ρ [] .next ρ P := fun A hA X h g dr tk o hO F hP => jExecs_nil ⟨h, tk, rfl, .refl _ _, rfl, F, hP⟩
theorem exsO_cons {st rest f} (h₁ : ExO prog w G Z k env O P ρ st .next ρ' P') (h₂ : ExsO prog w G Z k env O P' ρ' rest f ρ'' P'') : ExsO prog w G Z k env O P ρ (st :: rest) f ρ'' P'' := by
  intro A hA X h g dr tk o hO F hP
  refine jExecs_cons (h₁.use hA hO F hP fun h' t' fl g₁ e F' hP' => ?_)
  cases e
  exact h₂.use hA hO F' hP' fun h3 t3 v3 g₃ r₃ F₃ P₃ => ⟨h3, t3, rfl, g₁.trans g₃, r₃, F₃, P₃⟩
/-- for: what holds after each turn -/
theorem ex_forO (W : Glob G Z) {Ps : Nat → Heap → Prop} {ρs : Nat → Rho} {x : Str} {p : Pos} {iter : Expr} {body : List Stmt} {pos : Pos} {d : D}
    (h₁ : EvS prog w G Z k env (ρs 0) iter d) (hc : CanIter d) (hst : ∀ i, Stab O (Ps i))
    (hb : ∀ i e, (items d)[i]? = some e → ExsO prog w G Z k env O (Ps i) (upd (ρs i) x e) body .next (ρs (i + 1)) (Ps (i + 1)))
    (hl : env.kindOf x = some .local ∨ env.kindOf x = some .cell := by first | exact .inl rfl | exact .inr rfl) (hf : env.scope.kind = .function := by rfl)
    (hs : ∀ v, foldedSetIterable iter env v = pure v := by intro _; rfl) :
    ExO prog w G Z k env O (Ps 0) (ρs 0) (.For (.Name x p) iter body [] pos) .next (ρs (items d).length) (Ps (items d).length) := by
  intro A hA X h g dr tk o hO F hP
  refine jFor (h₁.use hA F fun h1 t1 v g1 r1 => ?_) hs
  have F1 := F.le W g1
  have hP1 : Ps 0 h1 := hst 0 no h h1 g1 (fun _ q => q.elim) hP
  refine wpJ.of <| start_iter hA.handled hc r1 fun fp P' St ob T st => ?_
  have nI : ¬ ∃ o, h1.get? h1.objs.size = some o := fun ⟨_, e⟩ => Nat.lt_irrefl _ (Heap.lt_size e)
  have mI : ¬ Mut env h1.objs.size := fun m => let ⟨o', e, _⟩ := Mut.kind F1 m; nI ⟨o', e⟩
  have xI : ¬ X h1.objs.size := fun q => nI (F1.xs _ q)
  have oI : ¬ O h1.objs.size := fun q => xI (hO _ q).1
  have lowI : ¬ Z h1.objs.size := W.fresh h1 F1.g _ (Nat.le_refl _)
  have ft : ∀ b ∈ fp, ¬ (Mut env b ∨ O b) := fun b hb q => by
    rcases T.feet b hb with rfl | ⟨⟨o', e, xs, n, hd⟩, hx⟩
    · exact q.elim mI oI
    · rcases q with q | q
      · obtain ⟨o2, e2, k2⟩ := Mut.kind F1 q
        rw [e] at e2; cases e2
        rcases k2 with ⟨_, _, k2⟩ | ⟨_, k2⟩ <;> (rw [hd] at k2; cases k2)
      · exact hx (hO b q).1
  refine codeJ_forLoop (fun n s => ∃ i H tk', i ≤ (items d).length ∧ n = (items d).length - i ∧ s = ⟨H, g, dr, tk', o⟩ ∧ St i H ∧ Fok G Z X H env (ρs i) ∧ Ps i H ∧ Grow (fun b => (Mut env b ∨ O b) ∨ b = h1.objs.size) h1 H) ?_ (items d).length
    ⟨0, _, _, Nat.zero_le _, rfl, rfl, st, F1.le W (.push _ _), hst 0 no h1 _ (.push _ _) (fun _ q => q.elim) hP1, .push _ _⟩
  rintro n s ⟨i, H, tk', hi, rfl, rfl, stH, FH, hPH, gH⟩
  have step : ∀ H1, (∀ b o, b ∉ [h1.objs.size] → H.get? b = some o → H1.get? b = some o) → Fok G Z X H1 env (ρs i) ∧ Ps i H1 ∧ Grow (fun b => (Mut env b ∨ O b) ∨ b = h1.objs.size) h1 H1 := fun H1 kp => by
    have gI : Grow (fun b => b = h1.objs.size) H H1 := ⟨fun b o' nb e => kp b o' (by simpa using nb) e⟩
    refine ⟨FH.turn W gI (fun b e => e ▸ lowI) (fun b e q => absurd (e ▸ q) xI) (fun b e => ?_), hst i _ H H1 gI (fun b e q => oI (e ▸ q)) hPH, gH.trans (gI.mono fun b e => .inr e)⟩
    obtain ⟨o', e', b1, b2, b3⟩ := T.bare i H stH
    exact ⟨o', e ▸ e', .inr b1, b2, b3⟩
  by_cases hlt : i < (items d).length
  · refine wpJ.of <| T.walks.item i _ _ _ hlt stH fun v' H1 tk1 hPv stH1 kp => ?_
    obtain ⟨F1', hP1', g1'⟩ := step H1 kp
    obtain ⟨e, he, re⟩ := T.item i v' hPv
    have re' : Rep H1 X e v' := re.grow g1' (fun b q => by
      rcases q with (q | q) | q
      · exact .inr (Mut.noSeq F1 q)
      · exact .inl (hO b q).1
      · exact .inr fun o' e' => absurd ⟨o', q ▸ e'⟩ nI) fun _ _ x => x
    refine jAssignName (store_S W hl hf F1' re' fun H2 t2 g2 F2 => ?_)
    refine (hb i e he).use hA hO F2 (hst i _ H1 H2 g2 (fun b m q => (hO b q).2 m) hP1') fun H3 t3 r g3 er F3 hP3 => ?_
    cases er
    refine ⟨(items d).length - (i + 1), by omega, i + 1, H3, t3, hlt, rfl, rfl, T.walks.frame (i + 1) H1 H3 stH1 fun b hb' o' e' => ?_, F3, hP3, ?_⟩
    · have g23 : Grow (fun b => Mut env b ∨ O b) H1 H3 := (g2.mono fun _ => .inl).trans g3
      exact g23.get (ft b hb') e' (T.named (i + 1) H1 stH1 b hb' o' e')
    · exact g1'.trans (((g2.mono fun _ => .inl).trans g3).mono fun b q => .inl q)
  · have hi' : i = (items d).length := by omega
    refine wpJ.of <| T.walks.done _ _ _ (hi' ▸ stH) fun H1 tk1 kp => ?_
    obtain ⟨F1', hP1', g1'⟩ := step H1 kp
    refine jExecs_nil ⟨H1, tk1, rfl, ?_, rfl, hi' ▸ F1', hi' ▸ hP1'⟩
    refine ⟨fun b o' nb e => ?_⟩
    have e1 := g1.old b o' (fun x => x) e
    exact g1'.old b o' (fun q => q.elim nb fun q => nI ⟨o', q ▸ e1⟩) e1
end
end Mine
end
noncomputable section
open PySem PySem.W PyProof.Rows
set_option Elab.async false
set_option linter.unusedVariables false
namespace Mine
theorem guards_nil : ∀ {l : List (Code × Pos)}, guardsOf l = [] → ∀ c ∈ l, c.1.isGuard = false
  | [], _, _, hc => nomatch hc
  | (c, p) :: l, h, x, hx => by
    rw [guardsOf_cons] at h
    obtain ⟨h1, h2⟩ := List.append_eq_nil_iff.mp h
    rcases List.mem_cons.mp hx with rfl | hx
    · show c.isGuard = false
      cases q : c.isGuard with
      | false => rfl
      | true => simp [Code.guards, q] at h1
    · exact guards_nil h2 x hx
theorem exported_J {M : Model} {A : Around} {a : Addr} {Q : Bool → Shared → Prop} {s : Shared} (hg : A.guards = some []) (hu : A.units < 5000) (h : Q false s) : wpJ M A (Builtin.Bytes.exported (.ref a)) Q s := by
  intro Γ p hΓ j
  replace j := j hu
  have key : ∀ b : Bool, b = false → Q b s := fun b e => e ▸ h
  show Q (List.any ((Γ.code, p) :: Γ.below) _) s
  refine key _ ?_
  rw [List.any_eq_false]
  intro x hx
  have gs := hΓ.2.2.2.1 [] hg
  have hgx : x.1.isGuard = false := guards_nil (l := (Γ.code, p) :: Γ.below) (by rw [guardsOf_cons]; exact gs) x hx
  have hall : holdsIt x.1 = false := by
    rcases List.mem_cons.mp hx with rfl | hx
    · exact j.1
    · exact j.2 x hx
  obtain ⟨c, q⟩ := x
  rw [Bool.not_eq_true]
  have low : ∀ {b c : Bool}, c = false → (b && c) = false := fun e => by rw [e, Bool.and_false]
  split <;> (try rfl) <;> (rename_i heq; injection heq with h1 h2; subst h1) <;> first
    | exact low hall
    | exact absurd hgx (by simp [Code.isGuard, guardIds])
/-- a built-in called where the stack is clean -/
theorem codeJ_builtin {prog : Program} {w : World} {A : Around} {s : Shared} {Q : Flow → Shared → Prop} {id : String} {args : Args} {b : Builtin} (hq : plainId id = true) (hh : holdsIt (.builtin id args) = false) (hb : entryFor table id = some b)
    (h : wpJ (model prog w) A.in1 (b args) (fun fin s' => match fin with | .done f => Q f s' | .again c' => c'.quiet = true ∧ holdsIt c' = false ∧ codeJ (model prog w) A c' Q s') s) : codeJ (model prog w) A (.builtin id args) Q s := by
  refine codeJ_of_tree ?_
  rw [Around.under_plainId hq args]
  show wpJ _ _ (match entryFor table id with | some b => b args | none => unsupported ((withoutEnding? id "#data").getD id)) _ s
  rw [hb]; exact h
theorem codeJ_call_builtin {prog : Program} {w : World} {A : Around} {s : Shared} {Q : Flow → Shared → Prop} {id : String} {args : Args} {b : Builtin} (hq : plainId id = true) (hh : holdsIt (.builtin id args) = false) (hb : entryFor table id = some b)
    (h : wpAny (model prog w) A.in1 (checkBuiltinCall id args) (fun _ s₁ => wpJ (model prog w) A.in1 (b args) (fun fin s' => match fin with | .done f => Q f s' | .again c' => c'.quiet = true ∧ holdsIt c' = false ∧ codeJ (model prog w) A c' Q s') s₁) noE s) : codeJ (model prog w) A (.call (.builtin id) args) Q s := by
  refine codeJ_of_tree ?_
  show wpJ _ A.in1 (do checkBuiltinCall id args; again (.builtin id args)) _ s
  exact wpJ_bind (wpJ.of (wpAny_mono h (fun _ s₁ h₁ => wpJ_pure ⟨plainId_quiet hq args, hh, codeJ_builtin hq hh hb h₁⟩) fun _ _ x => x))
end Mine
end
noncomputable section
open PySem PySem.W PyProof.Rows
set_option Elab.async false
set_option linter.unusedVariables false
set_option maxRecDepth 100000
namespace Mine
theorem ba_mro : mroOf (.type "bytearray") = pure [.type "bytearray", .type "object"] := by rw [mroOf_type]; kernel_rfl
theorem ba_lookup_new : typeLookup (.type "bytearray") "__new__" = pure (some (.builtin "bytearray.__new__")) := by rw [typeLookup_type, builtinLookup_eq_fast]; kernel_rfl
theorem ba_slot_init : Slot "bytearray" "__init__" "bytearray.__init__" :=
  .of (owner := "bytearray") (n := "__init__") (by rw [typeLookup_type, builtinLookup_eq_fast]; kernel_rfl) (by decide +kernel) (by decide +kernel) (by decide +kernel)
    (by first | exact .inl (by decide +kernel) | exact .inr (by decide +kernel)) (by rw [isSubtype_type]; kernel_rfl)
theorem ba_called : TypeCalled "bytearray" "bytearray.__new__" "bytearray.__init__" :=
  ⟨by decide +kernel, by decide +kernel, ⟨_, _, ba_mro⟩, madeBy_type ba_mro ba_lookup_new (by decide +kernel), by decide +kernel, by rw [isSubtype_type]; kernel_rfl, ba_slot_init⟩
theorem ba_typeCall (a : Value) : checkTypeCall "bytearray" ⟨[a], []⟩ = pure () := by kernel_rfl
theorem ba_newCall (a : Value) : checkBuiltinCall "bytearray.__new__" ⟨[.type "bytearray", a], []⟩ = pure () := by kernel_rfl
theorem ba_entry_new : entryFor table "bytearray.__new__" = some Builtin.«list.__new__» := entryFor_alias (id' := "list.__new__") (by kernel_rfl) rfl (by decide +kernel) (by kernel_rfl)
theorem ba_entry_init : entryFor table "bytearray.__init__" = some Builtin.«bytearray.__init__» := by first | exact entryFor_of_fast (by kernel_rfl) | exact entryFor_of_tree (by kernel_rfl)
theorem ba_bind (v : Value) : Builtin.Bytes.bindOptional "bytearray.__init__" "bytearray" ["source", "encoding", "errors"] [v] [] = pure [some v, none, none] := by kernel_rfl
theorem ba_args_init (a b : Value) : argsOk "bytearray.__init__" ⟨[a, b], []⟩ := by unfold argsOk; kernel_rfl
theorem ba_sub : isSubtype (.type "bytearray") (.type "bytearray") = pure true := by rw [isSubtype_type]; kernel_rfl
theorem ba_owner : ("bytearray.__new__".splitOn ".__new__").headD "" = "bytearray" := by simp +decide [String.splitOn, String.splitOnAux]
theorem ba_release : typeLookup (.type "bytearray") "__release_buffer__" = pure (some (.builtin "bytearray.__release_buffer__")) := by rw [typeLookup_type, builtinLookup_eq_fast]; kernel_rfl
theorem jIf_false {α : Type} {M : Model} {A : Around} {s : Shared} {c : Bool} {a b : Sem α} {Q : α → Shared → Prop} (hc : c = false) (h : wpJ M A b Q s) : wpJ M A (if c = true then a else b) Q s := by rw [hc]; exact h
theorem jIf_true {α : Type} {M : Model} {A : Around} {s : Shared} {c : Bool} {a b : Sem α} {Q : α → Shared → Prop} (hc : c = true) (h : wpJ M A a Q s) : wpJ M A (if c = true then a else b) Q s := by rw [hc]; exact h
theorem jEq {α : Type} {M : Model} {A : Around} {s : Shared} {t : Sem α} {a : α} {Q : α → Shared → Prop} (e : t = pure a) (h : Q a s) : wpJ M A t Q s := by rw [e]; exact wpJ_pure h
variable {prog : Program} {w : World}
theorem codeJ_builtin_at {A : Around} {s : Shared} {Q : Flow → Shared → Prop} {id : String} {args : Args} {b : Builtin} (hb : entryFor table id = some b)
    (h : wpJ (model prog w) (A.under (.builtin id args)) (b args) (fun fin s' => match fin with | .done f => Q f s' | .again c' => c'.quiet = true ∧ holdsIt c' = false ∧ codeJ (model prog w) A c' Q s') s) : codeJ (model prog w) A (.builtin id args) Q s := by
  refine codeJ_of_tree ?_
  show wpJ _ _ (match entryFor table id with | some b => b args | none => unsupported ((withoutEnding? id "#data").getD id)) _ s
  rw [hb]; exact h
/-- a type called whose __init__ looks at the stack -/
theorem jType {T newId initId : String} {A : Around} {s : Shared} {args : List Value} {Q : Value → Shared → Prop} (ft : TypeCalled T newId initId) (hct : checkTypeCall T ⟨args, []⟩ = pure ())
    (h : wpJ (model prog w) A.in1 (call (.builtin newId) (.type T :: args)) (fun obj s₁ => s₁.TypeIs obj T ∧ wpJ (model prog w) A.in1 (call (.builtin initId) (obj :: args)) (fun r s₂ => r = .none ∧ Q obj s₂) s₁) s) : wpJ (model prog w) A (call (.type T) args) Q s := by
  refine wpJ_call (codeJ_of_tree ?_)
  show wpJ _ A.in1 (callAny (.type T) ⟨args, []⟩) _ s
  show wpJ _ A.in1 (pure (Fin.again (.builtin "type.__call__" ⟨.type T :: args, []⟩))) _ s
  refine wpJ_pure (And.intro (Code.quiet_builtin _ (by decide +kernel)) (And.intro rfl (codeJ_builtin_at F.entry_type_call ?_)))
  rw [Around.under_plain (weight_type_call_type T args []) (units_type_call_type T args [])]
  obtain ⟨c, tl, hmro⟩ := ft.mro
  unfold Builtin.«type.__call__»
  dsimp only
  refine jIf_false ft.notType ?_
  refine jIf_false ft.canCreate ?_
  refine wpJ_bind (jEq hct ?_)
  refine wpJ_bind (jEq hmro ?_)
  refine jIf_false rfl ?_
  refine wpJ_bind (jEq ft.made ?_)
  dsimp only
  refine wpJ_bind (wpJ_pure ?_)
  refine wpJ_bind (wpJ_holding (wpJ_mono h fun obj s₁ h₁ => ?_))
  obtain ⟨hT, h₂⟩ := h₁
  refine wpJ_bind (wpJ.of (wpAny_isInstance hT ft.sub ?_))
  refine jIf_false rfl ?_
  refine wpJ_bind (wpJ_holding ?_)
  unfold callSpecial?
  refine wpJ_bind (wpJ.of (wpAny_specialOf hT ft.init.lookup ?_))
  dsimp only
  refine wpJ_holding (wpJ_bind (jEq (ft.init.bind obj) (wpJ_bind (wpJ_mono h₂ fun r s₂ h₃ => wpJ_pure ?_))))
  obtain ⟨rfl, hq⟩ := h₃
  exact jIf_false rfl (wpJ_pure ⟨obj, rfl, hq⟩)
theorem codeJ_of_own {A : Around} {s : Shared} {c : Code} {Q : Flow → Shared → Prop}
    (h : ∀ Γ p, Γ.code = c → Γ.In (A.under c) → Ja A Γ → Sem.wp (model prog w) Γ (denote table c) (fun fin _ s' => match fin with | .done f => Q f s' | .again c' => c'.quiet = true ∧ holdsIt c' = false ∧ codeJ (model prog w) A c' Q s') (fun _ _ _ => False) p s) : codeJ (model prog w) A c Q s := fun Γ p hc hΓ j => by
  rw [wpCode_iff_wp, hc]
  refine Sem.wp_mono _ Γ _ (fun fin p' s' h' => ?_) (fun _ _ _ h' => h'.elim) p s (h Γ p hc (hc ▸ hΓ.in) j)
  cases fin with
  | done f => exact h'
  | again c' => exact ⟨h'.1, h'.2.2 (Γ.goto c') p' rfl (hΓ.goto c') (j.goto h'.2.1)⟩
theorem den_builtin {id : String} {args : Args} {b : Builtin} (hb : entryFor table id = some b) : denote table (.builtin id args) = b args := by
  show (match entryFor table id with | some b => b args | none => unsupported ((withoutEnding? id "#data").getD id)) = _
  rw [hb]
theorem ba_new {A : Around} {h : Heap} {g dr tk o} {a : Value} {Q : Value → Shared → Prop} (q : Q (.ref h.objs.size) ⟨h.push { cls := .type "bytearray", data := .bytearray #[] }, g, dr, tk, o⟩) :
    wpJ (model prog w) A (call (.builtin "bytearray.__new__") [.type "bytearray", a]) Q ⟨h, g, dr, tk, o⟩ := by
  refine wpJ_call (codeJ_of_tree ?_)
  show wpJ _ A.in1 (do checkBuiltinCall "bytearray.__new__" ⟨[.type "bytearray", a], []⟩; again (.builtin "bytearray.__new__" ⟨[.type "bytearray", a], []⟩)) _ _
  refine wpJ_bind (jEq (ba_newCall _) (wpJ_pure (And.intro (plainId_quiet ba_called.plain _) (And.intro rfl (codeJ_of_own fun Γ p hc hΓ j => ?_)))))
  rw [den_builtin ba_entry_new]
  unfold Builtin.«list.__new__»
  simp only [Sem.wp_bind', stack, Sem.wp_stack, Sem.wp_pure]
  rw [hc]
  refine Sem.wp_mono _ Γ _ (fun fin p' s' h' => ?_) (fun _ _ _ x => x.elim) p _ ((?z : wpAny (model prog w) (A.under (.builtin "bytearray.__new__" ⟨[.type "bytearray", a], []⟩)) _ (fun fin s' => ∃ v, fin = .done (.ret v) ∧ Q v s') noE _) Γ p hΓ)
  · obtain ⟨v, rfl, hq⟩ := h'
    exact ⟨v, rfl, hq⟩
  · dsimp only
    rw [ba_owner]
    refine wpAny_bind (wpAny_of_eq (a := true) rfl ?_)
    refine bm_if_false rfl ?_
    refine wpAny_bind (wpAny_of_eq ba_sub ?_)
    refine bm_if_false rfl ?_
    refine wpAny_bind (wpAny_pure ?_)
    refine bm_if_true rfl ?_
    exact wpAny_bind (wpAny_newObj_type (wpAny_pure ⟨_, rfl, q⟩) (Nat.zero_le _))
theorem ba_write {M : Model} {A : Around} {s : Shared} {a : Addr} {b : Array UInt8} {f : Array UInt8 → Array UInt8} {Q : Unit → Shared → Prop} (ha : s.heap.get? a = some { cls := .type "bytearray", data := .bytearray b }) (hz : (f b).size ≤ sizeLine)
    (q : ∀ h', Heap.SameBut a s.heap h' → h'.get? a = some { cls := .type "bytearray", data := .bytearray (f b) } → Q () { s with heap := h' }) : wpAny M A (Builtin.Bytes.write (.ref a) f) Q noE s := by
  show wpAny _ _ (updateBytearray a f) _ _ _
  unfold updateBytearray
  refine wpAny_bind (wpAny_load ha ?_)
  show wpAny _ _ (update a (Obj.mapBytearray f) >>= fun _ => lookBehind a) _ _ _
  refine wpAny_bind (wpAny_update ha ?_)
  have h2 : (s.heap.update a (Obj.mapBytearray f)).get? a = some { cls := .type "bytearray", data := .bytearray (f b) } := Heap.get?_update_self (Obj.mapBytearray f) ha rfl
  refine wpAny_lookBehind h2 ?_ (q _ (Heap.SameBut.update ..) h2)
  show (if (f b).size > sizeLine then some "bytearray:memory" else none) = none
  rw [if_neg (Nat.not_lt.mpr hz)]
theorem ba_ownRelease {M : Model} {A : Around} {s : Shared} {a : Value} {Q : Bool → Shared → Prop} (hT : s.TypeIs a "bytearray") (q : Q false s) : wpAny M A (Builtin.Bytes.ownRelease a) Q noE s := by
  unfold Builtin.Bytes.ownRelease Builtin.Bytes.slotIsOwn
  refine wpAny_bind (wpAny_bind (wpAny_specialOf hT ba_release ?_))
  dsimp only
  refine bm_if_false (by decide +kernel) ?_
  rw [show ("bytearray.__release_buffer__".dropRight ("__release_buffer__".length + 1)) = "bytearray" by decide +kernel]
  exact wpAny_isInstance hT ba_sub (wpAny_pure q)
theorem int_index : typeLookup (.type "int") "__index__" = pure (some (.builtin "int.__index__")) := by rw [typeLookup_type, builtinLookup_eq_fast]; kernel_rfl
/-- bytearray(n) -/
theorem call_bytearray {A : Around} (hA : Bud 500 A) {h : Heap} {g dr tk o} {n : Int} {t : Tok} (hn : 0 ≤ n) (hn2 : n < 100000) {Q : Value → Shared → Prop}
    (q : ∀ h' tk', Heap.SameBut h.objs.size (h.push { cls := .type "bytearray", data := .bytearray #[] }) h' → h'.get? h.objs.size = some { cls := .type "bytearray", data := .bytearray (Array.replicate n.toNat 0) } → Q (.ref h.objs.size) ⟨h', g, dr, tk', o⟩) :
    wpJ (model prog w) A (call (.type "bytearray") [.int n t]) Q ⟨h, g, dr, tk, o⟩ := by
  refine jType ba_called (ba_typeCall _) (ba_new ⟨⟨_, Heap.get?_push_size _ rfl, rfl⟩, ?_⟩)
  generalize hH : h.push { cls := .type "bytearray", data := .bytearray #[] } = H at q ⊢
  have hHa : H.get? h.objs.size = some { cls := .type "bytearray", data := .bytearray #[] } := by rw [← hH]; exact Heap.get?_push_size _ rfl
  have hT : (⟨H, g, dr, tk, o⟩ : Shared).TypeIs (.ref h.objs.size) "bytearray" := ⟨_, hHa, rfl⟩
  refine wpJ_call (codeJ_call_builtin ba_slot_init.plain rfl ba_entry_init (ba_slot_init.check _ _ _ _ _ _ _ _ hT ?_ ?_))
  · exact ba_args_init _ _
  unfold Builtin.«bytearray.__init__»
  dsimp only
  refine wpJ_bind (wpJ.of (ba_ownRelease hT ?_))
  refine jIf_false rfl ?_
  refine wpJ_bind (jEq (ba_bind _) ?_)
  dsimp only
  refine wpJ_bind (jEq rfl ?_)
  refine wpJ_bind (jEq rfl ?_)
  refine wpJ_bind ?_
  unfold orM
  refine wpJ_bind (exported_J (show (A.in1.in1).guards = some [] from hA.guards) (show A.units + 1 + 1 < 5000 by have := hA.units; omega) ?_)
  show wpJ _ _ (Builtin.Bytes.exportsOf (.ref h.objs.size) >>= fun n => pure (decide (n > 0))) _ _
  refine wpJ_bind (wpJ.of ?_)
  unfold Builtin.Bytes.exportsOf
  refine wpAny_bind (wpAny_load hHa (wpAny_pure (wpJ_pure ?_)))
  refine jIf_false rfl ?_
  refine wpJ_bind (wpJ.of (ba_write hHa (Nat.zero_le _) fun h1 s1 e1 => ?_))
  refine wpJ_bind (jEq (a := none) rfl ?_)
  dsimp only
  refine wpJ_bind (jEq rfl ?_)
  refine wpJ_bind (wpJ.of (wpAny_specialOf (typeIs_int _ n t) int_index ?_))
  refine jIf_true rfl ?_
  refine wpJ_bind (wpJ_attempt (jEq (rfl : asIndex (.int n t) = pure n) ?_))
  dsimp only
  refine jIf_false (by simp [Builtin.Bytes.fitsIndex]; omega) ?_
  rw [if_neg (by omega)]
  refine jIf_false (by simp; omega) ?_
  refine jIf_false (by simp [Builtin.Bytes.tooLong, sizeLine]; omega) ?_
  refine wpJ_bind (wpJ.of (wpAny_rule ?_))
  by_cases hp : n > 0
  · rw [if_pos hp]
    refine wpJ_bind (wpJ.of (ba_write e1 (by simp [sizeLine]; omega) fun h2 s2 e2 => ?_))
    exact wpJ_pure ⟨_, rfl, rfl, q h2 tk (s1.trans s2) e2⟩
  · rw [if_neg hp]
    have : n = 0 := by omega
    subst this
    exact wpJ_pure ⟨_, rfl, rfl, q h1 tk s1 e1⟩
end Mine
end
noncomputable section
open PySem PySem.W PyProof.Rows
set_option Elab.async false
set_option linter.unusedVariables false
set_option maxRecDepth 100000
namespace Mine
variable {prog : Program} {w : World}
theorem ba_slot_setitem : Slot "bytearray" "__setitem__" "bytearray.__setitem__" :=
  .of (owner := "bytearray") (n := "__setitem__") (by rw [typeLookup_type, builtinLookup_eq_fast]; kernel_rfl) (by decide +kernel) (by decide +kernel) (by decide +kernel)
    (by first | exact .inl (by decide +kernel) | exact .inr (by decide +kernel)) (by rw [isSubtype_type]; kernel_rfl)
theorem ba_entry_setitem : entryFor table "bytearray.__setitem__" = some Builtin.«bytearray.__setitem__» := by first | exact entryFor_of_fast (by kernel_rfl) | exact entryFor_of_tree (by kernel_rfl)
theorem ba_args_setitem (a b c : Value) : argsOk "bytearray.__setitem__" ⟨[a, b, c], []⟩ := by unfold argsOk; kernel_rfl
noncomputable abbrev baObj (b : Array UInt8) : Obj := { cls := .type "bytearray", data := .bytearray b }
theorem ba_setItem {A : Around} {E : Value → Shared → Prop} {s : Shared} {a : Addr} {b : Array UInt8} {k v : Int} {t u : Tok} {Q : Unit → Shared → Prop} (ha : s.heap.get? a = some (baObj b)) (hz : b.size ≤ 100000)
    (h0 : 0 ≤ k) (h1 : k < b.size) (v0 : 0 ≤ v) (v1 : v < 256)
    (q : ∀ h', Heap.SameBut a s.heap h' → h'.get? a = some (baObj (b.setIfInBounds k.toNat v.toNat.toUInt8)) → Q () { s with heap := h' }) : wpAny (model prog w) A (setItem (.ref a) (.int k t) (.int v u)) Q E s := by
  have hT : s.TypeIs (.ref a) "bytearray" := ⟨_, ha, rfl⟩
  unfold setItem
  try with_reducible refine wpAny_holding ?_
  first | refine wpAny_bind (wpAny_pure ?_) | skip
  refine wpAny_bind (wpAny_sequenceKey hT (by decide) ?_)
  refine wpAny_bind (wpAny_callSpecial?_slot (name := Str.ofString "__setitem__") hT ba_slot_setitem
    (wpAny_call_entry ba_slot_setitem hT ba_entry_setitem ?_ (ba_args_setitem _ _ _)))
  unfold Builtin.«bytearray.__setitem__»
  dsimp only
  refine bm_if_false rfl ?_
  unfold Builtin.Bytes.subscript?
  refine wpAny_bind (wpAny_bind (wpAny_specialOf (typeIs_int _ k t) int_index ?_))
  refine bm_if_false rfl ?_
  refine wpAny_bind (wpAny_of_eq (rfl : asIndex (.int k t) = pure k) ?_)
  refine bm_if_false (by simp [Builtin.Bytes.fitsIndex]; omega) ?_
  refine wpAny_pure ?_
  dsimp only
  unfold Builtin.Bytes.byteValue
  refine wpAny_bind (wpAny_bind (wpAny_of_eq (rfl : asIndex (.int v u) = pure v) ?_))
  refine bm_if_false (by simp; omega) ?_
  refine wpAny_pure ?_
  unfold Builtin.Bytes.payload Builtin.Bytes.payload?
  refine wpAny_bind (wpAny_bind (wpAny_bind (wpAny_load ha (wpAny_pure (wpAny_pure ?_)))))
  dsimp only
  have hk : seqIndex? k b.size = some k.toNat := by
    unfold seqIndex?
    first | (simp only [if_neg (show ¬ k < 0 by omega)]; rw [if_pos (by omega)]) | (simp; omega)
  rw [hk]
  dsimp only
  refine wpAny_bind (wpAny_mono (ba_write ha (by simp [sizeLine]; omega) q) (fun _ _ z => ?_) fun _ _ z => z.elim)
  exact wpAny_pure ⟨.none, rfl, wpAny_pure z⟩
theorem ba_no_bytes : typeLookup (.type "bytearray") "__bytes__" = pure none := by rw [typeLookup_type, builtinLookup_eq_fast]; kernel_rfl
theorem ba_no_index : typeLookup (.type "bytearray") "__index__" = pure none := by rw [typeLookup_type, builtinLookup_eq_fast]; kernel_rfl
theorem ba_buffer : typeLookup (.type "bytearray") "__buffer__" = pure (some (.builtin "bytearray.__buffer__")) := by rw [typeLookup_type, builtinLookup_eq_fast]; kernel_rfl
theorem ba_ownBuffer {M : Model} {A : Around} {E : Value → Shared → Prop} {s : Shared} {a : Value} {Q : Bool → Shared → Prop} (hT : s.TypeIs a "bytearray") (q : Q true s) : wpAny M A (Builtin.Bytes.slotIsOwn a "__buffer__") Q E s := by
  unfold Builtin.Bytes.slotIsOwn
  refine wpAny_bind (wpAny_specialOf hT ba_buffer ?_)
  dsimp only
  refine bm_if_false (by decide +kernel) ?_
  rw [show ("bytearray.__buffer__".dropRight ("__buffer__".length + 1)) = "bytearray" by decide +kernel]
  exact wpAny_isInstance hT ba_sub q
/-- bytes(x) of a bytearray -/
theorem call_bytes_ba {A : Around} {E : Value → Shared → Prop} {s : Shared} {a : Addr} {b : Array UInt8} {Q : Value → Shared → Prop} (ha : s.heap.get? a = some (baObj b)) (hz : b.size ≤ 100000)
    (q : ∀ t k, Q (.bytes b t) { s with toks := k }) : wpAny (model prog w) A (call (.type "bytes") [.ref a]) Q E s := by
  have hT : s.TypeIs (.ref a) "bytearray" := ⟨_, ha, rfl⟩
  refine callType_codes (Q₁ := fun obj s₁ => s₁.TypeIs obj "bytes" ∧ Q obj s₁) F.bm_called (F.bm_typeCall _) F.entry_object_init ?_ fun obj s₁ h₁ => ?_
  · refine codeAny_of_tree ?_
    show wpAny _ A.in1.in1 (do checkBuiltinCall "bytes.__new__" ⟨[.type "bytes", .ref a], []⟩; again (.builtin "bytes.__new__" ⟨[.type "bytes", .ref a], []⟩)) _ _ s
    refine wpAny_bind (wpAny_of_eq (F.bm_newCall _) (wpAny_pure ⟨plainId_quiet F.bm_plain _, codeAny_builtin F.bm_entry ?_⟩))
    rw [Around.under_plainId F.bm_plain _]
    unfold Builtin.«bytes.__new__»
    refine wpAny_bind (wpAny_of_eq (a := true) rfl ?_)
    refine bm_if_false rfl ?_
    refine wpAny_bind (wpAny_of_eq F.bm_sub ?_)
    refine bm_if_false rfl ?_
    refine wpAny_bind (wpAny_of_eq (F.bm_bind _) ?_)
    refine wpAny_bind (wpAny_of_eq (a := ()) rfl ?_)
    refine wpAny_bind (wpAny_of_eq (a := ()) rfl ?_)
    refine bm_if_false rfl ?_
    refine wpAny_bind (wpAny_specialOf hT ba_no_bytes ?_)
    refine wpAny_bind (wpAny_bind ?_)
    show wpAny _ _ (load a >>= _) _ _ _
    refine wpAny_bind (wpAny_load ha ?_)
    refine wpAny_pure (wpAny_pure ?_)
    refine bm_if_false rfl ?_
    refine wpAny_bind (wpAny_specialOf hT ba_no_index ?_)
    refine bm_if_true rfl ?_
    first
      | show wpAny _ _ (Builtin.Bytes.buffer? "bytes.__new__" (.ref a) true >>= _) _ _ _
      | (refine wpAny_bind ?_; show wpAny _ _ (Builtin.Bytes.buffer? "bytes.__new__" (.ref a) true >>= _) _ _ _)
    refine wpAny_bind ?_
    unfold Builtin.Bytes.buffer?
    refine wpAny_bind (wpAny_specialOf hT ba_buffer ?_)
    refine wpAny_bind (ba_ownBuffer hT ?_)
    refine bm_if_false rfl ?_
    refine wpAny_bind (wpAny_specialOf hT ba_buffer ?_)
    (try dsimp only)
    refine wpAny_bind (wpAny_mono (ba_ownRelease hT (Q := fun b' s' => b' = false ∧ s' = s) ⟨rfl, rfl⟩) (fun b' s' z => ?_) fun _ _ z => z.elim)
    obtain ⟨rfl, rfl⟩ := z
    refine bm_if_false rfl ?_
    unfold Builtin.Bytes.payload Builtin.Bytes.payload?
    refine wpAny_bind (wpAny_bind (wpAny_bind (wpAny_load ha (wpAny_pure (wpAny_pure (wpAny_pure ?_))))))
    refine wpAny_bind (wpAny_rule ?_)
    refine wpAny_bind (wpAny_mkBytes ?_ (by simp only [sizeLine]; omega))
    show wpAny _ _ (if (Value.type "bytes" == Value.type "bytes") = true then _ else _) _ _ _
    refine bm_if_true (by decide) ?_
    first
      | exact wpAny_pure ⟨PySem.W.typeIs_bytes _ _ _, q _ _⟩
      | exact wpAny_bind (wpAny_pure (wpAny_pure ⟨PySem.W.typeIs_bytes _ _ _, q _ _⟩))
  · exact ⟨h₁.1, F.args_object_init_2 obj _, object_init_meets F.bm_called.init.lookup F.bm_called.made (by decide) prog w A.in1 _ s₁ ⟨h₁.1, rfl, h₁.2⟩⟩
end Mine
end
noncomputable section
open PySem PySem.W PyProof.Rows
set_option Elab.async false
set_option linter.unusedVariables false
set_option maxRecDepth 100000
namespace Mine
variable {prog : Program} {w : World} {G : Heap → Prop} {Z : Addr → Prop}
section
variable {k : Nat} {env : Env} {ρ : Rho}
/-- an item, a cut: what is behind both parts -/
theorem ev_sub (W : Glob G Z) {value slice pos d₁ d₂ d} (h₁ : EvS prog w G Z k env ρ value d₁) (h₂ : EvS prog w G Z k env ρ slice d₂) (hb : Op2 prog w G (subscriptTail value slice) d₁ d₂ d) (hk : 4 ≤ k := by omega) : EvS prog w G Z k env ρ (.Subscript value slice pos) d := by
  intro A hA X h g dr tk o F
  refine jSubscript (h₁.use hA F fun h' t' v g₁ r₁ => h₂.use hA (F.le W g₁) fun h'' t'' v' g₂ r₂ => ?_)
  have F' := (F.le W g₁).le W g₂
  exact hb.use (hA.mono hk) F'.g F'.xs (r₁.le g₂) r₂ fun h3 t3 v3 g₃ r₃ => ⟨h3, t3, rfl, (g₁.trans g₂).trans g₃, r₃⟩
end
/-- how the text's bracket reads an item of such a kind -/
noncomputable def PlainSub (value slice : Expr) : Prop := (∀ o i, subscripted slice false o i = operate [o, i] (getItem o i)) 
theorem sub_bytes {value slice : Expr} {b : List UInt8} {i : Int} {c : UInt8} (h0 : 0 ≤ i) (hc : b[i.toNat]? = some c) (hz : b.length ≤ 100000)
    (hs : ∀ o i, subscripted slice false o i = operate [o, i] (getItem o i) := by intro _ _; rfl) (ht : ∀ b t r, letTemporaryGo value (.bytes b t) r = pure () := by intro _ _ _; rfl) : Op2 prog w G (subscriptTail value slice) (.bytes b) (.int i) (.int (c.toNat : Int)) := by
  rintro A hA X h g dr tk o _ _ hg hx ⟨t, rfl⟩ ⟨u, rfl⟩
  have hi : i.toNat < b.length := (List.getElem?_eq_some_iff.mp hc).1
  refine wpJ.of (KBw.item_K (ks := b.map fun c => (c.toNat : Int)) rfl (by rw [List.length_map]; omega) h0 (by rw [List.length_map]; omega) (fun t' k' _ _ => ?_) (hs _ _) (ht _ _))
  refine ⟨h, k', rfl, .refl _ _, t', ?_⟩
  have : (b.map fun c => (c.toNat : Int)).getD i.toNat 0 = (c.toNat : Int) := by
    rw [List.getD_eq_getElem?_getD, List.getElem?_map, hc]; rfl
  rw [this]
theorem call_len_bytes {b : List UInt8} (hz : b.length ≤ 100000) : CallS prog w G 4 (.builtin "len") [.bytes b] (.int (b.length : Int)) := by
  rintro A hA X h g dr tk o _ hg hx ⟨v, vs, rfl, ⟨t, rfl⟩, rfl⟩
  refine wpJ.of (KBw.len_K (ks := b.map fun c => (c.toNat : Int)) rfl (by rw [List.length_map]; omega) ?_)
  rw [List.length_map]
  exact ⟨h, _, rfl, .refl _ _, _, rfl⟩
theorem call_len_list {l : List D} (hz : l.length ≤ 100000) : CallS prog w G 4 (.builtin "len") [.lst l] (.int (l.length : Int)) := by
  rintro A hA X h g dr tk o _ hg hx ⟨v, vs, rfl, ⟨a, us, rfl, hx', hl, rs⟩, rfl⟩
  refine wpJ.of (len_list hl (by rw [List.size_toArray, rs.length]; omega) ?_)
  rw [List.size_toArray, rs.length]
  exact ⟨h, _, rfl, .refl _ _, _, rfl⟩
theorem call_range1 {n : Int} : CallS prog w G 4 (.type "range") [.int n] (.range 0 n 1) := by
  rintro A hA X h g dr tk o _ hg hx ⟨v, vs, rfl, ⟨t, rfl⟩, rfl⟩
  exact wpJ.of (call_range_1 ⟨_, _, rfl, .push _ _, h.objs.size, _, _, _, rfl, hx.new, Heap.get?_push_size _ rfl⟩)
theorem call_range3 {m n c : Int} (hc : c ≠ 0) (hl : c.natAbs.log2 < 9000) : CallS prog w G 4 (.type "range") [.int m, .int n, .int c] (.range m n c) := by
  rintro A hA X h g dr tk o _ hg hx ⟨v, vs, rfl, ⟨t, rfl⟩, ⟨v', vs', rfl, ⟨t', rfl⟩, ⟨v'', vs'', rfl, ⟨t'', rfl⟩, rfl⟩⟩⟩
  exact wpJ.of (call_range_3 hc ⟨_, _, rfl, .push _ _, h.objs.size, _, _, _, rfl, hx.new, Heap.get?_push_size _ rfl⟩ (.inl (PyProof.noPylong_of_log2 hl)))
theorem can_range1 {n : Int} (h0 : 0 ≤ n) (h1 : n < 100000) : CanIter (.range 0 n 1) := ⟨small_one (by omega) (by omega) (by omega) (by omega), by rw [rangeSize_one]; split <;> omega⟩
/-- less is known -/
noncomputable def Sub (ρ' ρ : Rho) : Prop := ∀ x d, ρ' x = some d → ρ x = some d
theorem Sub.refl (ρ : Rho) : Sub ρ ρ := fun _ _ e => e
theorem Sub.upd {ρ ρ' : Rho} {x : Str} {d : D} (s : Sub ρ' ρ) (h : ρ' x = none) : Sub ρ' (upd ρ x d) := fun y e q => by
  unfold Mine.upd
  by_cases hy : y = x
  · rw [hy, h] at q; cases q
  · rw [if_neg hy]; exact s y e q
theorem Fok.sub {X h env} {ρ ρ' : Rho} (F : Fok G Z X h env ρ) (s : Sub ρ' ρ) : Fok G Z X h env ρ' :=
  ⟨F.g, F.xs, F.low, let ⟨m, n, q⟩ := F.loc; ⟨m, n, fun x d e => q x d (s x d e)⟩, fun x d e => F.cel x d (s x d e), F.own, F.apart⟩
theorem TrO.sub {k env O P P' t f} {ρ ρ' ρ'' : Rho} (H : TrO prog w G Z k env O P ρ t f ρ' P') (s : Sub ρ'' ρ') : TrO prog w G Z k env O P ρ t f ρ'' P' := fun A hA X h g dr tk o hO F hP =>
  H.use hA hO F hP fun h' t' r gr r1 F' P' => ⟨h', t', rfl, gr, r1, F'.sub s, P'⟩
theorem Tree.sub {k env} {ρ ρ' ρ'' : Rho} {t : Sem Flow} {f : Fl} {S} (H : Tree prog w G Z k env ρ t S fun X h r => f.Is X h r ∧ Fok G Z X h env ρ') (s : Sub ρ'' ρ') : Tree prog w G Z k env ρ t S fun X h r => f.Is X h r ∧ Fok G Z X h env ρ'' := fun A hA X h g dr tk o F =>
  H.use hA F fun h' t' r gr r1 => ⟨h', t', rfl, gr, r1.1, r1.2.sub s⟩
end Mine
end
noncomputable section
open PySem PySem.W PyProof.Rows
set_option Elab.async false
set_option linter.unusedVariables false
set_option maxRecDepth 100000
namespace Mine
variable {prog : Program} {w : World} {G : Heap → Prop} {Z : Addr → Prop}
theorem jRelease {M : Model} {A : Around} {s : Shared} {vs keep : List Value} {Q : Unit → Shared → Prop} (h : Q () s) : wpJ M A (release vs keep) Q s := fun Γ p _ _ => by rw [Sem.wp_release]; exact h
theorem jAssignSub {M : Model} {A : Around} {s : Shared} {env : Env} {o i pos' value pos} {Q : Flow → Shared → Prop}
    (h : wpJ M A (eval value env) (fun v s₁ => wpJ M A (eval o env) (fun ov s₂ => wpJ M A (eval i env) (fun iv s₃ => wpJ M A (setItem ov iv v) (fun _ => Q .next) s₃) s₂) s₁) s)
    (hs : swapsWith value (some (.Subscript o i pos')) pos.line env = pure false) : wpJ M A (exec (.Assign [.Subscript o i pos'] value pos) env) Q s := by
  rw [exec_Assign_Subscript o i pos' value pos hs]
  refine wpJ_at (wpJ_bind (wpJ_mono h fun v s₁ h₁ => ?_))
  rw [assign_Subscript]
  exact wpJ_bind (wpJ_bind (wpJ_holding (wpJ_mono h₁ fun ov s₂ h₂ => wpJ_bind (wpJ_holding (wpJ_mono h₂ fun iv s₃ h₃ => wpJ_at (wpJ_bind (wpJ_holding (wpJ_mono h₃ fun _ s₄ h₄ => jRelease (wpJ_pure h₄)))))))))
section
variable {k : Nat} {env : Env} {ρ ρ' : Rho}
/-- a byte is laid into the frame's own bytearray -/
theorem ex_set_ba (W : Glob G Z) {o i pos' value pos} {a : Addr} {b : Array UInt8} {n v : Int} (h₀ : EvS prog w G Z k env ρ value (.int v)) (h₁ : EvS prog w G Z k env ρ o (.val (.ref a))) (h₂ : EvS prog w G Z k env ρ i (.int n))
    (hz : b.size ≤ 100000) (n0 : 0 ≤ n) (n1 : n < b.size) (v0 : 0 ≤ v) (v1 : v < 256) (hlow : ¬ Z a) (hs : swapsWith value (some (.Subscript o i pos')) pos.line env = pure false := by rfl) :
    ExO prog w G Z k env (fun c => c = a) (fun h => h.get? a = some (baObj b)) ρ (.Assign [.Subscript o i pos'] value pos) .next ρ (fun h => h.get? a = some (baObj (b.setIfInBounds n.toNat v.toNat.toUInt8))) := by
  intro A hA X h g dr tk oo hO F hP
  refine jAssignSub (h₀.use hA F fun h1 t1 v1' g1 r1 => h₁.use hA (F.le W g1) fun h2 t2 v2 g2 r2 => h₂.use hA ((F.le W g1).le W g2) fun h3 t3 v3 g3 r3 => ?_) hs
  obtain ⟨tv, rfl⟩ := r1
  cases r2
  obtain ⟨tn, rfl⟩ := r3
  have g13 := (g1.trans g2).trans g3
  have ha : h3.get? a = some (baObj b) := g13.get (fun x => x) hP (fun q => nomatch q)
  refine wpJ.of (ba_setItem ha hz n0 n1 v0 v1 fun h4 s4 e4 => ?_)
  have F3 := F.le W g13
  have g4 : Grow (fun c => c = a) h3 h4 := .same s4 rfl
  refine ⟨h4, t3, rfl, (Grow.any g13).trans (g4.mono fun _ => .inr), rfl, F3.turn W g4 (fun c e => e ▸ hlow) (fun c e _ => ⟨_, e ▸ e4⟩) (fun c e => ⟨_, e ▸ ha, .inl (hO c e).1, (fun _ _ q => by cases q), (fun _ q => by cases q)⟩), e4⟩
/-- x = bytearray(n), and what is done with it -/
theorem exs_own_ba (W : Glob G Z) {x p q p' e pos pos' rest} {n : Int} {d : D} (hg : EvS prog w G Z k env ρ (.Name q p') (.val (.type "bytearray"))) (h₁ : EvS prog w G Z k env ρ e (.int n)) (n0 : 0 ≤ n) (n1 : n < 100000)
    (H : ∀ a, ¬ Z a → ExsO prog w G Z k env (fun c => c = a) (fun h => h.get? a = some (baObj (Array.replicate n.toNat 0))) (upd ρ x (.val (.ref a))) rest (.ret d) ρ' (fun _ => True))
    (hk : 500 ≤ k := by omega) (hl : env.kindOf x = some .local ∨ env.kindOf x = some .cell := by first | exact .inl rfl | exact .inr rfl) (hf : env.scope.kind = .function := by rfl)
    (hse : starEach [e] env = [(false, eval e env)] := by rfl)
    (hs : swapsWith (.Call (.Name q p') [e] [] pos') (some (.Name x p)) pos.line env = pure false := by rfl) : ExsS prog w G Z k env ρ (.Assign [.Name x p] (.Call (.Name q p') [e] [] pos') pos :: rest) (.ret d) ρ' := by
  intro A hA X h g dr tk o F
  refine jExecs_cons (jAssign (jCall_Name (hg.use hA F fun h0 t0 v0 g0 r0 => ?_)) hs)
  cases r0
  rw [hse]
  refine jCallWith rfl (Nat.le_of_ble_eq_true rfl) (jSpliced_cons (h₁.use hA (F.le W g0) fun h1 t1 v g1 r1 => jSpliced_nil ⟨⟨.machine, .inr rfl, fun q => wpAny_pure q⟩, ?_⟩))
  obtain ⟨t, rfl⟩ := r1
  have F1 := (F.le W g0).le W g1
  refine call_bytearray (hA.mono (by omega)) n0 n1 fun h2 t2 s2 e2 => ?_
  have g2 : Le h1 h2 := ⟨fun b ob _ eb => (s2.2 b (Nat.ne_of_lt (Heap.lt_size eb))).trans (Heap.get?_push_of_some _ eb)⟩
  have F2 : Fok G Z (fun b => X b ∨ b = h1.objs.size) h2 env ρ := F1.more W g2 (fun b hb q => q.elim id fun q => absurd hb (by rw [q]; exact Nat.lt_irrefl _)) (fun b q => q.elim (fun q => (F1.xs.le g2) b q) fun q => ⟨_, q ▸ e2⟩)
  have low : ¬ Z h1.objs.size := W.fresh h1 F1.g _ (Nat.le_refl _)
  have nal : ¬ ∃ o, h1.get? h1.objs.size = some o := fun ⟨_, e⟩ => Nat.lt_irrefl _ (Heap.lt_size e)
  have nM : ¬ Mut env h1.objs.size := fun m => let ⟨o', e, _⟩ := Mut.kind F1 m; nal ⟨o', e⟩
  refine store_S W hl hf F2 (d := .val (.ref h1.objs.size)) rfl fun h3 t3 g3 F3 => ?_
  have e3 : h3.get? h1.objs.size = some (baObj (Array.replicate n.toNat 0)) := g3.get nM e2 (fun q => nomatch q)
  refine (H _ low).use hA (fun b q => ⟨.inr q, q ▸ nM⟩) F3 e3 fun h4 t4 r g4 fr F4 _ => ?_
  obtain ⟨v, rfl, rv⟩ := fr
  refine ⟨h4, t4, rfl, ⟨fun b ob nb eb => ?_⟩, ⟨v, rfl, rv.grow (.refl no _) (fun _ q => q.elim) fun _ _ q => .inl q⟩, F4.more W (.refl _ _) (fun _ _ q => .inl q) fun b q => F4.xs b (.inl q)⟩
  have g01 := g0.trans g1
  have g34 : Grow (fun b => Mut env b ∨ b = h1.objs.size) h2 h4 := (g3.mono fun _ => .inl).trans g4
  have g14 : Grow (fun b => Mut env b ∨ b = h1.objs.size) h1 h4 := (Grow.any g2).trans g34
  have g04 : Grow (fun b => Mut env b ∨ b = h1.objs.size) h h4 := (Grow.any g01).trans g14
  refine g04.old b ob (fun q => q.elim nb fun q => ?_) eb
  have := g01.alive (fun x => x) ⟨ob, eb⟩
  exact nal (q ▸ this)
/-- return bytes(x) of the frame's own bytearray -/
theorem exs_ret_ba (W : Glob G Z) {q p' e pos pos'} {a : Addr} {b : Array UInt8} (hg : EvS prog w G Z k env ρ (.Name q p') (.val (.type "bytes"))) (h₁ : EvS prog w G Z k env ρ e (.val (.ref a))) (hz : b.size ≤ 100000) (hse : starEach [e] env = [(false, eval e env)] := by rfl) :
    ExsO prog w G Z k env (fun c => c = a) (fun h => h.get? a = some (baObj b)) ρ [.Return (some (.Call (.Name q p') [e] [] pos')) pos] (.ret (.bytes b.toList)) ρ (fun _ => True) := by
  intro A hA X h g dr tk o hO F hP
  refine jExecs_cons (jReturn (jCall_Name (hg.use hA F fun h0 t0 v0 g0 r0 => ?_)))
  cases r0
  rw [hse]
  refine jCallWith rfl (Nat.le_of_ble_eq_true rfl) (jSpliced_cons (h₁.use hA (F.le W g0) fun h1 t1 v g1 r1 => jSpliced_nil ⟨⟨.machine, .inr rfl, fun q => wpAny_pure q⟩, ?_⟩))
  cases r1
  have g01 := g0.trans g1
  refine wpJ.of (call_bytes_ba (g01.get (fun x => x) hP (fun q => nomatch q)) hz fun t' k' => ?_)
  exact ⟨h1, k', rfl, .any g01, ⟨_, rfl, t', by rw [Array.toArray_toList]⟩, F.le W g01, trivial⟩
theorem ex_forN (W : Glob G Z) {O : Addr → Prop} {Ps : Nat → Heap → Prop} {ρs : Nat → Rho} {x : Str} {p : Pos} {iter : Expr} {body : List Stmt} {pos : Pos} {d : D} {N : Nat} (hN : (items d).length = N)
    (h₁ : EvS prog w G Z k env (ρs 0) iter d) (hc : CanIter d) (hst : ∀ i, Stab O (Ps i))
    (hb : ∀ i e, (items d)[i]? = some e → ExsO prog w G Z k env O (Ps i) (upd (ρs i) x e) body .next (ρs (i + 1)) (Ps (i + 1)))
    (hl : env.kindOf x = some .local ∨ env.kindOf x = some .cell := by first | exact .inl rfl | exact .inr rfl) (hf : env.scope.kind = .function := by rfl)
    (hs : ∀ v, foldedSetIterable iter env v = pure v := by intro _; rfl) :
    ExO prog w G Z k env O (Ps 0) (ρs 0) (.For (.Name x p) iter body [] pos) .next (ρs N) (Ps N) := hN ▸ ex_forO W h₁ hc hst hb hl hf hs
theorem ex_set_ba' (W : Glob G Z) {o i pos' value pos} {a : Addr} {b : Array UInt8} {n v : Int} {n' : Nat} {v' : UInt8} (en : n = (n' : Int)) (ev : v = (v'.toNat : Int)) (h₀ : EvS prog w G Z k env ρ value (.int v)) (h₁ : EvS prog w G Z k env ρ o (.val (.ref a))) (h₂ : EvS prog w G Z k env ρ i (.int n))
    (hz : b.size ≤ 100000) (n1 : n' < b.size) (hlow : ¬ Z a) (hs : swapsWith value (some (.Subscript o i pos')) pos.line env = pure false := by rfl) :
    ExO prog w G Z k env (fun c => c = a) (fun h => h.get? a = some (baObj b)) ρ (.Assign [.Subscript o i pos'] value pos) .next ρ (fun h => h.get? a = some (baObj (b.setIfInBounds n' v'))) := by
  subst en ev
  have := ex_set_ba (b := b) W h₀ h₁ h₂ hz (by omega) (by omega) (by omega) (by have := v'.toNat_lt; omega) hlow hs
  simpa using this
end
end Mine
end
noncomputable section
open PySem PySem.W PyProof.Rows
set_option Elab.async false
set_option linter.unusedVariables false
set_option maxRecDepth 100000
namespace Mine
variable {prog : Program} {w : World} {G : Heap → Prop} {Z : Addr → Prop}
/-- a cut -/
noncomputable def cutL {α : Type} (l : List α) (lo hi : Option Int) : List α := (l.drop (lo.elim 0 (clipAt l.length))).take (hi.elim l.length (clipAt l.length) - lo.elim 0 (clipAt l.length))
theorem jSlice {M : Model} {A : Around} {s : Shared} {env : Env} {l u st p} {Q : Value → Shared → Prop}
    (h : wpJ M A (valueOrNone (evalOpt l env)) (fun vl s₁ => wpJ M A (valueOrNone (evalOpt u env)) (fun vu s₂ => wpJ M A (valueOrNone (evalOpt st env)) (fun vs s₃ => wpJ M A (newFields "slice" [vl, vu, vs]) Q s₃) s₂) s₁) s) : wpJ M A (eval (.Slice l u st p) env) Q s := by
  show wpJ M A (do
    let l ← valueOrNone (evalOpt l env)
    let u ← holding [l] (valueOrNone (evalOpt u env))
    let s ← holding [l, u] (valueOrNone (evalOpt st env))
    newFields "slice" [l, u, s]) Q s
  exact wpJ_bind (wpJ_mono h fun vl s₁ h₁ => wpJ_bind (wpJ_holding (wpJ_mono h₁ fun vu s₂ h₂ => wpJ_bind (wpJ_holding h₂))))
section
variable {k : Nat} {env : Env} {ρ : Rho}
noncomputable abbrev PartS (prog : Program) (w : World) (G : Heap → Prop) (Z : Addr → Prop) (k : Nat) (env : Env) (ρ : Rho) (e : Option Expr) (i : Option Int) : Prop := Tree prog w G Z k env ρ (valueOrNone (evalOpt e env)) no fun _ _ v => IsPart v i
theorem part_none : PartS prog w G Z k env ρ none none := fun A hA X h g dr tk o F => wpJ_pure ⟨h, tk, rfl, .refl _ _, .none⟩
theorem part_some {e i} (h₁ : EvS prog w G Z k env ρ e (.int i)) : PartS prog w G Z k env ρ (some e) (some i) := fun A hA X h g dr tk o F =>
  h₁.use hA F fun h' t' v g₁ r₁ => by obtain ⟨t, rfl⟩ := r₁; exact ⟨h', t', rfl, g₁, .int i t⟩
theorem ev_cut_list (W : Glob G Z) {value lo hi p pos l i j} (h₁ : EvS prog w G Z k env ρ value (.lst l)) (h₂ : PartS prog w G Z k env ρ lo i) (h₃ : PartS prog w G Z k env ρ hi j) (hz : l.length ≤ 100000) : EvS prog w G Z k env ρ (.Subscript value (.Slice lo hi none p) pos) (.lst (cutL l i j)) := by
  intro A hA X h g dr tk o F
  refine jSubscript (h₁.use hA F fun h1 t1 v g1 r1 => jSlice (h₂.use hA (F.le W g1) fun h2 t2 vl g2 pl => h₃.use hA ((F.le W g1).le W g2) fun h3 t3 vu g3 pu => ?_))
  obtain ⟨a, vs, rfl, hx, hl, rs⟩ := r1.le (g2.trans g3)
  have F3 := ((F.le W g1).le W g2).le W g3
  refine wpJ_pure (wpJ.of (wpAny_newObj_type ?_ (by size_fits)))
  refine wpJ.of (tail_any (Heap.IsList.typeIs (s := ⟨h3.push _, g, dr, t3, o⟩) (hl.push _)) list_getitem_lookup (wpAny_getItem_list_slice (hl.push _) (Heap.IsSliceOf.new ..) pl pu .none (by simp) ?_ (by rw [List.size_toArray, rs.length]; simp only [sizeLine]; omega)) rfl)
  refine ⟨_, _, rfl, ((g1.trans g2).trans g3).trans ((Grow.push _ _).trans (.push _ _)), ?_⟩
  rw [slicePick_plain]
  have hn : vs.toArray.size = l.length := by rw [List.size_toArray, rs.length]
  rw [hn]
  exact rep_lst (F3.le W (.push _ _)).xs ((rs.le (.push _ _)).drop _ |>.take _)
theorem ev_cut_bytes (W : Glob G Z) {value lo hi p pos b i j} (h₁ : EvS prog w G Z k env ρ value (.bytes b)) (h₂ : PartS prog w G Z k env ρ lo i) (h₃ : PartS prog w G Z k env ρ hi j) (hz : b.length ≤ 100000) : EvS prog w G Z k env ρ (.Subscript value (.Slice lo hi none p) pos) (.bytes (cutL b i j)) := by
  intro A hA X h g dr tk o F
  refine jSubscript (h₁.use hA F fun h1 t1 v g1 r1 => jSlice (h₂.use hA (F.le W g1) fun h2 t2 vl g2 pl => h₃.use hA ((F.le W g1).le W g2) fun h3 t3 vu g3 pu => ?_))
  obtain ⟨tb, rfl⟩ := r1
  refine wpJ_pure (wpJ.of (wpAny_newObj_type ?_ (by size_fits)))
  refine wpJ.of (tail_any (typeIs_bytes _ _ _) FB.slot_bytes_getitem.lookup (getItem_meets (typeIs_bytes _ _ _) (by decide) FB.slot_bytes_getitem FB.entry_bytes_getitem (FB.args_bytes_getitem_2 _ _) (KBc.meets_slice2 b.toArray tb _ pl pu)
    ⟨Heap.IsSliceOf.new _ _ _ _, Nat.le_trans (KBc.size_picked_le b.toArray i j) (by rw [List.size_toArray, sizeLine_eq]; omega), fun t' k' => ?_⟩) rfl)
  refine ⟨_, _, rfl, ((g1.trans g2).trans g3).trans (.push _ _), t', ?_⟩
  rw [KBc.picked_eq]
  simp [cutL]
end
theorem bin_bytes {b c : List UInt8} (hz : b.length + c.length ≤ 100000) : BinS prog w G .Add (.bytes b) (.bytes c) (.bytes (b ++ c)) := by
  rintro A hA X h g dr tk o _ _ hg hx ⟨t, rfl⟩ ⟨u, rfl⟩
  exact wpJ.of (KBy.add_bytes (by simp; omega) fun t' k' => ⟨h, k', rfl, .refl _ _, t', by simp⟩)
end Mine
end
noncomputable section
open PySem PySem.W PyProof.Rows
set_option Elab.async false
set_option linter.unusedVariables false
set_option maxRecDepth 100000
namespace Mine
variable {prog : Program} {w : World} {G : Heap → Prop} {Z : Addr → Prop}
theorem bin_list {l m : List D} (hz : l.length + m.length ≤ 100000) : BinS prog w G .Add (.lst l) (.lst m) (.lst (l ++ m)) := by
  rintro A hA X h g dr tk o _ _ hg hx ⟨a, vs, rfl, hxa, hl, rs⟩ ⟨b, ws, rfl, hxb, hm, rt⟩
  obtain ⟨⟨cls, dd, data, sl⟩, ho, hc, n, hd⟩ := id hl
  obtain ⟨⟨cls2, dd2, data2, sl2⟩, ho2, hc2, n2, hd2⟩ := id hm
  simp only at hc hd hc2 hd2
  subst hc hd hc2 hd2
  have e : vs.toArray ++ ws.toArray = (vs ++ ws).toArray := by simp
  refine wpJ.of (concat_meets ⟨_, ho, rfl⟩ ⟨_, ho2, rfl⟩ noFill_list_add seq_list_add PySem.F.slot_list_add PySem.F.entry_list_add (PySem.F.args_list_add_2 _ _) (list_addW a b vs.toArray ws.toArray n n2 dd dd2 sl sl2 (by simp only [List.size_toArray, rs.length, rt.length, sizeLine]; omega)) ⟨ho, ho2, ?_⟩)
  rw [e]
  exact ⟨_, _, rfl, .push _ _, rep_lst hx (rs.append rt)⟩
theorem sub_list {value slice : Expr} {l : List D} {i : Int} {d : D} (h0 : 0 ≤ i) (hd : l[i.toNat]? = some d) (hz : l.length ≤ 100000)
    (hs : ∀ o i, subscripted slice false o i = operate [o, i] (getItem o i) := by intro _ _; rfl) : Op2 prog w G (subscriptTail value slice) (.lst l) (.int i) d := by
  rintro A hA X h g dr tk o _ _ hg hx ⟨a, vs, rfl, hxa, hl, rs⟩ ⟨u, rfl⟩
  have hi : i.toNat < l.length := (List.getElem?_eq_some_iff.mp hd).1
  obtain ⟨v, hv, r⟩ := rs.get hd
  exact wpJ.of (tail_any (Heap.IsList.typeIs (s := ⟨h, g, dr, tk, o⟩) hl) list_getitem_lookup (wpAny_getItem_list hl h0 (by omega) (by simpa using hv) ⟨h, tk, rfl, .refl _ _, r⟩) (hs _ _))
theorem sub_list_neg {value slice : Expr} {l : List D} {i : Int} {d : D} (h0 : i < 0) (h1 : -(l.length : Int) ≤ i) (hd : l[(i + l.length).toNat]? = some d) (hz : l.length ≤ 100000)
    (hs : ∀ o i, subscripted slice false o i = operate [o, i] (getItem o i) := by intro _ _; rfl) : Op2 prog w G (subscriptTail value slice) (.lst l) (.int i) d := by
  rintro A hA X h g dr tk o _ _ hg hx ⟨a, vs, rfl, hxa, hl, rs⟩ ⟨u, rfl⟩
  obtain ⟨v, hv, r⟩ := rs.get hd
  have e : vs.toArray.size = l.length := by rw [List.size_toArray, rs.length]
  exact wpJ.of (tail_any (Heap.IsList.typeIs (s := ⟨h, g, dr, tk, o⟩) hl) list_getitem_lookup (wpAny_getItem_list_neg hl h0 (by rw [e]; exact h1) (by omega) (by rw [e]; simpa using hv) ⟨h, tk, rfl, .refl _ _, r⟩) (hs _ _))
theorem cmp_ne_bytes {b c : List UInt8} : CmpS prog w G .NotEq (.bytes b) (.bytes c) (b != c) := by
  rintro A hA X h g dr tk o _ _ hg hx ⟨t, rfl⟩ ⟨u, rfl⟩
  exact wpJ.of (ne_bytes ⟨h, tk, rfl, .refl _ _, by show (Value.bool _ : Value) = Value.bool _; simp⟩)
theorem call_bytes_list {ns : List Int} (hr : ∀ n ∈ ns, 0 ≤ n ∧ n < 256) (hz : ns.length ≤ 100000) : CallS prog w G 4 (.type "bytes") [.lst (ns.map D.int)] (.bytes (ns.map fun n => n.toNat.toUInt8)) := by
  rintro A hA X h g dr tk o _ hg hx ⟨v, vs, rfl, ⟨a, us, rfl, hx', hl, rs⟩, rfl⟩
  have hn : us.length = ns.length := by rw [rs.length, List.length_map]
  exact wpJ.of (call_bytes_ints hl rs.ints hr (by simp only [hn, sizeLine]; omega) hA.handled fun h' t k' hk => ⟨h', k', rfl, .keeps hk, t, rfl⟩)
section
variable {k : Nat} {env : Env} {ρ : Rho}
/-- stores, one behind another -/
inductive Tgt (env : Env) : List (Value → Sem Unit) → List Str → Prop
  | nil : Tgt env [] []
  | bind {x ts xs} : Tgt env ts xs → Tgt env ((fun v => bindName env x v) :: ts) (x :: xs)
  | name {x pos ts xs} : Tgt env ts xs → Tgt env (assign (.Name x pos) env :: ts) (x :: xs)
noncomputable def upds : Rho → List Str → List D → Rho
  | ρ, x :: xs, d :: ds => upds (upd ρ x d) xs ds
  | ρ, _, _ => ρ
theorem stores (W : Glob G Z) {A : Around} (hf : env.scope.kind = .function) {g dr o} {X : Addr → Prop} {ts : List (Value → Sem Unit)} {xs : List Str} (T : Tgt env ts xs) (hl : ∀ x ∈ xs, env.kindOf x = some .local ∨ env.kindOf x = some .cell) :
    ∀ {ρ : Rho} {ds : List D} {vs : List Value} {h : Heap} {tk : Nat}, Fok G Z X h env ρ → Reps h X ds vs → ds.length = xs.length → ∀ {Q : Unit → Shared → Prop}, (∀ h' t', Grow (Mut env) h h' → Fok G Z X h' env (upds ρ xs ds) → Q () ⟨h', g, dr, t', o⟩) → wpJ (model prog w) A (assignInOrder ts vs) Q ⟨h, g, dr, tk, o⟩ := by
  induction T with
  | nil => intro ρ ds vs h tk F r e Q q; exact wpJ_pure (q h tk (.refl _ _) (by cases ds <;> exact F))
  | @bind x ts xs T ih =>
    intro ρ ds vs h tk F r e Q q
    cases ds with
    | nil => cases e
    | cons d ds =>
      obtain ⟨v, vs, rfl, r₁, rs⟩ := r
      refine wpJ_bind (wpJ_holding (jBindName (store_S W (hl x (by simp)) hf F r₁ fun h' t' g₁ F₁ => ?_)))
      exact ih (fun y hy => hl y (by simp [hy])) F₁ (rs.grow g₁ (fun b m => .inr (Mut.noSeq F m)) fun _ _ q => q) (by simpa using e) fun h2 t2 g₂ F₂ => q h2 t2 (g₁.trans g₂) F₂
  | @name x pos ts xs T ih =>
    intro ρ ds vs h tk F r e Q q
    cases ds with
    | nil => cases e
    | cons d ds =>
      obtain ⟨v, vs, rfl, r₁, rs⟩ := r
      refine wpJ_bind (wpJ_holding (jAssignName (store_S W (hl x (by simp)) hf F r₁ fun h' t' g₁ F₁ => ?_)))
      exact ih (fun y hy => hl y (by simp [hy])) F₁ (rs.grow g₁ (fun b m => .inr (Mut.noSeq F m)) fun _ _ q => q) (by simpa using e) fun h2 t2 g₂ F₂ => q h2 t2 (g₁.trans g₂) F₂
theorem Le.extBut {h h' : Heap} (e : Heap.ExtBut h.objs.size h h') : Le h h' := .keeps fun b o q => e b o (Nat.ne_of_lt (Heap.lt_size q)) q
/-- a, b = value -/
theorem ex_unpack (W : Glob G Z) {elts n tpos value pos ds xs} (h₁ : EvS prog w G Z k env ρ value (.tup ds)) (T : Tgt env ((assignEach elts env).map (·.2)) xs) (hn : ds.length = xs.length) (hl : ∀ x ∈ xs, env.kindOf x = some .local ∨ env.kindOf x = some .cell) (hf : env.scope.kind = .function := by rfl)
    (hN : (assignEach elts env).length = xs.length := by rfl) (hstar : (assignEach elts env).findIdx? (·.1) = none := by rfl)
    (hs : swapsWithSole [.Tuple elts n tpos] value pos.line env = pure false := by rfl) (hw : swappedStores [.Tuple elts n tpos] value env = pure none := by rfl) :
    ExS prog w G Z k env ρ (.Assign [.Tuple elts n tpos] value pos) .next (upds ρ xs ds) := by
  intro A hA X h g dr tk o F
  rw [exec_Assign]
  refine wpJ_at ?_
  rw [hs]
  refine wpJ_bind (wpJ_pure ?_)
  rw [if_neg (by decide)]
  refine wpJ_bind (h₁.use hA F fun h1 t1 v g₁ r₁ => ?_)
  rw [hw]
  refine wpJ_bind (wpJ_pure ?_)
  show wpJ _ A (do assignAll v [assign (.Tuple elts n tpos) env]; pure Flow.next) _ _
  refine wpJ_bind ?_
  show wpJ _ A (assign (.Tuple elts n tpos) env v) _ _
  rw [PyProof.Rows.assign_Tuple]
  refine wpJ_at ?_
  obtain ⟨a, vs, rfl, hx, ht, rs⟩ := r₁
  unfold unpack
  rw [hstar, hN, show xs.length = vs.toArray.size by rw [List.size_toArray, rs.length, hn]]
  refine wpJ_bind (wpJ_holding (wpJ.of (unpackItems_tuple hA.handled ht fun h2 e2 => ?_)))
  have g₂ : Le h1 h2 := Le.extBut e2
  exact stores W hf T hl ((F.le W g₁).le W g₂) (rs.le g₂) hn fun h3 t3 g₃ F₃ => wpJ_pure ⟨h3, t3, rfl, (Grow.any (g₁.trans g₂)).trans g₃, rfl, F₃⟩
end
end Mine
end
noncomputable section
open PySem PySem.W PyProof.Rows
set_option Elab.async false
set_option linter.unusedVariables false
set_option maxRecDepth 100000
namespace Mine
variable {prog : Program} {w : World} {G : Heap → Prop} {Z : Addr → Prop}
noncomputable abbrev tests (ifs : List Expr) (env : Env) : Sem Bool := forIn ifs true fun c r => if r = true then do let ok ← isTrue c env (eval c env); pure (ForInStep.yield ok) else pure (ForInStep.yield r)
section
variable {A : Around} {s : Shared} {env : Env}
theorem jTests_nil {M : Model} {Q : Bool → Shared → Prop} (h : Q true s) : wpJ M A (tests [] env) Q s := wpJ_pure h
theorem jTests_one {M : Model} {c : Expr} {Q : Bool → Shared → Prop} (h : wpJ M A (isTrue c env (eval c env)) Q s) : wpJ M A (tests [c] env) Q s := by
  unfold tests
  simp only [List.forIn_cons, List.forIn_nil, if_true]
  exact wpJ_bind (wpJ_bind (wpJ_mono h fun b s' hb => wpJ_pure (wpJ_pure hb)))
theorem codeJ_compLoop {elt target iter : Expr} {ifs : List Expr} {gens : List Comprehension} {depth : Nat} {scope : Scope} {pos : Pos} {it acc : Value} {Q : Flow → Shared → Prop} (hg : gens[depth]? = some ⟨target, iter, ifs, 0⟩) (I : Nat → Shared → Prop)
    (turn : ∀ n s, I n s → wpJ (model prog w) A (pyNext it) (fun r s₁ => match r with
      | none => Q .next s₁
      | some v => wpJ (model prog w) A (assign target env v) (fun _ s₂ => wpJ (model prog w) A (tests ifs env) (fun ok s₃ =>
          if ok = true then
            match gens[depth + 1]? with
            | none => wpJ (model prog w) A (eval elt env) (fun x s₄ => wpJ (model prog w) A (call (.builtin "list.append") [acc, x]) (fun _ s₅ => ∃ m, m < n ∧ I m s₅) s₄) s₃
            | some g' => g'.is_async = 0 ∧ (∀ x, foldedSetIterable g'.iter env x = pure x) ∧ wpJ (model prog w) A (eval g'.iter env) (fun x s₄ => wpJ (model prog w) A (pyIter x) (fun it' s₅ => codeJ (model prog w) A (.compStart (.ListComp elt gens scope pos) (depth + 1) it' acc env) (fun _ s₆ => ∃ m, m < n ∧ I m s₆) s₅) s₄) s₃
          else ∃ m, m < n ∧ I m s₃) s₂) s₁) s)
    (n : Nat) (h : I n s) (ht : ∀ v, letOwnedTupleGo target it v = pure () := by intro _; rfl) :
    codeJ (model prog w) A (.compLoop (.ListComp elt gens scope pos) depth it acc env) Q s := by
  refine codeJ_loop rfl rfl I (fun n s hI => ?_) n h
  rw [Around.under_of_weight rfl]
  show wpJ _ A ((compTurn (.ListComp elt gens scope pos) depth it acc env).onRaise (fun x => do noteFrame x env; theTreesLotGoes x)) _ s
  refine wpJ_onRaise ?_
  unfold compTurn
  simp only [hg]
  refine wpJ_at ?_
  simp only [bne_self_eq_false, Bool.false_eq_true, if_false]
  refine wpJ_bind (wpJ_mono (turn n s hI) fun r s₁ h₁ => ?_)
  cases r with
  | none => exact wpJ_pure h₁
  | some v =>
    dsimp only
    rw [ht v]
    refine wpJ_bind (wpJ_pure (wpJ_bind (wpJ_mono h₁ fun _ s₂ h₂ => wpJ_bind (wpJ_mono h₂ fun ok s₃ h₃ => ?_))))
    cases ok with
    | false => exact wpJ_pure (.inl ⟨rfl, h₃⟩)
    | true =>
      simp only [if_true] at h₃ ⊢
      cases hn : gens[depth + 1]? with
      | none =>
        simp only [hn] at h₃
        exact wpJ_bind (wpJ_bind (wpJ_mono h₃ fun x s₄ h₄ => wpJ_bind (wpJ_mono h₄ fun _ s₅ h₅ => wpJ_pure (wpJ_pure (.inl ⟨rfl, h₅⟩)))))
      | some g' =>
        simp only [hn] at h₃
        obtain ⟨ha, hf, h₃⟩ := h₃
        refine wpJ_bind (wpJ_mono h₃ fun x s₄ h₄ => wpJ_at ?_)
        simp only [ha, bne_self_eq_false, Bool.false_eq_true, if_false, hf]
        refine wpJ_bind (wpJ_pure (wpJ_bind (wpJ_holding (wpJ_mono h₄ fun it' s₅ h₅ => wpJ_bind (wpJ_runOwn rfl (codeJ_mono h₅ fun _ s₆ h₆ => wpJ_pure (.inl ⟨rfl, h₆⟩)))))))
theorem codeJ_compStart {elt : Expr} {gens : List Comprehension} {g : Comprehension} {depth : Nat} {scope : Scope} {pos : Pos} {it acc : Value} {Q : Flow → Shared → Prop} (hg : gens[depth]? = some g) (ha : g.is_async = 0)
    (h0 : codeJ (model prog w) A (.compLoop (.ListComp elt gens scope pos) depth it acc env) Q s)
    (h : wpJ (model prog w) A (pyIter it) (fun it' s' => codeJ (model prog w) A (.compLoop (.ListComp elt gens scope pos) depth it' acc env) Q s') s) :
    codeJ (model prog w) A (.compStart (.ListComp elt gens scope pos) depth it acc env) Q s := by
  refine codeJ_of_tree ?_
  rw [Around.under_of_weight rfl]
  show wpJ _ _ ((compStart (.ListComp elt gens scope pos) depth it acc env).onRaise (fun x => do noteFrame x env; standAt theWindowsPlace)) _ s
  refine wpJ_onRaise ?_
  unfold compStart
  rw [show clausesOf (.ListComp elt gens scope pos) = gens from rfl]
  simp only [hg, Option.elim, ha, bne_self_eq_false, Bool.false_eq_true, if_false]
  refine wpJ_bind (wpJ.of (wpAny_askSetting ?_))
  split
  · exact wpJ_bind (wpJ_pure (wpJ_pure ⟨rfl, rfl, h0⟩))
  · exact wpJ_bind (wpJ.of (wpAny_rule (wpJ_at (wpJ_bind (wpJ_mono h fun it' s' h' => wpJ_pure ⟨rfl, rfl, h'⟩)))))
end
end Mine
end
noncomputable section
open PySem PySem.W PyProof.Rows
set_option Elab.async false
set_option linter.unusedVariables false
set_option maxRecDepth 100000
namespace Mine
variable {prog : Program} {w : World} {G : Heap → Prop} {Z : Addr → Prop}
section
variable {M : Model} {A : Around} {s : Shared} {env : Env}
theorem jStandIf {α : Type} {c : Prop} [Decidable c] {pos : Pos} {k : PUnit → Sem α} {Q : α → Shared → Prop} (h : wpJ M A (k ()) Q s) : wpJ M A (if c then (standAt pos >>= k) else k ()) Q s := by
  split
  · exact wpJ_at h
  · exact h
noncomputable def compPostJ (M : Model) (A : Around) (use : Option (Value → Sem Unit)) (Q : Value → Shared → Prop) (acc : Value) (C : Addr) (s' : Shared) : Prop :=
  match use with
  | none => ∃ m, s'.heap.Ns C m ∧ ∀ h', Heap.SameBut C s'.heap h' → Q acc { s' with heap := h' }
  | some u => wpJ M A (u acc) (fun _ s'' => ∃ m, s''.heap.Ns C m ∧ ∀ h', Heap.SameBut C s''.heap h' → Q .none { s'' with heap := h' }) s'
theorem jComprehension {e : Expr} {scope : Scope} {pos : Pos} {newAcc first : Sem Value} {g : Comprehension} {gs : List Comprehension} {cl : List (Str × Addr)} {use : Option (Value → Sem Unit)}
    {Q : Value → Shared → Prop} (he : holdsIt (.compStart e 0 .none .none env) = false)
    (hcl : clausesOf e = g :: gs) (hs : ∀ x, foldedSetIterable g.iter env x = pure x) (hclos : closureFor scope env = pure cl)
    (hkind : scope.kind = .function) (hnames : ∀ x ∈ scope.names, x.2 = .local → scope.names.lookup x.1 = some .local)
    (h : wpJ M A first (fun x s₁ => wpJ M A (pyIter x) (fun it s₂ => wpJ M A newAcc (fun acc s₃ =>
      wpJ M A (newFunctionEnv scope env.globals cl [] env.qual none .none (some env)) (fun cenv s₄ =>
        codeJ M A (.compStart e 0 it acc { cenv with scope := relabel scope env }) (fun _ s' => compPostJ M A use Q acc cenv.locals s') s₄) s₃) s₂) s₁) s) :
    wpJ M A (comprehension e scope env pos newAcc false first use) Q s := by
  unfold comprehension
  rw [hclos, hcl]
  refine wpJ_bind (wpJ_mono h fun x s₁ h₁ => wpJ_at ?_)
  dsimp only
  rw [hs x]
  refine wpJ_bind (wpJ_pure (wpJ_bind (wpJ_holding (wpJ_mono h₁ fun it s₂ h₂ =>
    jStandIf (wpJ_bind (wpJ_mono h₂ fun acc s₃ h₃ => wpJ_bind (wpJ_pure (wpJ_bind (wpJ_mono h₃ fun cenv s₄ h₄ => ?_)))))))))
  have hv : ∀ x ∈ (scope.names.filter fun x => (x.2 == .local || x.2 == .cell) && x.1 != (".0" : Str)).reverse, x.2 = .local →
      Env.kindOf { cenv with scope := relabel scope env } x.1 = some .local := fun x hx hl => lookup_relabel_local (hnames x (List.mem_filter.mp (List.mem_reverse.mp hx)).1 hl)
  have hv' : ∀ x ∈ (scope.names.filter fun x => (x.2 == .local || x.2 == .cell) && x.1 != (".0" : Str)).reverse.drop 1 ++ (scope.names.filter fun x => (x.2 == .local || x.2 == .cell) && x.1 != (".0" : Str)).reverse.take 1,
      x.2 = .local → Env.kindOf { cenv with scope := relabel scope env } x.1 = some .local := fun x hx hl => by
    rcases List.mem_append.mp hx with h1 | h1
    · exact hv x (List.mem_of_mem_drop h1) hl
    · exact hv x (List.mem_of_mem_take h1) hl
  refine wpJ_holding (wpJ_bind (wpJ_attempt (wpJ_holding (wpJ_run rfl (codeJ_mono h₄ fun r s' hr => ?_)))))
  cases use with
  | none =>
    obtain ⟨m, hn, hr⟩ := hr
    exact wpJ_bind (wpJ_holding (wpJ.of (wpAny_comp_letGo (cenv := { cenv with scope := relabel scope env }) hkind _ s' m hv hn fun h' m' _ hs' => wpJ_pure (hr h' hs'))))
  | some u =>
    refine wpJ_bind (wpJ.of (wpAny_rule (wpJ_bind (wpJ_holding (wpJ_mono hr fun _ s'' hr' => ?_)))))
    obtain ⟨m, hn, hr'⟩ := hr'
    exact wpJ_bind (wpJ.of (wpAny_comp_letGo (cenv := { cenv with scope := relabel scope env }) hkind _ s'' m hv' hn fun h' m' _ hs' => wpJ_pure (hr' h' hs')))
end
/-- what the list in the making holds -/
noncomputable def Acc (h : Heap) (X : Addr → Prop) (a : Addr) (ds : List D) : Prop := ∃ vs, h.IsList a (List.toArray vs) ∧ Reps h X ds vs
noncomputable abbrev TestsS (prog : Program) (w : World) (G : Heap → Prop) (Z : Addr → Prop) (k : Nat) (env : Env) (ρ : Rho) (ifs : List Expr) (b : Bool) : Prop := Tree prog w G Z k env ρ (tests ifs env) no fun _ _ r => r = b
theorem tests_nil {k env} {ρ : Rho} : TestsS prog w G Z k env ρ [] true := fun A hA X h g dr tk o F => jTests_nil ⟨h, tk, rfl, .refl _ _, rfl⟩
theorem tests_one {k env} {ρ : Rho} {c b} (h : TestS prog w G Z k env ρ c b) : TestsS prog w G Z k env ρ [c] b := fun A hA X h' g dr tk o F => jTests_one (h A hA X h' g dr tk o F)
/-- what the clauses bring forth -/
inductive Cl (prog : Program) (w : World) (G : Heap → Prop) (Z : Addr → Prop) (k : Nat) (env : Env) (elt : Expr) : List Comprehension → Rho → List D → Prop
  | emit {ρ d} : EvS prog w G Z k env ρ elt d → Cl prog w G Z k env elt [] ρ [d]
  | clause {x px iter ifs rest ρ d} (outs : Nat → List D) (b : Nat → Bool) : EvS prog w G Z k env ρ iter d → CanIter d → ρ x = none → env.kindOf x = some .local → (∀ v, foldedSetIterable iter env v = pure v) →
      (∀ i e, (items d)[i]? = some e → TestsS prog w G Z k env (upd ρ x e) ifs (b i)) → (∀ i e, (items d)[i]? = some e → b i = true → Cl prog w G Z k env elt rest (upd ρ x e) (outs i)) → (∀ i, b i = false → outs i = []) →
      Cl prog w G Z k env elt (⟨.Name x px, iter, ifs, 0⟩ :: rest) ρ ((List.range (items d).length).flatMap outs)
noncomputable def CD (C a : Addr) : Addr → Prop := fun b => b = C ∨ b = a
noncomputable def StepS (prog : Program) (w : World) (G : Heap → Prop) (Z : Addr → Prop) (k : Nat) (env : Env) (elt : Expr) (gens : List Comprehension) (scope : Scope) (pos : Pos) (a : Addr) (depth : Nat) (ρ : Rho) (out : List D) : Prop :=
  ∀ A, Bud k A → ∀ X h g dr tk o ds, X a → ¬ Mut env a → Fok G Z X h env ρ → Acc h X a ds → ds.length + out.length ≤ 100000 → ∀ Q : Shared → Prop,
    (∀ h' t', Grow (CD env.locals a) h h' → Fok G Z X h' env ρ → Acc h' X a (ds ++ out) → Q ⟨h', g, dr, t', o⟩) →
    match gens[depth]? with
    | none => wpJ (model prog w) A (eval elt env) (fun x s₄ => wpJ (model prog w) A (call (.builtin "list.append") [.ref a, x]) (fun _ => Q) s₄) ⟨h, g, dr, tk, o⟩
    | some g' => g'.is_async = 0 ∧ (∀ x, foldedSetIterable g'.iter env x = pure x) ∧ wpJ (model prog w) A (eval g'.iter env) (fun x s₄ => wpJ (model prog w) A (pyIter x) (fun it' s₅ => codeJ (model prog w) A (.compStart (.ListComp elt gens scope pos) depth it' (.ref a) env) (fun _ => Q) s₅) s₄) ⟨h, g, dr, tk, o⟩
section
variable {k : Nat} {env : Env} {ρ : Rho} {elt : Expr} {gens : List Comprehension} {scope : Scope} {pos : Pos} {a : Addr}
theorem range_pre {α : Type} (outs : Nat → List α) {i n : Nat} (h : i < n) : ((List.range i).flatMap outs).length + (outs i).length ≤ ((List.range n).flatMap outs).length := by
  obtain ⟨m, rfl⟩ : ∃ m, n = (i + 1) + m := ⟨n - (i + 1), by omega⟩
  rw [List.range_add, List.range_succ]
  simp only [List.flatMap_append, List.length_append, List.flatMap_cons, List.flatMap_nil, List.append_nil]
  omega
/-- the loop of one clause, its iterator made -/
theorem comp_loop (W : Glob G Z) {x px iter ifs depth d} {outs : Nat → List D} {b : Nat → Bool} {A : Around} (hA : Bud k A) {X X₁ : Addr → Prop} {h1 h g dr tk o ds fp P St} (hg : gens[depth]? = some ⟨.Name x px, iter, ifs, 0⟩)
    (hx : ρ x = none) (hl : env.kindOf x = some .local) (hf : env.scope.kind = .function)
    (ht : ∀ i e, (items d)[i]? = some e → TestsS prog w G Z k env (upd ρ x e) ifs (b i)) (hc : ∀ i e, (items d)[i]? = some e → b i = true → StepS prog w G Z k env elt gens scope pos a (depth + 1) (upd ρ x e) (outs i)) (hn : ∀ i, b i = false → outs i = [])
    (xa : X a) (ma : ¬ Mut env a) (F : Fok G Z X h env ρ) (ac : Acc h X a ds) (hz : ds.length + ((List.range (items d).length).flatMap outs).length ≤ 100000)
    (T : Started prog w A X₁ h1 d fp P St) (st : St 0 h) (mI : ¬ Mut env h1.objs.size) (xI : ¬ X h1.objs.size) (lowI : ¬ Z h1.objs.size) (lowa : ¬ Z a)
    (ft : ∀ b ∈ fp, b ≠ env.locals ∧ b ≠ a)
    (hr : ∀ e v, Rep h1 X₁ e v → Rep h X e v)
    {Q : Shared → Prop} (q : ∀ h' t', Grow (fun b => CD env.locals a b ∨ b = h1.objs.size) h h' → Fok G Z X h' env ρ → Acc h' X a (ds ++ (List.range (items d).length).flatMap outs) → Q ⟨h', g, dr, t', o⟩) :
    codeJ (model prog w) A (.compLoop (.ListComp elt gens scope pos) depth (.ref h1.objs.size) (.ref a) env) (fun _ => Q) ⟨h, g, dr, tk, o⟩ := by
  have ne1 : h1.objs.size ≠ a := fun e => xI (e ▸ xa)
  have ne2 : h1.objs.size ≠ env.locals := fun e => mI (.inl e)
  have na : a ≠ env.locals := fun e => ma (.inl e)
  -- what turns is no frame's datum
  have bare : ∀ c, (CD env.locals a c ∨ c = h1.objs.size) → X c ∨ ∀ o, h.get? c = some o → Bare o := fun c hc => by
    rcases hc with (hc | hc) | hc
    · exact .inr (Mut.noSeq F (.inl hc))
    · exact .inl (hc ▸ xa)
    · obtain ⟨o', e', b1, _⟩ := T.bare 0 h st
      exact .inr fun o2 e2 => by rw [hc, e'] at e2; cases e2; exact b1
  refine codeJ_compLoop hg (fun n s => ∃ i H tk', i ≤ (items d).length ∧ n = (items d).length - i ∧ s = ⟨H, g, dr, tk', o⟩ ∧ St i H ∧ Fok G Z X H env ρ ∧ Acc H X a (ds ++ (List.range i).flatMap outs) ∧ Grow (fun b => CD env.locals a b ∨ b = h1.objs.size) h H) ?_ (items d).length
    ⟨0, h, tk, Nat.zero_le _, rfl, rfl, st, F, by simpa using ac, .refl _ _⟩
  rintro n s ⟨i, H, tk', hi, rfl, rfl, stH, FH, acH, gH⟩
  have step : ∀ H1, (∀ b o, b ∉ [h1.objs.size] → H.get? b = some o → H1.get? b = some o) → Fok G Z X H1 env ρ ∧ Acc H1 X a (ds ++ (List.range i).flatMap outs) ∧ Grow (fun b => CD env.locals a b ∨ b = h1.objs.size) h H1 := fun H1 kp => by
    have gI : Grow (fun b => b = h1.objs.size) H H1 := ⟨fun b o' nb e => kp b o' (by simpa using nb) e⟩
    obtain ⟨o', e', b1, b2, b3⟩ := T.bare i H stH
    refine ⟨FH.turn W gI (fun b e => e ▸ lowI) (fun b e q => absurd (e ▸ q) xI) (fun b e => ⟨o', e ▸ e', .inr b1, b2, b3⟩), ?_, gH.trans (gI.mono fun b e => .inr e)⟩
    obtain ⟨vs, hv, rv⟩ := acH
    exact ⟨vs, gI.list (fun e => ne1 e.symm) hv, rv.grow gI (fun b e => .inr fun o2 e2 => by rw [e, e'] at e2; cases e2; exact b1) fun _ _ q => q⟩
  by_cases hlt : i < (items d).length
  · refine wpJ.of <| T.walks.item i _ _ _ hlt stH fun v' H1 tk1 hPv stH1 kp => ?_
    obtain ⟨F1', ac1', g1'⟩ := step H1 kp
    obtain ⟨e, he, re⟩ := T.item i v' hPv
    have re' : Rep H1 X e v' := (hr e v' re).grow g1' bare fun _ _ x => x
    obtain ⟨m, nm, hm⟩ := F1'.loc
    refine jAssignName (wpJ.of (wpAny_storeName_local hl nm (fun H2 hn2 hs2 => ?_) (by rw [hf]; rfl)))
    have F2 : Fok G Z X H2 env (upd ρ x e) := F1'.setLocal W hm hn2 hs2 re' hl
    have gC : Grow (fun b => b = env.locals) H1 H2 := .same hs2 rfl
    have bC : ∀ c, c = env.locals → X c ∨ ∀ o, H1.get? c = some o → Bare o := fun c e => .inr (Mut.noSeq F1' (.inl e))
    have ac2 : Acc H2 X a (ds ++ (List.range i).flatMap outs) := by
      obtain ⟨vs, hv, rv⟩ := ac1'
      exact ⟨vs, gC.list na hv, rv.grow gC bC fun _ _ q => q⟩
    have g2' : Grow (fun b => CD env.locals a b ∨ b = h1.objs.size) h H2 := g1'.trans (gC.mono fun b e => .inl (.inl e))
    have stH2 : St (i + 1) H2 := T.walks.frame (i + 1) H1 H2 stH1 fun b hb o' e' => gC.get (ft b hb).1 e' (T.named (i + 1) H1 stH1 b hb o' e')
    refine (ht i e he).use hA F2 fun H3 t3 ok g3 r3 => ?_
    subst r3
    have F3 := F2.le W g3
    have ac3 : Acc H3 X a (ds ++ (List.range i).flatMap outs) := by
      obtain ⟨vs, hv, rv⟩ := ac2
      exact ⟨vs, g3.list (fun q => q) hv, rv.le g3⟩
    have stH3 : St (i + 1) H3 := T.walks.frame (i + 1) H2 H3 stH2 fun b hb o' e' => g3.get (fun q => q) e' (T.named (i + 1) H2 stH2 b hb o' e')
    have hsub : Sub ρ (upd ρ x e) := (Sub.refl ρ).upd hx
    cases hb : b i with
    | false =>
      simp only [Bool.false_eq_true, if_false]
      refine ⟨(items d).length - (i + 1), by omega, i + 1, H3, t3, hlt, rfl, rfl, stH3, F3.sub hsub, ?_, g2'.trans (.any g3)⟩
      rw [List.range_succ, List.flatMap_append]
      simpa [hn i hb] using ac3
    | true =>
      simp only [if_true]
      have hlen := range_pre outs hlt
      refine hc i e he hb A hA X H3 g dr t3 o _ xa ma F3 ac3 (by rw [List.length_append]; omega) _ fun H4 t4 g4 F4 ac4 => ?_
      have stH4 : St (i + 1) H4 := T.walks.frame (i + 1) H3 H4 stH3 fun b hb o' e' => g4.get (fun q => q.elim (ft b hb).1 (ft b hb).2) e' (T.named (i + 1) H3 stH3 b hb o' e')
      refine ⟨(items d).length - (i + 1), by omega, i + 1, H4, t4, hlt, rfl, rfl, stH4, F4.sub hsub, ?_, (g2'.trans (.any g3)).trans (g4.mono fun b q => .inl q)⟩
      rw [List.range_succ, List.flatMap_append]
      simpa [List.append_assoc] using ac4
  · have hi' : i = (items d).length := by omega
    refine wpJ.of <| T.walks.done _ _ _ (hi' ▸ stH) fun H1 tk1 kp => ?_
    obtain ⟨F1', ac1', g1'⟩ := step H1 kp
    exact q H1 tk1 g1' F1' (hi' ▸ ac1')
end
end Mine
end
noncomputable section
open PySem PySem.W PyProof.Rows
set_option Elab.async false
set_option linter.unusedVariables false
set_option maxRecDepth 100000
namespace Mine
variable {prog : Program} {w : World} {G : Heap → Prop} {Z : Addr → Prop}
theorem aeq {a b : Addr} (h : a = b) : @Eq Nat a b := h
theorem ane {a b : Addr} (h : ¬ @Eq Nat a b) : a ≠ b := h
theorem alt {h : Heap} {a : Addr} {o : Obj} (e : h.get? a = some o) : @LT.lt Nat _ a h.objs.size := Heap.lt_size e
theorem Grow.cut {S T : Addr → Prop} {h h1 h' : Heap} (g1 : Le h h1) (g2 : Grow (fun b => S b ∨ T b) h1 h') (hT : ∀ b, T b → ¬ ∃ o, h1.get? b = some o) : Grow S h h' :=
  have g : Grow (fun b => S b ∨ T b) h h' := (Grow.any g1).trans g2
  ⟨fun b o ns e => g.old b o (fun q => q.elim ns fun t => hT b t (g1.alive (fun q => q) ⟨o, e⟩)) e⟩
theorem Grow.fresh {T : Addr → Prop} {h h' : Heap} (g : Grow T h h') (hT : ∀ b, T b → ¬ ∃ o, h.get? b = some o) : Le h h' := Grow.cut (.refl _ _) (g.mono fun _ q => .inr q) hT
theorem drop_some {α : Type} {l : List α} {n : Nat} {x : α} {r : List α} (h : l.drop n = x :: r) : l[n]? = some x ∧ l.drop (n + 1) = r := by
  constructor
  · rw [← List.head?_drop, h]; rfl
  · rw [← List.drop_drop, h]; rfl
section
variable {k : Nat} {env : Env} {ρ : Rho} {elt : Expr} {gens : List Comprehension} {scope : Scope} {pos : Pos} {a : Addr}
theorem step_of (W : Glob G Z) (hf : env.scope.kind = .function) (lowa : ¬ Z a) {rest : List Comprehension} {out : List D} (H : Cl prog w G Z k env elt rest ρ out) : ∀ depth, gens.drop depth = rest → StepS prog w G Z k env elt gens scope pos a depth ρ out := by
  induction H with
  | @emit ρ d he =>
    intro depth hd A hA X h g dr tk o ds xa ma F ac hz Q q
    have e : gens[depth]? = none := by
      rw [List.getElem?_eq_none_iff]; exact List.drop_eq_nil_iff.mp hd
    rw [e]
    refine he.use hA F fun h1 t1 v g1 r1 => ?_
    obtain ⟨vs, hv, rv⟩ := ac
    have hv1 := g1.list (fun q => q) hv
    refine wpJ.of (wpAny_list_append hv1 (fun h2 hl2 hs2 => ?_) (by have := rv.length; simp only [List.size_toArray, sizeLine]; omega))
    have g2 : Grow (fun c => c = a) h1 h2 := .same hs2 rfl
    have F1 := F.le W g1
    obtain ⟨oa, hoa, _, n, hda⟩ := id hv1
    refine q h2 t1 ((Grow.any g1).trans (g2.mono fun _ => .inr)) (F1.turn W g2 (fun c e => e ▸ lowa) (fun c e _ => let ⟨o2, e2, _⟩ := hl2; ⟨o2, e ▸ e2⟩) fun c e => ⟨oa, e ▸ hoa, .inl (e ▸ xa), (fun _ _ q => by rw [hda] at q; cases q), (fun _ q => by rw [hda] at q; cases q)⟩) ⟨vs ++ [v], by simpa using hl2, ?_⟩
    exact ((rv.le g1).append (show Reps h1 X [d] [v] from ⟨v, [], rfl, r1, rfl⟩)).grow g2 (fun c e => .inl (e ▸ xa)) fun _ _ q => q
  | @clause x px iter ifs rest ρ d outs b he hc hx hl hs ht hcl hn ih =>
    intro depth hd A hA X h g dr tk o ds xa ma F ac hz Q q
    obtain ⟨hg, hd'⟩ := drop_some hd
    rw [hg]
    refine ⟨rfl, hs, he.use hA F fun h1 t1 v g1 r1 => ?_⟩
    have F1 := F.le W g1
    refine wpJ.of (start_iter hA.handled hc r1 fun fp P St ob T st => ?_)
    have nI : ¬ ∃ o, h1.get? h1.objs.size = some o := fun ⟨_, e⟩ => Nat.lt_irrefl _ (Heap.lt_size e)
    have mI : ¬ Mut env h1.objs.size := fun m => let ⟨o', e, _⟩ := Mut.kind F1 m; nI ⟨o', e⟩
    have xI : ¬ X h1.objs.size := fun q => nI (F1.xs _ q)
    have ac2 : Acc (h1.push ob) X a ds := let ⟨vs, hv, rv⟩ := ac; ⟨vs, (g1.trans (.push _ _)).list (fun q => q) hv, rv.le (g1.trans (.push _ _))⟩
    have loop := comp_loop (elt := elt) (scope := scope) (pos := pos) (tk := t1) (g := g) (dr := dr) (o := o) (Q := Q) W hA hg hx hl hf ht (fun i e he hb => ih i e he hb (depth + 1) hd') hn xa ma (F1.le W (.push _ _)) ac2 hz T st mI xI (W.fresh h1 F1.g _ (Nat.le_refl _)) lowa
      (fun b hb => by
        rcases T.feet b hb with rfl | ⟨⟨o', e, xs, n, hdo⟩, hnx⟩
        · exact ⟨fun e => mI (.inl e), fun e => xI (e ▸ xa)⟩
        · refine ⟨fun q => ?_, fun q => hnx (q ▸ xa)⟩
          obtain ⟨o2, e2, k2⟩ := Mut.kind F1 (.inl q : Mut env b)
          rw [e] at e2; cases e2
          rcases k2 with ⟨_, _, k2⟩ | ⟨_, k2⟩ <;> (rw [hdo] at k2; cases k2))
      (fun e v r => r.le (.push _ _))
      (fun h' t' gr F' ac' => q h' t' (Grow.cut (g1) ((Grow.any (.push h1 ob)).trans gr) fun b e => e ▸ nI) F' ac')
    exact codeJ_compStart hg rfl loop (wpJ.of (T.walks.self 0 _ _ _ st loop))
/-- everything bound -/
noncomputable def All (ρ : Rho) (P : Str → D → Prop) : Prop := ∀ y e, ρ y = some e → P y e
theorem All.nil {P : Str → D → Prop} : All Mine.nil P := fun y e q => by cases q
theorem All.upd {P : Str → D → Prop} {ρ : Rho} (r : All ρ P) {x d} (h : P x d) : All (upd ρ x d) P := fun y e q => by
  unfold Mine.upd at q
  by_cases hy : y = x
  · rw [if_pos hy] at q; cases q; exact hy ▸ h
  · rw [if_neg hy] at q; exact r y e q
noncomputable def Subs (env : Env) : List (Str × Addr) → Prop
  | [] => True
  | p :: r => env.cells.lookup p.1 = some p.2 ∧ Subs env r
theorem Subs.get {env : Env} : ∀ {cl : List (Str × Addr)} {x c}, Subs env cl → cl.lookup x = some c → env.cells.lookup x = some c
  | [], _, _, _, e => by cases e
  | p :: r, x, c, h, e => by
    obtain ⟨n, v⟩ := p
    rw [List.lookup_cons] at e
    cases hq : x == n with
    | true => rw [hq] at e; cases e; have := eq_of_beq hq; subst this; exact h.1
    | false => rw [hq] at e; exact Subs.get h.2 e
noncomputable def Agree (cl : List (Str × Addr)) (env : Env) : List (Str × NameKind) → Prop
  | [] => True
  | p :: r => (p.2 = .free → cl.lookup p.1 = env.cells.lookup p.1) ∧ Agree cl env r
theorem Agree.get {cl : List (Str × Addr)} {env : Env} : ∀ {l : List (Str × NameKind)} {x}, Agree cl env l → (x, NameKind.free) ∈ l → cl.lookup x = env.cells.lookup x
  | p :: r, x, h, m => by
    rcases List.mem_cons.mp m with rfl | m
    · exact h.1 rfl
    · exact Agree.get h.2 m
theorem relabel_cell {env : Env} : ∀ {names : List (Str × NameKind)} {x : Str}, (∀ y ∈ names, y.2 ≠ .cell) →
    (names.map fun (n, k) => if (k == NameKind.free && env.scope.kind == .function && env.kindOf n == some .cell) then (n, NameKind.cell) else (n, k)).lookup x = some .cell → (x, NameKind.free) ∈ names ∧ env.kindOf x = some .cell
  | [], _, _, h => by simp at h
  | (n, k) :: r, x, hc, h => by
    have ih := @relabel_cell env r x (fun y hy => hc y (List.mem_cons_of_mem _ hy))
    change List.lookup x ((if (k == NameKind.free && env.scope.kind == .function && env.kindOf n == some .cell) = true then (n, NameKind.cell) else (n, k)) :: _) = _ at h
    by_cases hq : (k == NameKind.free && env.scope.kind == .function && env.kindOf n == some .cell) = true
    · rw [if_pos hq] at h
      rw [List.lookup_cons] at h
      cases hx : x == n with
      | true =>
        have := eq_of_beq hx; subst this
        simp only [Bool.and_eq_true] at hq
        exact ⟨by rw [eq_of_beq hq.1.1]; exact List.mem_cons_self, eq_of_beq hq.2⟩
      | false => rw [hx] at h; exact ⟨List.mem_cons_of_mem _ (ih h).1, (ih h).2⟩
    · rw [if_neg hq] at h
      rw [List.lookup_cons] at h
      cases hx : x == n with
      | true => rw [hx] at h; cases h; exact absurd rfl (hc (n, .cell) List.mem_cons_self)
      | false => rw [hx] at h; exact ⟨List.mem_cons_of_mem _ (ih h).1, (ih h).2⟩
/-- what must be known of the scope of a comprehension -/
structure CompOk (scope : Scope) (cl : List (Str × Addr)) (env : Env) (ρ ρc : Rho) : Prop where
  clos : closureFor scope env = pure cl
  cell : ∀ y ∈ scope.names, y.2 ≠ .cell
  kind : scope.kind = .function
  names : ∀ y ∈ scope.names, y.2 = .local → scope.names.lookup y.1 = some .local
  subs : Subs env cl
  agree : Agree cl env scope.names
  all : All ρc fun y e => ρ y = some e ∧ env.kindOf y ≠ some .local ∧ (relabel scope env).names.lookup y ≠ some .local ∧ (cl.lookup y).isSome = true
theorem comp_frame (W : Glob G Z) {cl : List (Str × Addr)} {X X' : Addr → Prop} {h h' C} {ρc : Rho} (K : CompOk scope cl env ρ ρc) (F : Fok G Z X h env ρ) (g : Le h h') (hX : ∀ b, b < h.objs.size → X' b → X b) (xs : Alive X' h') (low : ¬ Z C) {m} (hn : h'.Ns C m) :
    Fok G Z X' h' (compEnvC scope cl C env) ρc where
  g := W.grow no h h' (fun _ x => x.elim) g F.g
  xs := xs
  low := low
  loc := ⟨m, hn, fun x d e kx => absurd kx (K.all x d e).2.2.1⟩
  cel := fun x d e kx => by
    obtain ⟨e1, k1, _, s1⟩ := K.all x d e
    obtain ⟨c, hc⟩ := Option.isSome_iff_exists.mp s1
    obtain ⟨c', v, a, i, r⟩ := F.cel x d e1 k1
    have hh := K.subs.get hc
    rw [a] at hh; cases hh
    exact ⟨c, v, hc, g.cell (fun q => q) i, r.grow g (fun _ q => q.elim) hX⟩
  own := fun x kx => by
    obtain ⟨m1, m2⟩ := relabel_cell K.cell kx
    obtain ⟨c, ov, a, i, l⟩ := F.own x m2
    exact ⟨c, ov, (K.agree.get m1).trans a, g.cell (fun q => q) i, l⟩
  apart := fun x y c hx hy => F.apart x y c (K.subs.get hx) (K.subs.get hy)
theorem comp_mut {cl : List (Str × Addr)} {C : Addr} {ρc : Rho} (K : CompOk scope cl env ρ ρc) {b : Addr} (m : Mut (compEnvC scope cl C env) b) : b = C ∨ Mut env b := by
  rcases m with m | ⟨x, kx, hx⟩
  · exact .inl m
  · exact .inr (.inr ⟨x, (relabel_cell K.cell kx).2, K.subs.get hx⟩)
/-- the run of a comprehension, until its list is made -/
theorem comp_run (W : Glob G Z) {x px iter ifs rest d cl} {ρc : Rho} {outs : Nat → List D} {b : Nat → Bool} (K : CompOk scope cl env ρ ρc) (h₁ : EvS prog w G Z k env ρ iter d) (hc : CanIter d)
    (hx : ρc x = none) (hl : (relabel scope env).names.lookup x = some .local)
    (ht : ∀ C i e, (items d)[i]? = some e → TestsS prog w G Z k (compEnvC scope cl C env) (upd ρc x e) ifs (b i)) (hcl : ∀ C i e, (items d)[i]? = some e → b i = true → Cl prog w G Z k (compEnvC scope cl C env) elt rest (upd ρc x e) (outs i)) (hn : ∀ i, b i = false → outs i = [])
    (hz : ((List.range (items d).length).flatMap outs).length ≤ 100000)
    (hs : ∀ v, foldedSetIterable iter env v = pure v) {use : Option (Value → Sem Unit)} {cpos : Pos} {A : Around} (hA : Bud k A) {X h g dr tk o} (F : Fok G Z X h env ρ) {Q : Value → Shared → Prop}
    (q : ∀ a C h' t', Le h h' → ¬ Z C → ¬ X a → ¬ X C → a ≠ C → (¬ ∃ o', h.get? C = some o') → C ≠ env.locals → ¬ Mut env C → Rep h' X (.lst ((List.range (items d).length).flatMap outs)) (.ref a) → (∃ m, h'.Ns C m) → (∀ h'', Heap.SameBut C h' h'' → Le h h'') → compPostJ (model prog w) A use Q (.ref a) C ⟨h', g, dr, t', o⟩) :
    wpJ (model prog w) A (comprehension (.ListComp elt (⟨.Name x px, iter, ifs, 0⟩ :: rest) scope pos) scope env cpos (newList []) false (eval iter env) use) Q ⟨h, g, dr, tk, o⟩ := by
  refine jComprehension rfl rfl hs K.clos K.kind K.names (h₁.use hA F fun h1 t1 v g1 r1 => wpJ.of (start_iter hA.handled hc r1 fun fp P St ob T st => ?_))
  have F1 := F.le W g1
  have lowI := W.fresh h1 F1.g _ (Nat.le_refl _)
  refine wpJ.of (wpAny_newObj_type ?_ (by size_fits))
  refine wpJ.of (wpAny_newFunctionEnv K.cell (by intro y hy; simp at hy) (fun h4 hns hsb => ?_) K.kind)
  dsimp only at hns hsb ⊢
  generalize hH3 : (h1.push ob).push { cls := .type "list", dict := none, data := .seq ([] : List Value).toArray } = H3 at hns hsb ⊢
  have sI : (h1.push ob).objs.size = h1.objs.size + 1 := Heap.size_push _ _
  have sC : H3.objs.size = h1.objs.size + 2 := by rw [← hH3, Heap.size_push, sI]
  rw [sI]
  have old : ∀ c o', c ≠ H3.objs.size → H3.get? c = some o' → h4.get? c = some o' := fun c o' hne e => hsb.extBut c o' hne (Heap.get?_push_of_some _ e)
  have g14 : Le h1 h4 := .keeps fun c o' e => old c o' (ane (by have := alt e; omega)) (hH3 ▸ Heap.get?_push_of_some _ (Heap.get?_push_of_some _ e))
  have hD : h4.get? (h1.objs.size + 1) = some { cls := .type "list", dict := none, data := .seq ([] : List Value).toArray } := old _ _ (ane (by omega)) (by rw [← hH3, ← sI]; exact Heap.get?_push_size _ rfl)
  have new : ∀ c, h1.objs.size ≤ c → ¬ ∃ o', h1.get? c = some o' := fun c hle ⟨o', e⟩ => by have := alt e; omega
  have F4 : Fok G Z (fun c => X c ∨ c = h1.objs.size + 1) h4 (compEnvC scope cl H3.objs.size env) ρc := comp_frame W K F1 g14 (fun c hlt q => q.elim id fun q => by have := aeq q; omega)
    (fun c q => q.elim (fun q => (F1.xs.le g14) c q) fun q => ⟨_, q ▸ hD⟩) (W.fresh h1 F1.g _ (by omega)) hns
  have mN : ∀ c, h1.objs.size ≤ c → c ≠ H3.objs.size → ¬ Mut (compEnvC scope cl H3.objs.size env) c := fun c hle hne m => by
    rcases comp_mut K m with m | m
    · exact hne m
    · obtain ⟨o', e, _⟩ := Mut.kind F1 m; exact new c hle ⟨o', e⟩
  have st4 : St 0 h4 := T.walks.frame 0 _ _ st fun c hb o' e => old c o' (ane (by
    rcases T.feet c hb with rfl | ⟨⟨o2, e2, _⟩, _⟩
    · omega
    · have := alt e2; omega)) (hH3 ▸ Heap.get?_push_of_some _ e)
  have xN : ∀ c, h1.objs.size ≤ c → ¬ X c := fun c hle q => new c hle (F1.xs c q)
  have loop := comp_loop (elt := elt) (scope := scope) (pos := pos) (gens := ⟨.Name x px, iter, ifs, 0⟩ :: rest) (depth := 0) (env := compEnvC scope cl H3.objs.size env) (tk := t1 + ([] : List (Str × Value)).length) (g := g) (dr := dr) (o := o) (ds := [])
    (Q := fun s' => compPostJ (model prog w) A use Q (.ref (h1.objs.size + 1)) H3.objs.size s') (a := h1.objs.size + 1) W hA rfl hx hl K.kind (ht _)
    (fun i e he hb => step_of W K.kind (W.fresh h1 F1.g _ (by omega)) (hcl _ i e he hb) 1 rfl) hn (.inr rfl) (mN _ (by omega) (ane (by omega))) F4 ⟨[], ⟨_, hD, rfl, _, rfl⟩, rfl⟩ (by simpa using hz) T st4 (mN _ (Nat.le_refl _) (ane (by omega)))
    (fun q => q.elim (xN _ (Nat.le_refl _)) fun q => by have := aeq q; omega) lowI (W.fresh h1 F1.g _ (by omega))
    (fun c hb => by
      show c ≠ H3.objs.size ∧ _
      rcases T.feet c hb with rfl | ⟨⟨o2, e2, _⟩, _⟩
      · exact ⟨ane (by omega), ane (by omega)⟩
      · have := alt e2; exact ⟨ane (by omega), ane (by omega)⟩)
    (fun e v r => r.grow g14 (fun _ q => q.elim) fun c hlt q => q.elim id fun q => by have := aeq q; omega)
    (fun h' t' gr F' ac' => by
      have gl : ∀ h'', Grow (fun c => h1.objs.size ≤ c) h4 h'' → Le h h'' := fun h'' g'' => g1.trans (Grow.fresh ((Grow.any g14).trans g'') new)
      have gr' : Grow (fun c => h1.objs.size ≤ c) h4 h' := gr.mono fun c q => by
        rcases q with (q | q) | q
        · have : @Eq Nat c H3.objs.size := q; omega
        · have := aeq q; omega
        · have := aeq q; omega
      obtain ⟨vs, hv, rv⟩ := ac'
      obtain ⟨m', hm', _⟩ := F'.loc
      refine q (h1.objs.size + 1) H3.objs.size h' t' (gl h' gr') (W.fresh h1 F1.g _ (by omega)) (xN _ (by omega)) (xN _ (by omega)) (ane (by omega)) (fun ⟨o', e⟩ => new H3.objs.size (by omega) (g1.alive (fun q => q) ⟨o', e⟩)) (fun e => new H3.objs.size (by omega) (e ▸ let ⟨_, ⟨o', _, _, e', _⟩, _⟩ := F1.loc; ⟨o', e'⟩))
        (fun m => let ⟨o', e, _⟩ := Mut.kind F1 m; new H3.objs.size (by omega) ⟨o', e⟩) ⟨_, vs, rfl, xN _ (by omega), hv, ?_⟩ ⟨m', hm'⟩ (fun h'' hs'' => gl h'' (gr'.trans ((Grow.same hs'' rfl : Grow (fun c => c = H3.objs.size) h' h'').mono fun c e => by have := aeq e; omega)))
      have rv' : Reps h' (fun c => X c ∨ c = h1.objs.size + 1) ((List.range (items d).length).flatMap outs) vs := by simpa using rv
      exact rv'.grow (.refl no _) (fun _ q => q.elim) fun _ _ q => .inl q)
  exact codeJ_compStart rfl rfl loop (wpJ.of (T.walks.self 0 _ _ _ st4 loop))
theorem ev_comp (W : Glob G Z) {x px iter ifs rest d cl out} {ρc : Rho} {outs : Nat → List D} {b : Nat → Bool} (K : CompOk scope cl env ρ ρc) (h₁ : EvS prog w G Z k env ρ iter d) (hc : CanIter d) (hout : (List.range (items d).length).flatMap outs = out) (hz : out.length ≤ 100000)
    (hx : ρc x = none) (hl : (relabel scope env).names.lookup x = some .local)
    (ht : ∀ C i e, (items d)[i]? = some e → TestsS prog w G Z k (compEnvC scope cl C env) (upd ρc x e) ifs (b i)) (hcl : ∀ C i e, (items d)[i]? = some e → b i = true → Cl prog w G Z k (compEnvC scope cl C env) elt rest (upd ρc x e) (outs i)) (hn : ∀ i, b i = false → outs i = [])
    (hs : ∀ v, foldedSetIterable iter env v = pure v := by intro _; rfl) : EvS prog w G Z k env ρ (.ListComp elt (⟨.Name x px, iter, ifs, 0⟩ :: rest) scope pos) (.lst out) := by
  subst hout
  intro A hA X h g dr tk o F
  rw [eval_ListComp]
  refine comp_run W K h₁ hc hx hl ht hcl hn hz hs hA F fun a C h' t' gl lC xa xC ne fr nl mC r hm hq => ?_
  obtain ⟨m, hm⟩ := hm
  refine ⟨m, hm, fun h'' hs'' => ⟨h'', t', rfl, hq h'' hs'', ?_⟩⟩
  obtain ⟨o', es, ep, ho', hd', _⟩ := hm
  exact r.grow (.same hs'' rfl : Grow (fun c => c = C) h' h'') (fun c e => .inr fun o2 e2 => by rw [e, ho'] at e2; cases e2; exact .dict hd') fun _ _ q => q
end
end Mine
end
noncomputable section
open PySem PySem.W PyProof.Rows
set_option Elab.async false
set_option linter.unusedVariables false
set_option maxRecDepth 100000
namespace Mine
variable {prog : Program} {w : World} {G : Heap → Prop} {Z : Addr → Prop}
theorem rc_bytes {A : Around} {s : Shared} (b c : Array UInt8) (t u : Tok) : SeqAt.RcAt A s (.bytes b t) (.bytes c u) (b.toList == c.toList) := fun prog w E Q h => PySem.W.eq_bytes (A := A) h
theorem eqat_bytes {A : Around} {s : Shared} (b c : Array UInt8) (t u : Tok) : SeqAt.EqAt A s (.bytes b t) (.bytes c u) (b.toList == c.toList) := fun prog w E Q h => by
  unfold eqBool
  refine wpAny_holding ?_
  refine wpAny_ite_split (fun hab => ?_) (fun _ => ?_)
  · have e : b = c := by have := eq_of_beq hab; injection this
    subst e
    exact wpAny_bind (wpAny_rule (wpAny_pure (by simpa using h)))
  · exact wpAny_bind (rc_bytes b c t u prog w E _ (wpAny_truthy_bool h))
theorem reps_bytes {X : Addr → Prop} {h : Heap} {l : List (List UInt8)} {vs : List Value} (r : Reps h X (l.map D.bytes) vs) {j : Nat} {v : Value} (hv : vs[j]? = some v) : ∃ b t, l[j]? = some b ∧ v = .bytes b.toArray t := by
  have hj : j < l.length := by have := (List.getElem?_eq_some_iff.mp hv).1; rw [r.length, List.length_map] at this; exact this
  obtain ⟨v', hv', t, rfl⟩ := r.get (i := j) (d := .bytes l[j]) (by simp [hj])
  rw [hv] at hv'; cases hv'
  exact ⟨l[j], t, by simp [hj], rfl⟩
theorem cmp_ne_rows {l m : List (List UInt8)} : CmpS prog w G .NotEq (.lst (l.map D.bytes)) (.lst (m.map D.bytes)) (l != m) := by
  rintro A hA X h g dr tk o _ _ hg hx ⟨a, vs, rfl, hxa, hl, rs⟩ ⟨b, ws, rfl, hxb, hm, rt⟩
  have zl : vs.length = l.length := by rw [rs.length, List.length_map]
  have zm : ws.length = m.length := by rw [rt.length, List.length_map]
  by_cases hz : l.length = m.length
  · have key := SeqAt.RcNeAt.lists (A := A) (s := ⟨h, g, dr, tk, o⟩) (e := fun j => l[j]? == m[j]?) hl hm (by simp; omega) hA.un (fun j h1 h2 => by
      have h1' : j < vs.length := by simpa using h1
      have h2' : j < ws.length := by simpa using h2
      obtain ⟨b1, t1, e1, q1⟩ := reps_bytes rs (v := vs[j]) (List.getElem?_eq_getElem h1')
      obtain ⟨b2, t2, e2, q2⟩ := reps_bytes rt (v := ws[j]) (List.getElem?_eq_getElem h2')
      have : SeqAt.EqAt A.in1 ⟨h, g, dr, tk, o⟩ vs[j] ws[j] (l[j]? == m[j]?) := by
        rw [q1, q2, e1, e2]
        have := eqat_bytes (A := A.in1) (s := ⟨h, g, dr, tk, o⟩) b1.toArray b2.toArray t1 t2
        simpa using this
      simpa using this)
    refine wpJ.of (key prog w _ _ ?_)
    refine ⟨h, tk, rfl, .refl _ _, ?_⟩
    show Value.bool _ = Value.bool _
    congr 1
    rw [bne, Bool.not_inj_iff, Bool.eq_iff_iff, List.all_eq_true, beq_iff_eq]
    constructor
    · intro q
      refine List.ext_getElem? fun i => ?_
      by_cases hi : i < l.length
      · exact eq_of_beq (q i (by simp; omega))
      · rw [List.getElem?_eq_none (by omega), List.getElem?_eq_none (by omega)]
    · rintro rfl; intro i _; simp
  · refine wpJ.of (SeqAt.RcNeAt.lists_lengths (A := A) (s := ⟨h, g, dr, tk, o⟩) hl hm (by simp; omega) hA.un prog w _ _ ⟨h, tk, rfl, .refl _ _, ?_⟩)
    show Value.bool _ = Value.bool _
    congr 1
    rw [eq_comm, bne_iff_ne]
    rintro rfl; exact hz rfl
theorem cmp_eq_pair {b c : List UInt8} {i j : Int} : CmpS prog w G .Eq (.tup [.bytes b, .int i]) (.tup [.bytes c, .int j]) (b == c && i == j) := by
  rintro A hA X h g dr tk o _ _ hg hx ⟨a, vs, rfl, hxa, hl, ⟨v1, vs1, rfl, ⟨t1, rfl⟩, v2, vs2, rfl, ⟨t2, rfl⟩, rfl⟩⟩ ⟨a', ws, rfl, hxb, hm, ⟨w1, ws1, rfl, ⟨u1, rfl⟩, w2, ws2, rfl, ⟨u2, rfl⟩, rfl⟩⟩
  have key := SeqAt.RcAt.tuples (A := A) (s := ⟨h, g, dr, tk, o⟩) (e := fun n => if n = 0 then b == c else i == j) hl hm hA.un (fun n h1 h2 => by
    match n, h1 with
    | 0, _ => simpa using eqat_bytes (A := A.in1) (s := ⟨h, g, dr, tk, o⟩) b.toArray c.toArray t1 u1
    | 1, _ => exact SeqAt.EqAt.int_int i t2 j u2
    | n + 2, h1 => simp at h1; omega)
  refine wpJ.of (key prog w _ _ ⟨h, tk, rfl, .refl _ _, ?_⟩)
  show Value.bool _ = Value.bool _
  congr 1
  simp [List.range_succ]
section
variable {k : Nat} {env : Env} {ρ : Rho}
theorem test_or (W : Glob G Z) {x y pos b c} (h₁ : TestS prog w G Z k env ρ x b) (h₂ : b = false → TestS prog w G Z k env ρ y c) : TestS prog w G Z k env ρ (.BoolOp .Or [x, y] pos) (b || c) := by
  intro A hA X h g dr tk o F
  rw [arm_isTrue_BoolOp]
  unfold allTrue
  refine wpJ_bind (h₁.use hA F fun h' t' v g₁ r₁ => ?_)
  subst r₁
  cases v with
  | true => exact wpJ_pure ⟨h', t', rfl, g₁, rfl⟩
  | false =>
    show wpJ _ A (allTrue .Or [y] env) _ _
    unfold allTrue
    refine wpJ_bind ((h₂ rfl).use hA (F.le W g₁) fun h3 t3 v3 g₃ r₃ => ?_)
    subst r₃
    cases v3 with
    | true => exact wpJ_pure ⟨h3, t3, rfl, g₁.trans g₃, rfl⟩
    | false => exact wpJ_pure ⟨h3, t3, rfl, g₁.trans g₃, rfl⟩
end
end Mine
end
noncomputable section
open PySem PySem.W PyProof.Rows
set_option Elab.async false
set_option linter.unusedVariables false
set_option maxRecDepth 100000
namespace Mine
variable {prog : Program} {w : World} {G : Heap → Prop} {Z : Addr → Prop}
/-- from here on all that is there stays as it is, but for E -/
theorem Glob.freeze (W : Glob G Z) (E : Addr → Prop) (h : Heap) : Glob (fun h' => G h' ∧ Grow E h h') (fun b => Z b ∨ ((∃ o, h.get? b = some o) ∧ ¬ E b)) where
  grow := fun S h' h'' hS g ⟨hg, g'⟩ => by
    refine ⟨W.grow S h' h'' (fun a s z => hS a s (.inl z)) g hg, ⟨fun b o ne e => ?_⟩⟩
    have nS : ¬ S b := fun s => hS b s (.inr ⟨⟨o, e⟩, ne⟩)
    exact g.old b o nS (g'.old b o ne e)
  lim := fun h' g => W.lim h' g.1
  fresh := fun h' ⟨hg, g'⟩ a hle q => q.elim (W.fresh h' hg a hle) fun ⟨al, ne⟩ => by
    obtain ⟨o, e⟩ := g'.alive ne al
    have := alt e; omega
section
variable {A : Around} {s : Shared} {env : Env}
theorem codeJ_expr {e : Expr} {Q : Flow → Shared → Prop} (h : wpJ (model prog w) (A.deeper env) (eval e env) (fun v s' => Q (.ret v) s') s) : codeJ (model prog w) A (.expr e env) Q s := by
  refine codeJ_of_tree ?_
  show wpJ _ (A.deeper env) (do point; ret (← (eval e env).onRaise (leaving env))) _ s
  exact wpJ_bind (wpJ.of (wpAny_point (wpJ_bind (wpJ_onRaise (wpJ_mono h fun v s' h' => wpJ_pure h')))))
/-- the frame of a call with a closure and no cells of its own -/
noncomputable abbrev cloEnv (fd : FuncData) (L a : Addr) : Env := newEnv fd.scope L fd.globals fd.closure (fd.qualname ++ ".<locals>.") (some a) fd.code none fd.builtins
theorem codeJ_call_clo {Q : Flow → Shared → Prop} {a : Addr} {o : Obj} {fd : FuncData} {vals : List Value} {binds : List (Str × Value)}
    (hroom : A.depth < recursionLimit) (ho : s.heap.get? a = some o) (hdata : o.data = .func fd) (hlim : s.heap.NoLimit) (hcd : s.heap.CodeRec fd.code fd.qualname)
    (hbind : wpAny (model prog w) A.in1 (bindArgs fd ⟨vals, []⟩) (fun b s' => b = binds ∧ s' = s) noE s) (hcell : ∀ x ∈ fd.scope.names, x.2 ≠ .cell) (hl : ∀ x ∈ binds, fd.scope.names.lookup x.1 = some .local)
    (h : ∀ h', h'.Ns s.heap.objs.size (fun x => binds.reverse.lookup x) → Le s.heap h' → codeJ (model prog w) A (match fd.body with | .stmts b => .func b (cloEnv fd s.heap.objs.size a) | .expr e => .expr e (cloEnv fd s.heap.objs.size a)) Q { s with heap := h', toks := s.toks + binds.length })
    (hco : fd.scope.isCoroutine = false) (hgen : fd.scope.isGenerator = false) (hk : fd.scope.kind = .function) :
    codeJ (model prog w) A (.call (.ref a) ⟨vals, []⟩) Q s := by
  refine codeJ_of_tree ?_
  show wpJ _ A.in1 (callAny (.ref a) ⟨vals, []⟩) _ s
  simp only [callAny]
  refine wpJ_bind (wpJ.of (wpAny_load ho ?_))
  obtain ⟨c, oc, vs, tq, hc, hoc, hdc, hq⟩ := hcd
  simp only [hdata, callFunction, hco, hgen]
  unfold cloEnv at h
  rw [hc] at h ⊢
  refine wpJ_bind (m := field (.ref c) 1) (wpJ.of (wpAny_field hoc hdc hq (wpJ_bind (wpJ_pure ?_))))
  refine wpJ_bind (wpJ_mono (wpJ.of hbind) fun b s' hb => ?_)
  obtain ⟨rfl, rfl⟩ := hb
  refine wpJ_bind (wpJ.of (wpAny_newFunctionEnv hcell hl (fun h' hn hs => ?_) hk))
  have g : Le s'.heap h' := .keeps fun b o e => hs.extBut b o (Nat.ne_of_lt (Heap.lt_size e)) (Heap.get?_push_of_some _ e)
  refine wpJ_bind (wpJ.of (wpAny_enterFrame (hlim.keeps fun b o e => hs.extBut b o (Nat.ne_of_lt (Heap.lt_size e)) (Heap.get?_push_of_some _ e)) hroom (wpJ_pure ⟨?_, ?_, h h' hn g⟩)))
  · cases fd.body <;> rfl
  · cases fd.body <;> rfl
end
theorem bind_rev {h : Heap} {X : Addr → Prop} {P : Str → Prop} : ∀ (xs : List Str) (ds : List D) (vs : List Value), Reps h X ds vs → ∀ (acc : List (Str × Value)) (ρ : Rho), (∀ y e, ρ y = some e → P y → ∃ v, acc.lookup y = some v ∧ Rep h X e v) →
    ∀ y e, bindR xs ds ρ y = some e → P y → ∃ v, ((xs.zip vs).reverse ++ acc).lookup y = some v ∧ Rep h X e v
  | [], _, _, _, acc, ρ, q => by intro y e he; simpa [bindR] using q y e he
  | _ :: _, [], vs, r, acc, ρ, q => by cases r; intro y e he; simpa [bindR] using q y e he
  | x :: xs, d :: ds, _, ⟨v, vs, rfl, r, rs⟩, acc, ρ, q => by
    intro y e he py
    have := bind_rev (P := P) xs ds vs rs ((x, v) :: acc) (upd ρ x d) (fun y e hy py => by
      unfold upd at hy
      by_cases hx : y = x
      · rw [if_pos hx] at hy; cases hy; exact ⟨v, by rw [List.lookup_cons, hx]; simp, r⟩
      · rw [if_neg hx] at hy
        obtain ⟨v', h1, h2⟩ := q y e hy py
        exact ⟨v', by rw [List.lookup_cons, beq_false_of_ne hx]; exact h1, h2⟩) y e he py
    simpa using this
theorem bindR_out : ∀ (xs : List Str) (ds : List D) (ρ : Rho) (y : Str), y ∉ xs → bindR xs ds ρ y = ρ y
  | [], _, _, _, _ => by simp [bindR]
  | _ :: _, [], _, _, _ => by simp [bindR]
  | x :: xs, d :: ds, ρ, y, h => by
    simp only [List.mem_cons, not_or] at h
    rw [bindR, bindR_out xs ds _ y h.2]
    unfold upd; rw [if_neg h.1]
/-- a function with a closure: frees in ρ₀ -/
structure Clo (G : Heap → Prop) (a : Addr) (fd : FuncData) (ρ₀ : Rho) : Prop where
  obj : ∀ h, G h → ∃ o, h.get? a = some o ∧ o.data = .func fd ∧ h.CodeRec fd.code fd.qualname
  frees : ∀ y d, ρ₀ y = some d → fd.scope.names.lookup y ≠ some .local ∧ ∃ c, fd.closure.lookup y = some c ∧ ∀ h X, G h → Alive X h → ∃ v, h.IsCell c (some v) ∧ Rep h X d v
  apart : ∀ x y c, fd.closure.lookup x = some c → fd.closure.lookup y = some c → x = y
theorem lookup_cell_none : ∀ {l : List (Str × NameKind)} {x : Str}, (∀ y ∈ l, y.2 ≠ .cell) → l.lookup x ≠ some .cell
  | [], _, _ => nofun
  | (n, k) :: r, x, h => by
    rw [List.lookup_cons]
    cases hx : x == n with
    | true => intro q; cases q; exact h (n, .cell) List.mem_cons_self rfl
    | false => exact lookup_cell_none fun y hy => h y (List.mem_cons_of_mem _ hy)
theorem call_clo (W : Glob G Z) {a : Addr} {fd : FuncData} {names : List Str} {ds : List D} {d : D} {k : Nat} {ρ₀ : Rho} (C : Clo G a fd ρ₀)
    (hbind : ∀ A s (vs : List Value), G s.heap → vs.length = ds.length → wpAny (model prog w) A (bindArgs fd ⟨vs, []⟩) (fun b s' => b = names.zip vs ∧ s' = s) noE s)
    (hloc : ∀ x ∈ names, fd.scope.names.lookup x = some .local) (hcell : ∀ x ∈ fd.scope.names, x.2 ≠ .cell)
    (H : ∀ L, ¬ Z L → match fd.body with
      | .stmts b => ∃ ρ', ExsS prog w G Z k (cloEnv fd L a) (bindR names ds ρ₀) b (.ret d) ρ'
      | .expr e => EvS prog w G Z k (cloEnv fd L a) (bindR names ds ρ₀) e d)
    (hco : fd.scope.isCoroutine = false := by rfl) (hgen : fd.scope.isGenerator = false := by rfl) (hk : fd.scope.kind = .function := by rfl) : CallS prog w G (k + 1) (.ref a) ds d := by
  intro A hA X h g dr tk o vs hg hx r
  obtain ⟨ob, ho, hd, hcr⟩ := C.obj h hg
  refine wpJ_call (codeJ_call_clo (binds := names.zip vs) hA.lt ho hd (W.lim h hg) hcr (hbind _ _ vs hg r.length) hcell (fun x hm => hloc x.1 (List.of_mem_zip hm).1) (fun h' hn gr => ?_) hco hgen hk)
  have hg' := W.grow no h h' (fun _ x => x.elim) gr hg
  have kL : ∀ y, (cloEnv fd h.objs.size a).kindOf y = fd.scope.names.lookup y := fun y => rfl
  have F : Fok G Z X h' (cloEnv fd h.objs.size a) (bindR names ds ρ₀) := by
    refine ⟨hg', hx.le gr, W.fresh h hg _ (Nat.le_refl _), ⟨_, hn, fun y e he ky => ?_⟩, fun y e he ky => ?_, fun y ky => ?_, C.apart⟩
    · have := bind_rev (h := h') (X := X) (P := fun y => fd.scope.names.lookup y = some .local) names ds vs (r.le gr) [] ρ₀ (fun y e hy ky => absurd ky (C.frees y e hy).1) y e he ky
      simpa using this
    · have : y ∉ names := fun m => ky (hloc y m)
      rw [bindR_out names ds ρ₀ y this] at he
      obtain ⟨_, c, hc, hv⟩ := C.frees y e he
      obtain ⟨v, hi, rv⟩ := hv h' X hg' (hx.le gr)
      exact ⟨c, v, hc, hi, rv⟩
    · exact absurd ky (lookup_cell_none hcell)
  have fin : ∀ h'', Grow (Mut (cloEnv fd h.objs.size a)) h' h'' → Le h h'' := fun h'' gm => Grow.cut (S := no) (.refl no h) (((Grow.any gr).trans gm).mono fun b q => .inr q) fun b q => by
    rcases q with q | ⟨y, ky, _⟩
    · have q' : b = h.objs.size := q
      rintro ⟨o', e⟩
      have := alt e; have := aeq q'; omega
    · exact absurd ky (lookup_cell_none hcell)
  have HH := H h.objs.size (W.fresh h hg _ (Nat.le_refl _))
  cases hb : fd.body with
  | stmts b =>
    rw [hb] at HH
    obtain ⟨ρ', HH⟩ := HH
    exact codeJ_func (wpJ_mono (HH _ hA.deeper X h' g dr _ o F) fun f s' ⟨h'', t'', e, gm, ⟨v, hv, rv⟩, F'⟩ => by subst hv; exact ⟨v, rfl, h'', t'', e, fin h'' gm, rv⟩)
  | expr e =>
    rw [hb] at HH
    exact codeJ_expr (wpJ_mono (HH _ hA.deeper X h' g dr _ o F) fun v s' ⟨h'', t'', e, gm, rv⟩ => ⟨v, rfl, h'', t'', e, gr.trans gm, rv⟩)
end Mine
end
noncomputable section
open PySem PySem.W PySem.Calls PyProof.Rows
set_option Elab.async false
set_option linter.unusedVariables false
set_option maxRecDepth 100000
namespace Mine
variable {prog : Program} {w : World} {G : Heap → Prop} {Z : Addr → Prop}
theorem Started.of_in1 {A : Around} {X h d fp P St} (T : Started prog w A.in1 X h d fp P St) : Started prog w A X h d fp P St := ⟨T.walks.of_in1, T.item, T.feet, T.named, T.bare⟩
theorem call_iter {A : Around} (hh : A.handled = none) {X h g dr tk o d v} (hc : CanIter d) (r : Rep h X d v) {Q : Value → Shared → Prop} {E : Value → Shared → Prop}
    (q : ∀ fp P St ob, Started prog w A X h d fp P St → St 0 (h.push ob) → Q (.ref h.objs.size) ⟨h.push ob, g, dr, tk, o⟩) : wpAny (model prog w) A (call (.builtin "iter") [v]) Q E ⟨h, g, dr, tk, o⟩ := by
  refine call_function_entry (by decide +kernel) (by decide +kernel) kdk_entry_iter (kdk_args_iter _) ?_
  unfold Builtin.«iter»
  refine wpAny_bind (m := someArgs "iter" 1 2 _) (wpAny_of_eq (a := [v]) (by first | rfl | kernel_rfl!) ?_)
  show wpAny _ _ (pyIter v >>= _) _ _ _
  exact wpAny_bind (start_iter (A := A.in1) hh hc r fun fp P St ob T st => wpAny_pure ⟨_, rfl, q fp P St ob T.of_in1 st⟩)
section
variable {k : Nat} {env : Env} {ρ ρ' : Rho}
/-- x = iter(e); mid; for y in x: ..; what follows -/
theorem exs_iter_for (W : Glob G Z) {x px q p' e pos pos' mid y py pxx body fpos rest d dd} {ρs : Addr → Nat → Rho} {N : Nat} (hN : (items d).length = N)
    (hg : EvS prog w G Z k env ρ (.Name q p') (.val (.builtin "iter"))) (h₁ : EvS prog w G Z k env ρ e d) (hc : CanIter d)
    (hmid : ∀ I, ExS prog w G Z k env (upd ρ x (.val (.ref I))) mid .next (ρs I 0)) (hx : ∀ I, EvS prog w G Z k env (ρs I 0) (.Name x pxx) (.val (.ref I)))
    (hb : ∀ I i e, (items d)[i]? = some e → ExsS prog w G Z k env (upd (ρs I i) y e) body .next (ρs I (i + 1)))
    (hr : ∀ I, ExsS prog w G Z k env (ρs I N) rest (.ret dd) ρ')
    (hl : env.kindOf x = some .local ∨ env.kindOf x = some .cell := by first | exact .inl rfl | exact .inr rfl) (hly : env.kindOf y = some .local ∨ env.kindOf y = some .cell := by first | exact .inl rfl | exact .inr rfl) (hf : env.scope.kind = .function := by rfl)
    (hse : starEach [e] env = [(false, eval e env)] := by rfl)
    (hs : swapsWith (.Call (.Name q p') [e] [] pos') (some (.Name x px)) pos.line env = pure false := by rfl)
    (hs' : ∀ v, foldedSetIterable (.Name x pxx) env v = pure v := by intro _; rfl) :
    ExsS prog w G Z k env ρ (.Assign [.Name x px] (.Call (.Name q p') [e] [] pos') pos :: mid :: .For (.Name y py) (.Name x pxx) body [] fpos :: rest) (.ret dd) ρ' := by
  subst hN
  intro A hA X h g dr tk o F
  refine jExecs_cons (jAssign (jCall_Name (hg.use hA F fun h0 t0 v0 g0 r0 => ?_)) hs)
  cases r0
  rw [hse]
  refine jCallWith rfl (Nat.le_of_ble_eq_true rfl) (jSpliced_cons (h₁.use hA (F.le W g0) fun h1 t1 v g01 r1 => jSpliced_nil ⟨⟨.machine, .inr rfl, fun q => wpAny_pure q⟩, ?_⟩))
  have g1 := g0.trans g01
  have F1 := F.le W g1
  refine wpJ.of (call_iter hA.handled hc r1 fun fp P' St ob T st => ?_)
  have nI : ¬ ∃ o, h1.get? h1.objs.size = some o := fun ⟨_, e⟩ => Nat.lt_irrefl _ (Heap.lt_size e)
  have mI : ¬ Mut env h1.objs.size := fun m => let ⟨o', e, _⟩ := Mut.kind F1 m; nI ⟨o', e⟩
  have xI : ¬ X h1.objs.size := fun q => nI (F1.xs _ q)
  have lowI : ¬ Z h1.objs.size := W.fresh h1 F1.g _ (Nat.le_refl _)
  have ft : ∀ b ∈ fp, ¬ Mut env b := fun b hb q => by
    rcases T.feet b hb with rfl | ⟨⟨o', e, xs, n, hd⟩, hx⟩
    · exact mI q
    · obtain ⟨o2, e2, k2⟩ := Mut.kind F1 q
      rw [e] at e2; cases e2
      rcases k2 with ⟨_, _, k2⟩ | ⟨_, k2⟩ <;> (rw [hd] at k2; cases k2)
  have keep : ∀ {i H H'}, St i H → Grow (Mut env) H H' → St i H' := fun {i H H'} st gr => T.walks.frame i H H' st fun b hb o' e' => gr.get (ft b hb) e' (T.named i H st b hb o' e')
  refine store_S W hl hf (F1.le W (.push _ _)) (d := .val (.ref h1.objs.size)) rfl fun h3 t3 g3 F3 => ?_
  have st3 := keep st g3
  refine jExecs_cons ((hmid h1.objs.size).use hA F3 fun h4 t4 fl g4 r4 => ?_)
  obtain ⟨rfl, F4⟩ := r4
  have st4 := keep st3 g4
  refine jExecs_cons (jFor ((hx h1.objs.size).use hA F4 fun h5 t5 v5 g5 r5 => ?_) hs')
  cases r5
  have F5 := F4.le W g5
  have st5 := keep st4 (.any g5)
  refine wpJ.of (T.walks.self 0 _ _ _ st5 ?_)
  have g15 : Grow (fun b => Mut env b ∨ b = h1.objs.size) h1 h5 := (((Grow.any (.push h1 ob)).trans g3).trans (g4.trans (.any g5))).mono fun _ => .inl
  refine codeJ_forLoop (fun n s => ∃ i H tk', i ≤ (items d).length ∧ n = (items d).length - i ∧ s = ⟨H, g, dr, tk', o⟩ ∧ St i H ∧ Fok G Z X H env (ρs h1.objs.size i) ∧ Grow (fun b => Mut env b ∨ b = h1.objs.size) h1 H) ?_ (items d).length
    ⟨0, _, _, Nat.zero_le _, rfl, rfl, st5, F5, g15⟩
  rintro n s ⟨i, H, tk', hi, rfl, rfl, stH, FH, gH⟩
  have step : ∀ H1, (∀ b o, b ∉ [h1.objs.size] → H.get? b = some o → H1.get? b = some o) → Fok G Z X H1 env (ρs h1.objs.size i) ∧ Grow (fun b => Mut env b ∨ b = h1.objs.size) h1 H1 := fun H1 kp => by
    have gI : Grow (fun b => b = h1.objs.size) H H1 := ⟨fun b o' nb e => kp b o' (by simpa using nb) e⟩
    refine ⟨FH.turn W gI (fun b e => e ▸ lowI) (fun b e q => absurd (e ▸ q) xI) (fun b e => ?_), gH.trans (gI.mono fun b e => .inr e)⟩
    obtain ⟨o', e', b1, b2, b3⟩ := T.bare i H stH
    exact ⟨o', e ▸ e', .inr b1, b2, b3⟩
  by_cases hlt : i < (items d).length
  · refine wpJ.of <| T.walks.item i _ _ _ hlt stH fun v' H1 tk1 hPv stH1 kp => ?_
    obtain ⟨F1', g1'⟩ := step H1 kp
    obtain ⟨e, he, re⟩ := T.item i v' hPv
    have re' : Rep H1 X e v' := re.grow g1' (fun b q => by
      rcases q with q | q
      · exact .inr (Mut.noSeq F1 q)
      · exact .inr fun o' e' => absurd ⟨o', q ▸ e'⟩ nI) fun _ _ x => x
    refine jAssignName (store_S W hly hf F1' re' fun H2 t2 g2 F2 => ?_)
    refine (hb _ i e he).use hA F2 fun H3 t3 r g3 er => ?_
    obtain ⟨rfl, F3⟩ := er
    exact ⟨(items d).length - (i + 1), by omega, i + 1, H3, t3, hlt, rfl, rfl, keep stH1 (g2.trans g3), F3, g1'.trans ((g2.trans g3).mono fun b q => .inl q)⟩
  · have hi' : i = (items d).length := by omega
    refine wpJ.of <| T.walks.done _ _ _ (hi' ▸ stH) fun H1 tk1 kp => ?_
    obtain ⟨F1', g1'⟩ := step H1 kp
    refine jExecs_nil ((hr h1.objs.size).use hA (hi' ▸ F1') fun h6 t6 r6 g6 q6 => ?_)
    obtain ⟨⟨v6, rfl, rv6⟩, F6⟩ := q6
    exact ⟨h6, t6, rfl, Grow.cut g1 (g1'.trans (g6.mono fun _ => .inl)) fun b e => e ▸ nI, ⟨v6, rfl, rv6⟩, F6⟩
end
/-- no datum of ours is that object -/
theorem cmp_is_obj {d : D} {m : Addr} (ho : ∀ h, G h → ∃ o, h.get? m = some o ∧ o.cls = .type "object") (hd : (∃ l, d = .lst l) ∨ (∃ l, d = .tup l) ∨ ∃ b, d = .bytes b) : CmpS prog w G .Is d (.val (.ref m)) false := by
  rintro A hA X h g dr tk o v _ hg hx r rfl
  obtain ⟨⟨mc, md, mdt, ms⟩, hm, hmc⟩ := ho h hg
  simp only at hmc
  subst hmc
  refine wpJ.of ?_
  show wpAny _ A (do return Value.bool (← isSame v (.ref m))) _ _ _
  refine wpAny_bind ?_
  have fin : Post g dr o no h (fun h' v => Rep h' X (.bool false) v) (Value.bool false) ⟨h, g, dr, tk, o⟩ := ⟨h, tk, rfl, .refl _ _, rfl⟩
  have refc : ∀ {a : Addr} {cl : String} {oa : Obj}, h.get? a = some oa → oa.cls = .type cl → cl ≠ "object" → wpAny (model prog w) A (isSame (.ref a) (.ref m)) (fun b s' => wpAny (model prog w) A (pure (Value.bool b)) (Post g dr o no h fun h' v => Rep h' X (.bool false) v) noE s') noE ⟨h, g, dr, tk, o⟩ := fun {a cl oa} hoa hca hne => by
    have hn : (a == m) = false := beq_false_of_ne fun e => by subst e; rw [hm] at hoa; cases hoa; simp only at hca; injection hca with q; exact hne q.symm
    unfold isSame
    simp only [hn, Bool.false_eq_true, if_false]
    refine wpAny_bind (wpAny_load hoa (wpAny_bind (wpAny_load hm ?_)))
    dsimp only
    split
    · exact absurd ‹Value.type "object" = Value.type "tuple"› (fun q => by injection q with q; exact absurd q (by decide))
    · exact wpAny_pure (wpAny_pure fin)
  rcases hd with ⟨l, rfl⟩ | ⟨l, rfl⟩ | ⟨b, rfl⟩
  · obtain ⟨a, vs, rfl, _, ⟨oa, hoa, hca, _⟩, _⟩ := r
    exact refc hoa hca (by decide)
  · obtain ⟨a, vs, rfl, _, ⟨oa, hoa, hca, _⟩, _⟩ := r
    exact refc hoa hca (by decide)
  · obtain ⟨t, rfl⟩ := r
    exact wpAny_pure (wpAny_pure fin)
end Mine
end
noncomputable section
open PySem PySem.W PySem.Calls PyProof.Rows
set_option Elab.async false
set_option linter.unusedVariables false
set_option maxRecDepth 100000
namespace Mine
variable {prog : Program} {w : World} {G : Heap → Prop} {Z : Addr → Prop}
/-- a new object of one's own -/
noncomputable def NewS (prog : Program) (w : World) (G : Heap → Prop) (Z : Addr → Prop) (k : Nat) (env : Env) (ρ : Rho) (e : Expr) (P : Addr → Heap → Prop) : Prop :=
  ∀ A, Bud k A → ∀ X h g dr tk o, Fok G Z X h env ρ → wpJ (model prog w) A (eval e env) (fun v s' => ∃ a h1 h' t', v = .ref a ∧ s' = ⟨h', g, dr, t', o⟩ ∧ Le h h1 ∧ Le h1 h' ∧ h1.objs.size ≤ a ∧ (∃ ob, h'.get? a = some ob) ∧ P a h') ⟨h, g, dr, tk, o⟩
section
variable {k : Nat} {env : Env} {ρ ρ' : Rho}
theorem exs_own (W : Glob G Z) {x p value pos rest d} {P : Addr → Heap → Prop} (hn : NewS prog w G Z k env ρ value P) (hP : ∀ a, Stab (fun c => c = a) (P a))
    (H : ∀ a, ¬ Z a → ExsO prog w G Z k env (fun c => c = a) (P a) (upd ρ x (.val (.ref a))) rest (.ret d) ρ' (fun _ => True))
    (hl : env.kindOf x = some .local ∨ env.kindOf x = some .cell := by first | exact .inl rfl | exact .inr rfl) (hf : env.scope.kind = .function := by rfl)
    (hs : swapsWith value (some (.Name x p)) pos.line env = pure false := by rfl) : ExsS prog w G Z k env ρ (.Assign [.Name x p] value pos :: rest) (.ret d) ρ' := by
  intro A hA X h g dr tk o F
  refine jExecs_cons (jAssign (wpJ_mono (hn A hA X h g dr tk o F) fun v s' hv => ?_) hs)
  obtain ⟨a, h1, h2, t2, rfl, rfl, g1, g2, hsz, hal, hPa⟩ := hv
  have F1 := F.le W g1
  have hne : ∀ b, b < h1.objs.size → b ≠ a := fun b hb e => by have := aeq e; have : @LT.lt Nat _ b h1.objs.size := hb; omega
  have F2 : Fok G Z (fun b => X b ∨ b = a) h2 env ρ := F1.more W g2 (fun b hb q => q.elim id fun q => absurd q (hne b hb)) (fun b q => q.elim (fun q => (F1.xs.le g2) b q) fun q => q ▸ hal)
  have low : ¬ Z a := W.fresh h1 F1.g _ hsz
  have nal : ¬ ∃ o, h1.get? a = some o := fun ⟨_, e⟩ => hne a (Heap.lt_size e) rfl
  have nM : ¬ Mut env a := fun m => let ⟨o', e, _⟩ := Mut.kind F1 m; nal ⟨o', e⟩
  refine store_S W hl hf F2 (d := .val (.ref a)) rfl fun h3 t3 g3 F3 => ?_
  refine (H _ low).use hA (fun b q => ⟨.inr q, q ▸ nM⟩) F3 (hP a _ h2 h3 g3 (fun b m e => nM (e ▸ m)) hPa) fun h4 t4 r g4 fr F4 _ => ?_
  obtain ⟨v, rfl, rv⟩ := fr
  refine ⟨h4, t4, rfl, Grow.cut g1 ((Grow.any g2).trans ((g3.mono fun _ => .inl).trans g4)) fun b e => e ▸ nal, ⟨v, rfl, rv.grow (.refl no _) (fun _ q => q.elim) fun _ _ q => .inl q⟩, F4.more W (.refl _ _) (fun _ _ q => .inl q) fun b q => F4.xs b (.inl q)⟩
/-- a list of ints -/
noncomputable def IntL (a : Addr) (ns : List Int) (h : Heap) : Prop := ∃ vs, h.IsList a (List.toArray vs) ∧ IntsAre vs ns
theorem stab_intl {a : Addr} {ns : List Int} : Stab (fun c => c = a) (IntL a ns) := fun S h h' g hS ⟨vs, hl, hi⟩ => ⟨vs, g.list (fun s => hS a s rfl) hl, hi⟩
theorem intsAre_rep (i : Int) (t : Tok) : ∀ n, IntsAre (List.replicate n (.int i t)) (List.replicate n i)
  | 0 => .nil
  | n + 1 => .cons i t (intsAre_rep i t n)
theorem foldl_rep (v : Value) : ∀ (n : Nat) (acc : Array Value), List.foldl (fun x1 x2 => x1 ++ x2) acc (List.replicate n #[v]) = acc ++ (List.replicate n v).toArray
  | 0, acc => by simp
  | n + 1, acc => by rw [List.replicate_succ, List.foldl_cons, foldl_rep v n, List.replicate_succ]; apply Array.ext'; simp
/-- [i] * n -/
theorem new_repeat (W : Glob G Z) {e lp en pos} {i n : Int} (h₁ : EvS prog w G Z k env ρ e (.int i)) (h₂ : EvS prog w G Z k env ρ en (.int n)) (n0 : 0 ≤ n) (n1 : n < 100000) (hse : starEach [e] env = [(false, eval e env)] := by rfl) :
    NewS prog w G Z k env ρ (.BinOp (.List [e] lp) .Mult en pos) fun a h => IntL a (List.replicate n.toNat i) h := by
  intro A hA X h g dr tk o F
  refine jBinOp (jList ?_)
  rw [hse]
  refine jSpliced_cons (h₁.use hA F fun h1 t1 v g1 r1 => jSpliced_nil ?_)
  obtain ⟨t, rfl⟩ := r1
  refine wpJ.of (wpAny_newObj_type ?_ (by size_fits))
  refine h₂.use hA ((F.le W g1).le W (.push _ _)) fun h2 t2 v2 g2 r2 => ?_
  obtain ⟨u, rfl⟩ := r2
  have hl : h2.get? h1.objs.size = some { cls := .type "list", dict := none, data := .seq ([Value.int i t] : List Value).toArray, slots := #[] } := g2.get (fun q => q) (Heap.get?_push_size _ rfl) (fun q => nomatch q)
  refine wpJ.of (wpAny_binaryOp_repeat_ref (T := "list") (U := "int") (by decide) ⟨_, hl, rfl⟩ (fun s' => typeIs_int s' n u) noFill_list_mul PySem.F.fills_int_mul PySem.F.slot_int_rmul repeat_list PySem.F.slot_int_index.lookup
    (call_meets PySem.F.slot_int_rmul (typeIs_int _ n u) PySem.F.entry_int_rmul (PySem.F.args_int_rmul_2 _ _) (int___rmul___int_list n u h1.objs.size _ _)
      ⟨hl, rfl, ⟨_, hl, rfl⟩, call_meets PySem.F.slot_list_mul ⟨_, hl, rfl⟩ PySem.F.entry_list_mul (PySem.F.args_list_mul_2 _ _)
        (AutoListH.list___mul___list_int_3 h1.objs.size _ _ n u (by simp [Builtin.List.listFitsIndex]; omega) (by rw [show ([Value.int i t] : List Value).toArray.size = 1 from rfl]; omega) (by simp [Builtin.List.listTooLong, sizeLine]; omega))
        ⟨hl, ?_⟩⟩))
  show Exists _
  refine ⟨h2.objs.size, h2, _, _, rfl, rfl, g1.trans ((Grow.push _ _).trans g2), .push _ _, Nat.le_refl _, ⟨_, Heap.get?_push_size _ rfl⟩, List.replicate n.toNat (.int i t), ⟨_, Heap.get?_push_size _ rfl, rfl, 0, ?_⟩, intsAre_rep i t _⟩
  have := foldl_rep (.int i t) n.toNat #[]
  simp at this ⊢
  rw [this]
end
end Mine
end
noncomputable section
open PySem PySem.W PySem.Calls PyProof.Rows
set_option Elab.async false
set_option linter.unusedVariables false
set_option maxRecDepth 100000
namespace Mine
variable {prog : Program} {w : World} {G : Heap → Prop} {Z : Addr → Prop}
theorem intsAre_set {vs : List Value} {ns : List Int} (h : IntsAre vs ns) (v : Int) (t : Tok) : ∀ n, IntsAre (vs.set n (.int v t)) (ns.set n v) := by
  induction h with
  | nil => intro n; exact .nil
  | cons a u h ih => intro n; cases n with
    | zero => exact .cons v t h
    | succ n => exact .cons a u (ih n)
section
variable {k : Nat} {env : Env} {ρ ρ' : Rho}
theorem ex_set_list (W : Glob G Z) {o i pos' value pos} {a : Addr} {ns : List Int} {n v : Int} (h₀ : EvS prog w G Z k env ρ value (.int v)) (h₁ : EvS prog w G Z k env ρ o (.val (.ref a))) (h₂ : EvS prog w G Z k env ρ i (.int n))
    (hz : ns.length ≤ 100000) (n0 : 0 ≤ n) (n1 : n < ns.length) (hlow : ¬ Z a) (hs : swapsWith value (some (.Subscript o i pos')) pos.line env = pure false := by rfl) :
    ExO prog w G Z k env (fun c => c = a) (IntL a ns) ρ (.Assign [.Subscript o i pos'] value pos) .next ρ (IntL a (ns.set n.toNat v)) := by
  intro A hA X h g dr tk oo hO F hP
  refine jAssignSub (h₀.use hA F fun h1 t1 v1' g1 r1 => h₁.use hA (F.le W g1) fun h2 t2 v2 g2 r2 => h₂.use hA ((F.le W g1).le W g2) fun h3 t3 v3 g3 r3 => ?_) hs
  obtain ⟨tv, rfl⟩ := r1
  cases r2
  obtain ⟨tn, rfl⟩ := r3
  have g13 := (g1.trans g2).trans g3
  obtain ⟨vs, hl, hi⟩ := hP
  have hl3 := g13.list (fun q => q) hl
  have hlen := hi.length
  refine wpJ.of (wpAny_setItem_list hl3 n0 (by omega) (by rw [List.size_toArray]; omega) fun h4 hl4 s4 => ?_)
  have F3 := F.le W g13
  have g4 : Grow (fun c => c = a) h3 h4 := .same s4 rfl
  obtain ⟨oa, hoa, _, na, hda⟩ := id hl3
  refine ⟨h4, t3, rfl, (Grow.any g13).trans (g4.mono fun _ => .inr), rfl, F3.turn W g4 (fun c e => e ▸ hlow) (fun c e _ => let ⟨o4, e4, _⟩ := hl4; ⟨_, e ▸ e4⟩) (fun c e => ⟨_, e ▸ hoa, .inl (hO c e).1, (fun _ _ q => by rw [hda] at q; cases q), (fun _ q => by rw [hda] at q; cases q)⟩), _, ?_, intsAre_set hi v tv n.toNat⟩
  simpa using hl4
/-- return bytes(x) of the frame's own list -/
theorem exs_ret_list (W : Glob G Z) {q p' e pos pos'} {a : Addr} {ns : List Int} (hg : EvS prog w G Z k env ρ (.Name q p') (.val (.type "bytes"))) (h₁ : EvS prog w G Z k env ρ e (.val (.ref a))) (hz : ns.length ≤ 100000) (hr : ∀ n ∈ ns, 0 ≤ n ∧ n < 256) (hse : starEach [e] env = [(false, eval e env)] := by rfl) :
    ExsO prog w G Z k env (fun c => c = a) (IntL a ns) ρ [.Return (some (.Call (.Name q p') [e] [] pos')) pos] (.ret (.bytes (ns.map fun n => n.toNat.toUInt8))) ρ (fun _ => True) := by
  intro A hA X h g dr tk o hO F hP
  refine jExecs_cons (jReturn (jCall_Name (hg.use hA F fun h0 t0 v0 g0 r0 => ?_)))
  cases r0
  rw [hse]
  refine jCallWith rfl (Nat.le_of_ble_eq_true rfl) (jSpliced_cons (h₁.use hA (F.le W g0) fun h1 t1 v g1 r1 => jSpliced_nil ⟨⟨.machine, .inr rfl, fun q => wpAny_pure q⟩, ?_⟩))
  cases r1
  have g01 := g0.trans g1
  obtain ⟨vs, hl, hi⟩ := hP
  refine wpJ.of (call_bytes_ints (g01.list (fun q => q) hl) hi hr (by rw [hi.length]; simp only [sizeLine]; omega) hA.handled fun h' t k' hk => ?_)
  have g2 : Le h1 h' := .keeps hk
  exact ⟨h', k', rfl, .any (g01.trans g2), ⟨_, rfl, t, rfl⟩, F.le W (g01.trans g2), trivial⟩
end
end Mine
end
noncomputable section
open PySem PySem.W PySem.W.X PyProof.Rows
set_option Elab.async false
set_option linter.unusedVariables false
set_option maxRecDepth 100000
namespace Mine
/-- one entry of the ledger is changed -/
inductive Put (a : Addr) (o o' : Obj) : List (Addr × Obj) → List (Addr × Obj) → Prop
  | here {l} : Put a o o' ((a, o) :: l) ((a, o') :: l)
  | there {p l l'} : Put a o o' l l' → Put a o o' (p :: l) (p :: l')
theorem Put.idx {a o o'} : ∀ {l l' : List (Addr × Obj)}, Put a o o' l l' → ∃ i, l[i]? = some (a, o) ∧ l.set i (a, o') = l'
  | _, _, .here => ⟨0, rfl, rfl⟩
  | _, _, .there p => let ⟨i, e1, e2⟩ := p.idx; ⟨i + 1, by simpa using e1, by simp [e2]⟩
section
variable {M : Model} {A : Around} {E : Value → Shared → Prop} {h₀ h : Heap} {g : Array GenState} {d : Drawn} {t : Nat} {os : OsState} {chg news news' : List (Addr × Obj)}
theorem mm_at (D : Mem h₀ h chg news) {a : Addr} {o : Obj} (m : (a, o) ∈ news) : h.get? a = some o := (D.nw _ m).1
theorem mm_old (D : Mem h₀ h [] news) {a : Addr} {o : Obj} (e : h₀.get? a = some o) : h.get? a = some o := D.old a o e (by simp [away])
theorem m_alloc {o : Obj} {Q : Addr → Shared → Prop} (D : Mem h₀ h chg news) (hf : o.isFreed = false) (q : ∀ a h', Mem h₀ h' chg ((a, o) :: news) → Q a ⟨h', g, d, t, os⟩) : wpAny M A (alloc o) Q E ⟨h, g, d, t, os⟩ :=
  wpAny_alloc (q _ _ (D.alloc hf))
theorem m_upd {a : Addr} {o o' : Obj} {f : Obj → Obj} {h'' : Heap} (D : Mem h₀ h chg news) (p : Put a o o' news news') (he : f o = o') (hf : o'.isFreed = false) : Mem h₀ (h.update a f) chg news' := by
  obtain ⟨i, e1, e2⟩ := p.idx
  subst he
  have := D.update (i := i) (f := f) e1 hf
  rw [e2] at this
  exact this
theorem Put.mem {a o o'} : ∀ {l l' : List (Addr × Obj)}, Put a o o' l l' → (a, o) ∈ l
  | _, _, .here => List.mem_cons_self
  | _, _, .there p => List.mem_cons_of_mem _ p.mem
theorem m_update {a : Addr} {o o' : Obj} {f : Obj → Obj} {Q : Unit → Shared → Prop} (D : Mem h₀ h chg news) (p : Put a o o' news news') (he : f o = o') (hf : o'.isFreed = false) (q : ∀ h', Mem h₀ h' chg news' → Q () ⟨h', g, d, t, os⟩) : wpAny M A (update a f) Q E ⟨h, g, d, t, os⟩ :=
  wpAny_update (mm_at D p.mem) (q _ (m_upd (h'' := h) D p he hf))
theorem m_updatePart {a : Addr} {part : Option Value} {o o' : Obj} {f : Obj → Obj} {Q : Unit → Shared → Prop} (D : Mem h₀ h chg news) (p : Put a o o' news news') (he : f o = o') (hf : o'.isFreed = false) (q : ∀ h', Mem h₀ h' chg news' → Q () ⟨h', g, d, t, os⟩) : wpAny M A (updatePart a part f) Q E ⟨h, g, d, t, os⟩ :=
  wpAny_updatePart (mm_at D p.mem) (q _ (m_upd (h'' := h) D p he hf))
theorem small_fits {α : Type} {vs : List α} {k : Nat} (hz : Nat.ble vs.length 1000 = true) : vs.toArray.size ≤ sizeLine + k := by
  have := Nat.le_of_ble_eq_true hz
  rw [List.size_toArray]
  unfold sizeLine
  omega
theorem m_newFields {ty : String} {vs : List Value} {Q : Value → Shared → Prop} (D : Mem h₀ h chg news) (hz : Nat.ble vs.length 1000 = true) (q : ∀ a h', Mem h₀ h' chg ((a, { cls := .type ty, data := .fields vs.toArray }) :: news) → Q (.ref a) ⟨h', g, d, t, os⟩) : wpAny M A (newFields ty vs) Q E ⟨h, g, d, t, os⟩ :=
  wpAny_newObj_type (q _ _ (D.alloc rfl)) (small_fits hz)
/-- a dict of the ledger -/
noncomputable abbrev dobj (es : List DictEntry) (n : Nat) : Obj := { cls := .type "dict", data := .dict es.toArray n }
theorem m_newDict {es : List DictEntry} {n : Nat} {Q : Value → Shared → Prop} (D : Mem h₀ h chg news) (hz : Nat.ble es.length 1000 = true) (q : ∀ a h', Mem h₀ h' chg ((a, dobj es n) :: news) → Q (.ref a) ⟨h', g, d, t, os⟩) : wpAny M A (newObj (.type "dict") (.dict es.toArray n)) Q E ⟨h, g, d, t, os⟩ :=
  wpAny_newObj_type (q _ _ (D.alloc rfl)) (small_fits hz)
theorem m_nsGet {a : Addr} {name : Str} {o : Obj} {r : Option Value} {Q : Option Value → Shared → Prop} (ho : h.get? a = some o) (e : nsLook name o = pure r) (q : Q r ⟨h, g, d, t, os⟩) : wpAny M A (nsGet a name) Q E ⟨h, g, d, t, os⟩ := by
  unfold nsGet
  exact wpAny_bind (wpAny_loadPart ho (wpAny_of_eq e q))
theorem m_nsSet {a : Addr} {name : Str} {v : Value} {es : List DictEntry} {n n' : Nat} {es' : Int → Value → List DictEntry} {news'' : Int → Value → List (Addr × Obj)} {Q : Unit → Shared → Prop} (D : Mem h₀ h chg news) (e1 : aRefKeyMayBeTheName name es.toArray = false)
    (p : ∀ k x, Put a (dobj es n) (dobj (es' k x) n') news (news'' k x)) (e2 : ∀ k x, Obj.putName name k x v (dobj es n) = dobj (es' k x) n')
    (q : ∀ k h', Mem h₀ h' chg (news'' k (.str name t)) → Q () ⟨h', g, d, t + 1, os⟩) : wpAny M A (nsSet a name v) Q E ⟨h, g, d, t, os⟩ := by
  unfold nsSet strHash
  refine wpAny_bind (wpAny_bind (wpAny_askSetting (wpAny_pure ?_)))
  refine wpAny_bind (wpAny_mkText ?_)
  refine wpAny_bind (wpAny_loadPart (mm_at D (p 0 .none).mem) ?_)
  show wpAny M A (if aRefKeyMayBeTheName name es.toArray = true then _ else _) Q E _
  rw [e1]
  exact m_updatePart D (p _ _) (e2 _ _) rfl fun h' D' => q _ h' D'
theorem m_nsDel {a : Addr} {name : Str} {es es' : List DictEntry} {n n' : Nat} {Q : Bool → Shared → Prop} (D : Mem h₀ h chg news) (p : Put a (dobj es n) (dobj es' n') news news') (e1 : nsHas name (dobj es n) = pure true) (e2 : Obj.dropName name (dobj es n) = dobj es' n')
    (q : ∀ h', Mem h₀ h' chg news' → Q true ⟨h', g, d, t, os⟩) : wpAny M A (nsDel a name) Q E ⟨h, g, d, t, os⟩ := by
  unfold nsDel
  refine wpAny_bind (wpAny_loadPart (mm_at D p.mem) (wpAny_bind (wpAny_of_eq e1 ?_)))
  rw [if_pos rfl]
  exact wpAny_bind (m_updatePart D p e2 rfl fun h' D' => wpAny_pure (q h' D'))
theorem m_setSlotAt {a : Addr} {i : Nat} {v : Option Value} {o o' : Obj} {Q : Unit → Shared → Prop} (hi : Nat.ble i 1000 = true) (D : Mem h₀ h chg news) (p : Put a o o' news news') (e : { o with slots := (o.slots ++ Array.replicate (i + 1 - o.slots.size) none).setIfInBounds i v } = o') (hf : o'.isFreed = false)
    (q : ∀ h', Mem h₀ h' chg news' → Q () ⟨h', g, d, t, os⟩) : wpAny M A (setSlotAt a i v) Q E ⟨h, g, d, t, os⟩ := by
  unfold setSlotAt
  have := Nat.le_of_ble_eq_true hi
  rw [if_neg (by simp only [sizeLine]; omega)]
  exact m_updatePart D p e hf q
end
end Mine
end
noncomputable section
open PySem PySem.W PySem.W.X PyProof.Rows
set_option Elab.async false
set_option linter.unusedVariables false
set_option maxRecDepth 100000
namespace Mine
theorem ro_best : Builtin.Slots.bestBase [.type "object"] = pure (.type "object") := by kernel_rfl
theorem ro_names : Builtin.Slots.slotNamesOf (.type "object") = pure [] := by kernel_rfl
theorem ro_dict : Builtin.Slots.givesDict (.type "object") = pure false := by kernel_rfl
theorem ro_weak : Builtin.Slots.givesWeak (.type "object") = pure false := by kernel_rfl
theorem ro_var : Builtin.Slots.varSize (.type "object") = pure false := by kernel_rfl
theorem ro_mangle : Builtin.Slots.mangle (Str.ofString "K") (Str.ofString "obj") = Str.ofString "obj" := by decide +kernel
variable {prog : Program} {w : World} {A : Around} {E : Value → Shared → Prop}
set_option maxHeartbeats 4000000 in
theorem slots_read {s : Shared} {es : Array DictEntry} {e : DictEntry} {sl : Addr} {ol : Obj} {t1 : Tok} {n : Nat} {Q : Builtin.Slots.Plan → Shared → Prop} (he : es.find? (·.key.isStr (Str.ofString "__slots__")) = some e) (hev : e.val = .ref sl)
    (ho : s.heap.get? sl = some ol) (hc : ol.cls = .type "list") (hd : ol.data = .seq #[.str (Str.ofString "obj") t1] n) (hm : es.any (·.key.isStr (Str.ofString "obj")) = false)
    (q : ∀ h', (∀ b o', s.heap.get? b = some o' → h'.get? b = some o') → Q { names := [Str.ofString "obj"], dict := false, weak := false, inherited := [] } { s with heap := h' }) :
    wpAny (model prog w) A (Builtin.Slots.read (Str.ofString "K") [.type "object"] es) Q E s := by
  unfold Builtin.Slots.read
  refine wpAny_bind (wpAny_of_eq ro_best ?_)
  refine wpAny_bind (wpAny_of_eq ro_names ?_)
  refine wpAny_bind (wpAny_of_eq ro_dict ?_)
  refine wpAny_bind (wpAny_of_eq ro_weak ?_)
  refine wpAny_bind (wpAny_of_eq ro_var ?_)
  rw [he]
  dsimp only
  rw [hev]
  refine wpAny_bind (wpAny_rule ?_)
  have ha : ∀ {Q : Option Str → Shared → Prop}, Q none s → wpAny (model prog w) A (asStr? (.ref sl)) Q E s := fun {Q} q => by
    unfold asStr?
    refine wpAny_bind (wpAny_load ho ?_)
    rw [hd]
    exact wpAny_pure q
  refine wpAny_bind (ha ?_)
  refine bm_if_false rfl ?_
  refine wpAny_bind (wpAny_collect_seq sl (.inl rfl) ho hc hd fun h' hk => ?_)
  refine bm_if_true rfl ?_
  refine wpAny_bind (wpAny_of_eq ro_var ?_)
  refine bm_if_false rfl ?_
  refine wpAny_bind (wpAny_of_eq (a := (false, false, #[Str.ofString "obj"], [])) (by kernel_rfl) ?_)
  dsimp only
  rw [← Array.forIn_toList]
  show wpAny _ _ (forIn [Str.ofString "obj"] _ _ >>= _) _ _ _
  rw [List.forIn_cons]
  simp only [List.forIn_nil, ro_mangle, hm, Bool.false_and]
  refine wpAny_bind (wpAny_bind ?_)
  rw [if_neg (by decide +kernel)]
  refine bm_if_false rfl ?_
  refine bm_if_false (by decide +kernel) ?_
  refine wpAny_pure ?_
  dsimp only
  refine wpAny_pure ?_
  refine wpAny_bind (wpAny_of_eq (a := (false, false)) (by kernel_rfl) ?_)
  exact wpAny_pure (q h' hk)
end Mine
end
noncomputable section
open PySem PySem.W PySem.W.X PyProof.Rows
set_option Elab.async false
set_option linter.unusedVariables false
set_option maxRecDepth 100000
namespace Mine
noncomputable def AK : Around := { handled := none, depth := 950, units := 9500, guards := some [], frames := none }
theorem Bud.wk {k : Nat} {A : Around} (b : Bud k A) (hk : 49 ≤ k) {α : Type} {M : Model} {t : Sem α} {Q : α → Shared → Prop} {E : Value → Shared → Prop} {s : Shared} (H : wpAny M AK t Q E s) : wpAny M A t Q E s := fun Γ p hΓ => by
  refine H Γ p ⟨hΓ.1.trans b.handled, ?_, (fun l hl => nomatch hl), (fun g hg => hΓ.2.2.2.1 g (b.guards.trans hg)), ?_⟩
  · have h1 := hΓ.2.1; have := b.depth; show _ ≤ 950; omega
  · have h1 := hΓ.2.2.2.2; have := b.units; show _ ≤ 9500; omega
noncomputable abbrev clsO (a ns : Addr) (sl : Array (Option Value)) : Obj := ⟨.type "type", none, .cls { name := Str.ofString "K", bases := [.type "object"], mro := [.ref a, .type "object"], ns := ns, qualname := Str.ofString "cmp_to_key.<locals>.K", hasDict := false, slotNames := [Str.ofString "obj"] }, sl⟩
section
variable {prog : Program} {w : World} {h : Heap} {g : Array GenState} {d : Drawn} {t : Nat} {os : OsState} {Q : Value → Shared → Prop} {E : Value → Shared → Prop} {a ns : Addr} {sl : Array (Option Value)}
local macro_rules | `(tactic| x_close) => `(tactic| (apply_assumption <;> assumption))
set_option maxHeartbeats 0 in
theorem super_x (hC : h.get? a = some (clsO a ns sl))
   (q : ∀ so h', Mem h h' [] [(so, { cls := .type "super", data := .fields #[.ref a, .ref a, .ref a] })] → Q (.ref so) ⟨h', g, d, t, os⟩) : wpAny (model prog w) AK (call (.type "super") [.ref a, .ref a]) Q E ⟨h, g, d, t, os⟩ := by
  unfold clsO at hC
  x_run
set_option maxHeartbeats 0 in
theorem cmget_x (hC : h.get? a = some (clsO a ns sl))
   (q : ∀ so h', Mem h h' [] [(so, { cls := .type "builtin_function_or_method", data := .fields #[.builtin "object.__init_subclass__", .ref a] })] → Q (.ref so) ⟨h', g, d, t, os⟩) : wpAny (model prog w) AK (call (.builtin "classmethod_descriptor.__get__") [.builtin "object.__init_subclass__", .none, .ref a]) Q E ⟨h, g, d, t, os⟩ := by
  unfold clsO at hC
  x_run
set_option maxHeartbeats 0 in
theorem initsub_x {b : Addr} (hC : h.get? a = some (clsO a ns sl)) (hb : h.get? b = some ⟨.type "builtin_function_or_method", none, .fields #[.builtin "object.__init_subclass__", .ref a], #[]⟩)
   (q : Q .none ⟨h, g, d, t, os⟩) : wpAny (model prog w) AK (call (.ref b) []) Q E ⟨h, g, d, t, os⟩ := by
  unfold clsO at hC
  x_run
end
end Mine
end
noncomputable section
open PySem PySem.W PySem.W.X PyProof.Rows
set_option Elab.async false
set_option linter.unusedVariables false
set_option maxRecDepth 100000
namespace Mine
variable {prog : Program} {w : World} {A : Around} {h : Heap} {g : Array GenState} {d : Drawn} {t : Nat} {os : OsState} {E : Value → Shared → Prop}
theorem is_own : classOwn (.type "object") (Str.ofString "__init_subclass__") = pure (some (.builtin "object.__init_subclass__")) := by kernel_rfl
theorem is_type : typeOf (.builtin "object.__init_subclass__") = pure (.type "classmethod_descriptor") := by kernel_rfl
theorem is_get : typeLookup (.type "classmethod_descriptor") (Str.ofString "__get__") = pure (some (.builtin "classmethod_descriptor.__get__")) := by rw [typeLookup_type, builtinLookup_eq_fast]; kernel_rfl
set_option maxHeartbeats 4000000 in
theorem super_attr {k : Nat} (hA : Bud k A) (hk : 52 ≤ k) {so a ns : Addr} {sl : Array (Option Value)} {oS : Obj} {Q : Value → Shared → Prop} (hso : h.get? so = some { cls := .type "super", data := .fields #[.ref a, .ref a, .ref a] }) (hC : h.get? a = some (clsO a ns sl)) (hS : h.get? cStatics = some oS) (hS1 : nsLook (Str.ofString "thirdparty.any") oS = pure none)
    (q : ∀ b h' t', Mem h h' [] [(b, { cls := .type "builtin_function_or_method", data := .fields #[.builtin "object.__init_subclass__", .ref a] })] → Q (.ref b) ⟨h', g, d, t', os⟩) : wpAny (model prog w) A (getAttr (.ref so) (Str.ofString "__init_subclass__")) Q E ⟨h, g, d, t, os⟩ := by
  have f1 := F.ks_slot_super_ga.lookup
  unfold getAttr getAttrBy
  refine wpAny_bind (wpAny_mkText (wpAny_holding (wpAny_bind (wpAny_typeOf ⟨_, hso, rfl⟩ (wpAny_bind (wpAny_of_eq f1 ?_))))))
  repeat wp_delta
  refine bm_if_false (by decide +kernel) ?_
  unfold getAttrByItsOwn
  repeat wp_step
  refine wpAny_of_eq (F.ks_slot_super_ga.bind (.ref so)) ?_
  wp_delta
  refine wpAny_call_entry F.ks_slot_super_ga ⟨_, hso, rfl⟩ F.ks_entry_super_ga ?_ (F.ks_gaArgs_super _ _)
  unfold Builtin.«super.__getattribute__»
  refine wpAny_bind (wpAny_of_eq (a := some (Str.ofString "__init_subclass__")) rfl ?_)
  refine bm_if_false rfl ?_
  refine wpAny_bind (wpAny_of_eq (a := some (Str.ofString "__init_subclass__")) rfl ?_)
  repeat wp_delta
  refine wpAny_bind (wpAny_field hso rfl (x := .ref a) rfl ?_)
  refine wpAny_bind (wpAny_field hso rfl (x := .ref a) rfl ?_)
  refine wpAny_bind (wpAny_field hso rfl (x := .ref a) rfl ?_)
  refine bm_if_false (by kernel_rfl) ?_
  refine wpAny_bind ?_
  unfold notOfAnOpaqueClass opaqueClassAbove anyOpaqueLoaded
  refine wpAny_bind (wpAny_bind (wpAny_bind (m_nsGet hS hS1 (wpAny_pure ?_))))
  refine bm_if_true rfl ?_
  refine wpAny_pure ?_
  refine wpAny_pure ?_
  refine bm_if_false (by kernel_rfl) ?_
  refine wpAny_bind ?_
  unfold mroOf classData
  refine wpAny_bind (wpAny_bind (wpAny_load hC (wpAny_pure (wpAny_pure ?_))))
  rw [show List.drop 1 (List.dropWhile (fun x => x != Value.ref a) [Value.ref a, Value.type "object"]) = [Value.type "object"] by simp]
  wp_delta
  refine wpAny_bind ?_
  rw [List.forIn_cons, show (if (Value.ref a == Value.ref a) = true then Value.none else Value.ref a) = .none by simp]
  refine wpAny_bind (wpAny_bind (wpAny_of_eq is_own ?_))
  refine wpAny_bind (wpAny_of_eq is_type ?_)
  refine wpAny_bind (wpAny_of_eq is_get ?_)
  refine wpAny_bind (wpAny_holding (Bud.wk (k := 51) (hA.mono hk).in1 (by decide) (cmget_x hC fun so h' D => ?_)))
  refine wpAny_bind (wpAny_pure ?_)
  refine wpAny_pure ?_
  refine wpAny_pure ?_
  refine wpAny_pure ?_
  refine ⟨_, rfl, ?_⟩
  exact wpAny_pure (q so h' _ D)
end Mine
end
noncomputable section
open PySem PySem.W PySem.W.X PyProof.Rows
set_option Elab.async false
set_option linter.unusedVariables false
set_option maxRecDepth 100000
namespace Mine
noncomputable def kEnt (hs : Nat → Int) (ts : Nat → Nat) (m0 : Str) (ln : Int) (sl : Addr) (fs : Nat → Addr) (st : Addr) : List DictEntry :=
  [⟨hs 0, .str (Str.ofString "__module__") (ts 0), .str m0 (ts 20)⟩, ⟨hs 1, .str (Str.ofString "__qualname__") (ts 1), .str (Str.ofString "cmp_to_key.<locals>.K") (ts 21)⟩, ⟨hs 2, .str (Str.ofString "__firstlineno__") (ts 2), .int ln (ts 22)⟩, ⟨hs 3, .str (Str.ofString "__slots__") (ts 3), .ref sl⟩,
   ⟨hs 4, .str (Str.ofString "__init__") (ts 4), .ref (fs 4)⟩, ⟨hs 5, .str (Str.ofString "__lt__") (ts 5), .ref (fs 5)⟩, ⟨hs 6, .str (Str.ofString "__gt__") (ts 6), .ref (fs 6)⟩, ⟨hs 7, .str (Str.ofString "__eq__") (ts 7), .ref (fs 7)⟩, ⟨hs 8, .str (Str.ofString "__le__") (ts 8), .ref (fs 8)⟩, ⟨hs 9, .str (Str.ofString "__ge__") (ts 9), .ref (fs 9)⟩,
   ⟨hs 10, .str (Str.ofString "__hash__") (ts 10), .none⟩, ⟨hs 11, .str (Str.ofString "__static_attributes__") (ts 11), .ref st⟩]
variable {prog : Program} {w : World} {A : Around} {h : Heap} {g : Array GenState} {d : Drawn} {t : Nat} {os : OsState} {E : Value → Shared → Prop}
theorem ty_sub1 : isSubtype (.type "tuple") (.type "tuple") = pure true := by kernel_rfl
theorem ty_sub2 : isSubtype (.type "dict") (.type "dict") = pure true := by kernel_rfl
theorem ty_sub3 : isSubtype (.type "type") (.type "type") = pure true := by kernel_rfl
theorem ty_ext : Builtin.extendedBase [.type "object"] = pure (.type "object") := by kernel_rfl
theorem ty_turn : Builtin.notOverATurnedClass [.type "object"] = pure () := by kernel_rfl
theorem ty_typeOf : typeOf (.type "object") = pure (.type "type") := by kernel_rfl
theorem ty_dictIter : typeLookup (.type "dict") (Str.ofString "__iter__") = pure (some (.builtin "dict.__iter__")) := by rw [typeLookup_type, builtinLookup_eq_fast]; kernel_rfl
theorem loop_all {α : Type} {M : Model} {s : Shared} {l : List α} {f : α → PUnit → Sem (ForInStep PUnit)} {Q : PUnit → Shared → Prop} (H : ∀ x ∈ l, ∀ {Q : ForInStep PUnit → Shared → Prop}, Q (.yield ()) s → wpAny M A (f x ()) Q E s) (q : Q () s) : wpAny M A (forIn l PUnit.unit f) Q E s := by
  refine wpAny_forIn_list f (fun r _ s' => s' = s ∧ ∀ x ∈ r, x ∈ l) Q ?_ ?_ l () ⟨rfl, fun _ h => h⟩
  · rintro x rest ⟨⟩ _ ⟨rfl, hm⟩
    exact H x (hm x (.head _)) ⟨rfl, fun y hy => hm y (.tail _ hy)⟩
  · rintro ⟨⟩ _ ⟨rfl, _⟩; exact q
theorem sn_str : typeLookup (.type "str") (Str.ofString "__set_name__") = pure none := by rw [typeLookup_type, builtinLookup_eq_fast]; kernel_rfl
theorem sn_int : typeLookup (.type "int") (Str.ofString "__set_name__") = pure none := by rw [typeLookup_type, builtinLookup_eq_fast]; kernel_rfl
theorem sn_list : typeLookup (.type "list") (Str.ofString "__set_name__") = pure none := by rw [typeLookup_type, builtinLookup_eq_fast]; kernel_rfl
theorem sn_fun : typeLookup (.type "function") (Str.ofString "__set_name__") = pure none := by rw [typeLookup_type, builtinLookup_eq_fast]; kernel_rfl
theorem sn_none : typeLookup (.type "NoneType") (Str.ofString "__set_name__") = pure none := by rw [typeLookup_type, builtinLookup_eq_fast]; kernel_rfl
theorem sn_tup : typeLookup (.type "tuple") (Str.ofString "__set_name__") = pure none := by rw [typeLookup_type, builtinLookup_eq_fast]; kernel_rfl
theorem sn_mem : typeLookup (.type "member_descriptor") (Str.ofString "__set_name__") = pure none := by rw [typeLookup_type, builtinLookup_eq_fast]; kernel_rfl
noncomputable def cd0 (ns : Addr) : ClassData := { name := Str.ofString "K", bases := [.type "object"], mro := [], ns := ns, qualname := Str.ofString "cmp_to_key.<locals>.K" }
noncomputable def co (cd : ClassData) (sl : Array (Option Value)) : Obj := { cls := .type "type", data := .cls cd, slots := sl }
theorem ty_mroHook : Builtin.mroHook? (.type "type") = pure none := by kernel_rfl
theorem ty_lin : Builtin.linearize [.type "object"] mroOf = pure [.type "object"] := by kernel_rfl
theorem ty_made : Bind.madeBy (.type "object") = pure (some "object.__new__") := by kernel_rfl
theorem m_updateCls {M : Model} {h₀ : Heap} {chg news news' : List (Addr × Obj)} {a : Addr} {cd cd' : ClassData} {sl : Array (Option Value)} {f : ClassData → ClassData} {Q : Unit → Shared → Prop} (D : Mem h₀ h chg news) (p : Put a (co cd sl) (co cd' sl) news news') (e : f cd = cd') (hp : (Data.cls cd').pastItsLine = none)
    (q : ∀ h', Mem h₀ h' chg news' → Q () ⟨h', g, d, t, os⟩) (m' : (a, co cd' sl) ∈ news') : wpAny M A (updateCls a f) Q E ⟨h, g, d, t, os⟩ := by
  subst e
  unfold updateCls
  refine wpAny_bind (wpAny_load (mm_at D p.mem) ?_)
  show wpAny M A (update a (Obj.mapCls f) >>= fun _ => lookBehind a) Q E _
  exact wpAny_bind (m_update D p rfl rfl fun h' D' => wpAny_lookBehind (mm_at D' m') hp (q h' D'))
theorem look_own {M : Model} {s : Shared} {a : Addr} {cd : ClassData} {sl : Array (Option Value)} {o : Obj} {name : Str} {r : Option Value} {Q : Option Value → Shared → Prop} (hC : s.heap.get? a = some (co cd sl)) (hm : cd.mro = [.ref a, .type "object"]) (hn : s.heap.get? cd.ns = some o) (e : nsLook name o = pure none) (eo : builtinOwn "object" name = r)
    (q : Q r s) : wpAny M A (typeLookup (.ref a) name) Q E s := by
  unfold typeLookup mroOf classData
  refine wpAny_bind (wpAny_bind (wpAny_bind (wpAny_load hC (wpAny_pure (wpAny_pure ?_)))))
  rw [hm, List.forIn_cons]
  unfold classOwn classData nsGet
  repeat (with_reducible refine wpAny_bind ?_)
  refine wpAny_load hC (wpAny_pure ?_)
  repeat (with_reducible refine wpAny_bind ?_)
  refine wpAny_loadPart hn (wpAny_of_eq e ?_)
  refine wpAny_pure ?_
  dsimp only
  rw [List.forIn_cons]
  repeat (with_reducible refine wpAny_bind ?_)
  refine wpAny_pure ?_
  rw [eo]
  cases r with
  | none => exact wpAny_pure (by dsimp only; rw [List.forIn_nil]; exact wpAny_pure (wpAny_pure q))
  | some v => exact wpAny_pure (wpAny_pure (wpAny_pure q))
theorem m_nsSetByValue {M : Model} {h₀ : Heap} {chg news : List (Addr × Obj)} {a : Addr} {name : Str} {v : Value} {es : List DictEntry} {n n' : Nat} {es' : Int → Value → List DictEntry} {news'' : Int → Value → List (Addr × Obj)} {Q : Unit → Shared → Prop} (hz : Nat.ble es.length 1000 = true) (D : Mem h₀ h chg news) (e1 : aRefKeyMayBeTheName name es.toArray = false)
    (p : ∀ k x, Put a (dobj es n) (dobj (es' k x) n') news (news'' k x)) (e2 : ∀ k x, Obj.putName name k x v (dobj es n) = dobj (es' k x) n')
    (q : ∀ k h', Mem h₀ h' chg (news'' k (.str name t)) → Q () ⟨h', g, d, t + 1, os⟩) : wpAny M A (nsSetByValue a name v) Q E ⟨h, g, d, t, os⟩ := by
  unfold nsSetByValue
  refine wpAny_bind (wpAny_loadPart (mm_at D (p 0 .none).mem) ?_)
  refine bm_if_false ?_ (m_nsSet D e1 p e2 q)
  have := small_fits (k := 0) hz
  rw [Bool.and_eq_false_iff]; left
  exact decide_eq_false (by simp only [List.size_toArray] at *; omega)
theorem own_new : builtinOwn "object" (Str.ofString "__new__") = some (.builtin "object.__new__") := by kernel_rfl
noncomputable def cd1 (a ns : Addr) : ClassData := { cd0 ns with mro := [.ref a, .type "object"] }
noncomputable def cd2 (a ns : Addr) : ClassData := { cd1 a ns with hasDict := false, slotNames := [Str.ofString "obj"] }
theorem ite_no {α : Type} {M : Model} {s : Shared} {c : Prop} [Decidable c] {a b : Sem α} {Q : α → Shared → Prop} (hc : ¬ c) (h : wpAny M A b Q E s) : wpAny M A (if c then a else b) Q E s := by rw [if_neg hc]; exact h
set_option maxHeartbeats 4000000 in
theorem type_new {nsA bT sl : Addr} {kb : Nat} (hA : Bud kb A) (hkb : 53 ≤ kb) {hs : Nat → Int} {ts : Nat → Nat} {m0 : Str} {ln : Int} {fs : Nat → Addr} {st : Addr} {n m k : Nat} {t0 t1 : Tok} (hb : h.get? bT = some { cls := .type "tuple", data := .seq #[.type "object"] m }) (hn : h.get? nsA = some (dobj (kEnt hs ts m0 ln sl fs st) n)) (hne : nsA ≠ sysModules)
    (hsl : h.get? sl = some { cls := .type "list", data := .seq #[.str (Str.ofString "obj") t1] k })
    (hfs : ∀ i, 4 ≤ i → i ≤ 9 → ∃ o, h.get? (fs i) = some o ∧ o.cls = .type "function") (hst : ∃ o, h.get? st = some o ∧ o.cls = .type "tuple") {oS : Obj} (hS : h.get? cStatics = some oS) (hS1 : nsLook (Str.ofString "thirdparty.any") oS = pure none)
    {Q : Fin → Shared → Prop} (q : ∀ ns a dsc k1 k2 t1 t2 t3 t' h', (∀ b o, h.get? b = some o → h'.get? b = some o) → (h.get? ns = none ∧ h.get? a = none ∧ h.get? dsc = none) → h'.get? a = some (co (cd2 a ns) #[some (.ref bT), none, some (.str (Str.ofString "K") t0), some (.str (Str.ofString "cmp_to_key.<locals>.K") (ts 21)), some (.builtin "object.__new__"), some (.bool false)]) →
      h'.get? ns = some (dobj ((kEnt hs ts m0 ln sl fs st).eraseIdx 1 ++ [⟨k1, .str (Str.ofString "obj") t1, .ref dsc⟩] ++ [⟨k2, .str (Str.ofString "__doc__") t2, .none⟩]) 3) →
      h'.get? dsc = some { cls := .type "member_descriptor", data := .fields #[.str (Str.ofString "obj") t3, .ref a, .builtin "proto.slot", .builtin "proto.slot#set", .int 0 0] } → Q (.done (.ret (.ref a))) ⟨h', g, d, t', os⟩) : wpAny (model prog w) A (Builtin.«type.__new__» ⟨[.type "type", .str (Str.ofString "K") t0, .ref bT, .ref nsA], []⟩) Q E ⟨h, g, d, t, os⟩ := by
  unfold Builtin.«type.__new__»
  refine wpAny_bind (wpAny_of_eq (a := some (Str.ofString "K")) rfl ?_)
  wp_delta
  refine wpAny_bind (wpAny_isInstance ⟨_, hb, rfl⟩ ty_sub1 ?_)
  refine bm_if_false rfl ?_
  refine wpAny_bind (wpAny_isInstance ⟨_, hn, rfl⟩ ty_sub2 ?_)
  refine bm_if_false rfl ?_
  refine wpAny_bind (wpAny_seqItems hb rfl ?_)
  wp_delta
  refine ite_no (by decide) ?_
  refine wpAny_bind (wpAny_of_eq (a := PUnit.unit) (by kernel_rfl) ?_)
  refine wpAny_bind (wpAny_of_eq (a := Value.type "type") (by kernel_rfl) ?_)
  refine bm_if_false rfl ?_
  show wpAny _ _ (Builtin.notOverATurnedClass [Value.type "object"] >>= _) _ _ _
  refine wpAny_bind (wpAny_of_eq ty_turn ?_)
  show wpAny _ _ (Builtin.extendedBase [Value.type "object"] >>= _) _ _ _
  refine wpAny_bind (wpAny_of_eq ty_ext ?_)
  refine bm_if_false (beq_false_of_ne hne) ?_
  refine wpAny_bind (wpAny_dictEntries hn rfl ?_)
  refine wpAny_bind (wpAny_specialOf ⟨_, hn, rfl⟩ ty_dictIter ?_)
  refine bm_if_true rfl ?_
  refine wpAny_bind (wpAny_pure ?_)
  wp_delta
  refine wpAny_bind (wpAny_holding (slots_read (e := ⟨hs 3, .str (Str.ofString "__slots__") (ts 3), .ref sl⟩) (by kernel_rfl) rfl hsl rfl rfl (by kernel_rfl) fun h' hk => ?_))
  have D := Mem.start h'
  have hn' := hk _ _ hn
  have hb' := hk _ _ hb
  have hsl' := hk _ _ hsl
  have hS' := hk _ _ hS
  have hfr : ∀ b, h'.get? b = none → h.get? b = none := fun b e => by
    cases e2 : h.get? b with
    | none => rfl
    | some o => rw [hk _ _ e2] at e; cases e
  have hfs' : ∀ i, 4 ≤ i → i ≤ 9 → ∃ o, h'.get? (fs i) = some o ∧ o.cls = .type "function" := fun i a b => let ⟨o, e, c⟩ := hfs i a b; ⟨o, hk _ _ e, c⟩
  have hst' : ∃ o, h'.get? st = some o ∧ o.cls = .type "tuple" := let ⟨o, e, c⟩ := hst; ⟨o, hk _ _ e, c⟩
  clear hn hb hsl hS hfs hst
  refine wpAny_bind (m_newDict D rfl fun ns h D => ?_)
  wp_delta
  refine bm_if_false (by kernel_rfl) ?_
  refine wpAny_bind (wpAny_of_eq (a := ()) (by kernel_rfl) ?_)
  refine bm_if_false (by decide +kernel) ?_
  refine wpAny_bind (m_nsGet (mm_at D (.head _)) (r := some (.str (Str.ofString "cmp_to_key.<locals>.K") (ts 21))) (by kernel_rfl) ?_)
  refine wpAny_bind (m_nsGet (mm_at D (.head _)) (r := some (.str (Str.ofString "cmp_to_key.<locals>.K") (ts 21))) (by kernel_rfl) ?_)
  refine wpAny_bind (wpAny_of_eq (a := some (Str.ofString "cmp_to_key.<locals>.K")) rfl ?_)
  refine wpAny_bind (wpAny_pure ?_)
  refine wpAny_bind (m_nsGet (mm_at D (.head _)) (r := none) (by kernel_rfl) ?_)
  wp_delta
  refine wpAny_bind (m_alloc (o := co (cd0 ns) #[]) D rfl fun a h D => ?_)
  repeat wp_delta
  refine bm_if_true rfl ?_
  refine wpAny_bind (m_setSlotAt rfl D .here (o' := co (cd0 ns) #[some (.ref bT)]) rfl rfl fun h D => ?_)
  refine wpAny_bind (m_setSlotAt rfl D .here (o' := co (cd0 ns) #[some (.ref bT), none, some (.str (Str.ofString "K") t0)]) rfl rfl fun h D => ?_)
  wp_delta
  refine wpAny_bind (m_setSlotAt rfl D .here (o' := co (cd0 ns) #[some (.ref bT), none, some (.str (Str.ofString "K") t0), some (.str (Str.ofString "cmp_to_key.<locals>.K") (ts 21))]) rfl rfl fun h D => ?_)
  refine wpAny_bind (m_nsDel D (.there .here) (es' := (kEnt hs ts m0 ln sl fs st).eraseIdx 1) (n' := 1) (by kernel_rfl) (by kernel_rfl) fun h D => ?_)
  have kd : ∀ {name r}, nsLook name (dobj ((kEnt hs ts m0 ln sl fs st).eraseIdx 1) 1) = pure r → ∀ {Q : Option Value → Shared → Prop}, Q r ⟨h, g, d, t, os⟩ → wpAny (model prog w) A (nsGet ns name) Q E ⟨h, g, d, t, os⟩ := fun {name r} e {Q} q => m_nsGet (mm_at D (.tail _ (.head _))) e q
  refine wpAny_bind (kd (r := none) (by kernel_rfl) ?_)
  repeat wp_delta
  refine wpAny_bind ?_
  repeat wp_delta
  refine wpAny_bind ?_
  repeat wp_delta
  refine wpAny_bind (kd (r := none) (by kernel_rfl) ?_)
  repeat wp_delta
  refine wpAny_pure ?_
  repeat wp_delta
  refine wpAny_bind ?_
  repeat wp_delta
  refine wpAny_bind (kd (r := none) (by kernel_rfl) ?_)
  repeat wp_delta
  refine wpAny_pure ?_
  repeat wp_delta
  refine wpAny_pure ?_
  refine wpAny_bind (kd (r := none) (by kernel_rfl) ?_)
  repeat wp_delta
  refine wpAny_bind (kd (r := none) (by kernel_rfl) ?_)
  repeat wp_delta
  refine wpAny_bind (wpAny_of_eq ty_mroHook ?_)
  repeat wp_delta
  refine wpAny_bind (wpAny_of_eq ty_lin ?_)
  repeat wp_delta
  refine wpAny_bind (wpAny_pure ?_)
  repeat wp_delta
  refine wpAny_bind (wpAny_of_eq (a := false) (by rw [show List.filter (fun x => x != Value.ref a) [Value.ref a, Value.type "object"] = [Value.type "object"] by simp]; kernel_rfl) ?_)
  refine wpAny_bind (m_updateCls (cd' := cd1 a ns) D .here (by kernel_rfl) (by kernel_rfl) (fun h D => ?_) (.head _))
  refine wpAny_bind (wpAny_of_eq ty_made ?_)
  refine wpAny_bind (m_setSlotAt rfl D .here (o' := co (cd1 a ns) #[some (.ref bT), none, some (.str (Str.ofString "K") t0), some (.str (Str.ofString "cmp_to_key.<locals>.K") (ts 21)), some (.builtin "object.__new__")]) rfl rfl fun h D => ?_)
  have kd2 : ∀ {name r}, nsLook name (dobj ((kEnt hs ts m0 ln sl fs st).eraseIdx 1) 1) = pure r → ∀ {Q : Option Value → Shared → Prop}, Q r ⟨h, g, d, t, os⟩ → wpAny (model prog w) A (nsGet ns name) Q E ⟨h, g, d, t, os⟩ := fun {name r} e {Q} q => m_nsGet (mm_at D (.tail _ (.head _))) e q
  refine wpAny_bind ?_
  unfold Bind.refreshMaker slotAt
  refine wpAny_bind (wpAny_bind (wpAny_loadPart (mm_at D (.head _)) (wpAny_pure ?_)))
  refine bm_if_false rfl ?_
  refine wpAny_bind (look_own (mm_at D (.head _)) rfl (mm_at D (.tail _ (.head _))) (by kernel_rfl) own_new ?_)
  repeat wp_delta
  refine bm_if_false (by decide +kernel) ?_
  refine wpAny_pure ?_
  refine wpAny_bind ?_
  unfold Builtin.Slots.install
  repeat wp_delta
  refine wpAny_bind ?_
  repeat wp_delta
  refine wpAny_bind ?_
  repeat wp_delta
  refine wpAny_bind (kd2 (r := none) (by kernel_rfl) ?_)
  refine bm_if_true rfl ?_
  refine wpAny_bind (wpAny_mkStr ?_ (by decide +kernel))
  refine wpAny_bind (m_newFields D rfl fun dsc h D => ?_)
  refine wpAny_bind (m_nsSetByValue rfl D (by kernel_rfl) (fun k x => .there (.there .here)) (es' := fun k x => (kEnt hs ts m0 ln sl fs st).eraseIdx 1 ++ [⟨k, x, .ref dsc⟩]) (n' := 2) (by intro k x; kernel_rfl) fun k1 h D => ?_)
  refine wpAny_pure ?_
  repeat wp_delta
  refine wpAny_pure ?_
  repeat wp_delta
  refine wpAny_bind (wpAny_of_eq (a := false) (by kernel_rfl) ?_)
  repeat wp_delta
  refine ite_no (by decide +kernel) ?_
  refine m_updateCls (cd' := cd2 a ns) D (.there .here) rfl (by kernel_rfl) (fun h D => ?_) (.tail _ (.head _))
  refine wpAny_bind (wpAny_of_eq ro_weak ?_)
  refine wpAny_bind (m_setSlotAt rfl D (.there .here) (o' := co (cd2 a ns) #[some (.ref bT), none, some (.str (Str.ofString "K") t0), some (.str (Str.ofString "cmp_to_key.<locals>.K") (ts 21)), some (.builtin "object.__new__"), some (.bool false)]) rfl rfl fun h D => ?_)
  repeat wp_delta
  refine bm_if_false rfl ?_
  refine bm_if_false rfl ?_
  have kd3 : ∀ {name r}, nsLook name (dobj ((kEnt hs ts m0 ln sl fs st).eraseIdx 1 ++ [⟨k1, .str (Str.ofString "obj") (t + 1), .ref dsc⟩]) 2) = pure r → ∀ {Q : Option Value → Shared → Prop}, Q r ⟨h, g, d, t + 1 + 1, os⟩ → wpAny (model prog w) A (nsGet ns name) Q E ⟨h, g, d, t + 1 + 1, os⟩ := fun {name r} e {Q} q => m_nsGet (mm_at D (.tail _ (.tail _ (.head _)))) e q
  refine wpAny_bind (kd3 (r := none) (by kernel_rfl) ?_)
  repeat wp_delta
  refine bm_if_true rfl ?_
  refine wpAny_bind (m_nsSet D (by kernel_rfl) (fun k x => .there (.there .here)) (es' := fun k x => (kEnt hs ts m0 ln sl fs st).eraseIdx 1 ++ [⟨k1, .str (Str.ofString "obj") (t + 1), .ref dsc⟩] ++ [⟨k, x, .none⟩]) (n' := 3) (by intro k x; kernel_rfl) fun k2 h D => ?_)
  have kd4 : ∀ {name r}, nsLook name (dobj ((kEnt hs ts m0 ln sl fs st).eraseIdx 1 ++ [⟨k1, .str (Str.ofString "obj") (t + 1), .ref dsc⟩] ++ [⟨k2, .str (Str.ofString "__doc__") (t + 1 + 1), .none⟩]) 3) = pure r → ∀ {Q : Option Value → Shared → Prop}, Q r ⟨h, g, d, t + 1 + 1 + 1, os⟩ → wpAny (model prog w) A (nsGet ns name) Q E ⟨h, g, d, t + 1 + 1 + 1, os⟩ := fun {name r} e {Q} q => m_nsGet (mm_at D (.tail _ (.tail _ (.head _)))) e q
  repeat wp_delta
  refine wpAny_bind (kd4 (r := some (.ref (fs 7))) (by kernel_rfl) ?_)
  repeat wp_delta
  refine bm_if_true rfl ?_
  refine wpAny_bind (kd4 (r := some .none) (by kernel_rfl) ?_)
  repeat wp_delta
  refine bm_if_false rfl ?_
  repeat wp_delta
  refine wpAny_bind (wpAny_of_eq (a := PUnit.unit) (by kernel_rfl) ?_)
  repeat wp_delta
  refine wpAny_bind (wpAny_tryCatch (wpAny_holding ?_))
  refine wpAny_bind (wpAny_dictEntries (mm_at D (.tail _ (.tail _ (.head _)))) rfl ?_)
  refine wpAny_bind (wpAny_of_eq (a := false) (by kernel_rfl) ?_)
  repeat wp_delta
  refine bm_if_false rfl ?_
  repeat wp_delta
  refine wpAny_bind (wpAny_dictEntries (mm_at D (.tail _ (.tail _ (.head _)))) rfl ?_)
  refine wpAny_bind ?_
  rw [← Array.forIn_toList]
  refine loop_all (fun e he Q' q' => ?_) ?_
  · have none_of : ∀ {v : Value} {T : String}, (⟨h, g, d, t + 1 + 1 + 1, os⟩ : Shared).TypeIs v T → typeLookup (.type T) (Str.ofString "__set_name__") = pure none → ∀ {Q : Option Value → Shared → Prop} {E : Value → Shared → Prop}, Q none ⟨h, g, d, t + 1 + 1 + 1, os⟩ → wpAny (model prog w) A (specialOf v (Str.ofString "__set_name__")) Q E ⟨h, g, d, t + 1 + 1 + 1, os⟩ := fun {v T} hT e {Q E} q => wpAny_specialOf hT e q
    have fn_of : ∀ i, 4 ≤ i → i ≤ 9 → (⟨h, g, d, t + 1 + 1 + 1, os⟩ : Shared).TypeIs (.ref (fs i)) "function" := fun i a b => let ⟨o, e, c⟩ := hfs' i a b; ⟨o, mm_old D e, c⟩
    simp only [kEnt, List.eraseIdx, List.cons_append, List.nil_append, List.mem_cons, List.not_mem_nil, or_false] at he
    rcases he with rfl | rfl | rfl | rfl | rfl | rfl | rfl | rfl | rfl | rfl | rfl | rfl | rfl
    · exact bm_if_false rfl (wpAny_bind (none_of (typeIs_str _ _ _) sn_str (wpAny_pure q')))
    · exact bm_if_false rfl (wpAny_bind (none_of (typeIs_int _ _ _) sn_int (wpAny_pure q')))
    · exact bm_if_false rfl (wpAny_bind (none_of (v := .ref sl) ⟨_, mm_old D hsl', rfl⟩ sn_list (wpAny_pure q')))
    · exact bm_if_false rfl (wpAny_bind (none_of (fn_of 4 (by decide) (by decide)) sn_fun (wpAny_pure q')))
    · exact bm_if_false rfl (wpAny_bind (none_of (fn_of 5 (by decide) (by decide)) sn_fun (wpAny_pure q')))
    · exact bm_if_false rfl (wpAny_bind (none_of (fn_of 6 (by decide) (by decide)) sn_fun (wpAny_pure q')))
    · exact bm_if_false rfl (wpAny_bind (none_of (fn_of 7 (by decide) (by decide)) sn_fun (wpAny_pure q')))
    · exact bm_if_false rfl (wpAny_bind (none_of (fn_of 8 (by decide) (by decide)) sn_fun (wpAny_pure q')))
    · exact bm_if_false rfl (wpAny_bind (none_of (fn_of 9 (by decide) (by decide)) sn_fun (wpAny_pure q')))
    · exact bm_if_false rfl (wpAny_bind (none_of (v := .none) (T := "NoneType") rfl sn_none (wpAny_pure q')))
    · exact bm_if_false rfl (wpAny_bind (none_of (v := .ref st) (let ⟨o, e, c⟩ := hst'; ⟨o, mm_old D e, c⟩) sn_tup (wpAny_pure q')))
    · exact bm_if_false rfl (wpAny_bind (none_of (v := .ref dsc) ⟨_, mm_at D (.head _), rfl⟩ sn_mem (wpAny_pure q')))
    · exact bm_if_false rfl (wpAny_bind (none_of (v := .none) (T := "NoneType") rfl sn_none (wpAny_pure q')))
  have hCa := mm_at D (a := a) (.tail _ (.head _))
  refine wpAny_bind ((hA.mono hkb).wk (by decide) (super_x (ns := ns) hCa fun so h1 D1 => ?_))
  have k1' : ∀ b o, h.get? b = some o → h1.get? b = some o := fun b o e => mm_old D1 e
  refine wpAny_bind (wpAny_holding (super_attr (hA.mono hkb) (by decide) (mm_at D1 (.head _)) (k1' _ _ hCa) (k1' _ _ (mm_old D hS')) hS1 fun bm h2 t2 D2 => ?_))
  have k2' : ∀ b o, h1.get? b = some o → h2.get? b = some o := fun b o e => mm_old D2 e
  refine wpAny_bind ((hA.mono hkb).wk (by decide) (initsub_x (k2' _ _ (k1' _ _ hCa)) (mm_at D2 (.head _)) (wpAny_pure (wpAny_pure ?_))))
  have k3 : ∀ b o, h.get? b = some o → h2.get? b = some o := fun b o e => k2' _ _ (k1' _ _ e)
  exact q ns a dsc k1 k2 _ _ _ t2 h2 (fun b o e => k3 _ _ (mm_old D (hk _ _ e))) ⟨hfr _ (D.nw _ (.tail _ (.tail _ (.head _)))).2, hfr _ (D.nw _ (.tail _ (.head _))).2, hfr _ (D.nw _ (.head _)).2⟩ (k3 _ _ hCa) (k3 _ _ (mm_at D (.tail _ (.tail _ (.head _))))) (k3 _ _ (mm_at D (.head _)))
end Mine
end
noncomputable section
open PySem PySem.W PySem.W.X PyProof.Rows
set_option Elab.async false
set_option linter.unusedVariables false
set_option maxRecDepth 100000
namespace Mine
variable {prog : Program} {w : World} {A : Around} {h : Heap} {g : Array GenState} {d : Drawn} {t : Nat} {os : OsState} {E : Value → Shared → Prop}
theorem tc_check (a b c : Value) : checkTypeCall "type" ⟨[a, b, c], []⟩ = pure () := by kernel_rfl
theorem tc_mro : mroOf (.type "type") = pure [.type "type", .type "object"] := by kernel_rfl
theorem tc_made : Bind.madeBy (.type "type") = pure (some "type.__new__") := by kernel_rfl
theorem tc_newCheck (a b c : Value) : checkBuiltinCall "type.__new__" ⟨[.type "type", a, b, c], []⟩ = pure () := by kernel_rfl
theorem tc_plain : plainId "type.__new__" = true := by decide +kernel
theorem tc_entry : entryFor table "type.__new__" = some Builtin.«type.__new__» := entryFor_of_tree (by kernel_rfl)
theorem tc_slot_init : Slot "type" "__init__" "type.__init__" :=
  .of (owner := "type") (n := "__init__") (by rw [typeLookup_type, builtinLookup_eq_fast]; kernel_rfl) (by decide +kernel) (by decide +kernel) (by decide +kernel)
    (by first | exact .inl (by decide +kernel) | exact .inr (by decide +kernel)) (by rw [isSubtype_type]; kernel_rfl)
theorem tc_entry_init : entryFor table "type.__init__" = some Builtin.«type.__init__» := entryFor_of_tree (by kernel_rfl)
theorem tc_args_init (o a b c : Value) : argsOk "type.__init__" ⟨[o, a, b, c], []⟩ := by unfold argsOk; kernel_rfl
set_option maxHeartbeats 4000000 in
theorem call_type3 {k : Nat} {s : Shared} {n b c : Value} {Q : Value → Shared → Prop}
    (H : wpAny (model prog w) A.in1.in1 (Builtin.«type.__new__» ⟨[.type "type", n, b, c], []⟩) (fun fin s' => ∃ a o, fin = .done (.ret (.ref a)) ∧ s'.heap.get? a = some o ∧ o.cls = .type "type" ∧ Q (.ref a) s') noE s) :
    wpAny (model prog w) A (call (.type "type") [n, b, c]) Q E s := by
  refine wpAny_call (codeAny_of_tree ?_)
  show wpAny _ A.in1 (callAny (.type "type") ⟨[n, b, c], []⟩) _ _ s
  show wpAny _ A.in1 (pure (Fin.again (.builtin "type.__call__" ⟨.type "type" :: [n, b, c], []⟩))) _ _ s
  refine wpAny_pure ⟨Code.quiet_builtin _ (by decide +kernel), codeAny_builtin F.entry_type_call ?_⟩
  rw [Around.under_plain (weight_type_call_type "type" [n, b, c] []) (units_type_call_type "type" [n, b, c] [])]
  unfold Builtin.«type.__call__»
  repeat wp_delta
  refine bm_if_true rfl ?_
  refine bm_if_false rfl ?_
  refine bm_if_false rfl ?_
  repeat wp_delta
  refine bm_if_false (by decide +kernel) ?_
  refine wpAny_bind (wpAny_of_eq (tc_check _ _ _) ?_)
  refine wpAny_bind (wpAny_of_eq tc_mro ?_)
  refine bm_if_false rfl ?_
  refine wpAny_bind (wpAny_of_eq tc_made ?_)
  repeat wp_delta
  refine wpAny_bind (wpAny_pure ?_)
  refine wpAny_bind (wpAny_holding (wpAny_call (codeAny_of_tree ?_)))
  show wpAny _ A.in1.in1 (do checkBuiltinCall "type.__new__" ⟨[.type "type", n, b, c], []⟩; again (.builtin "type.__new__" ⟨[.type "type", n, b, c], []⟩)) _ _ _
  refine wpAny_bind (wpAny_of_eq (tc_newCheck _ _ _) (wpAny_pure ⟨plainId_quiet tc_plain _, codeAny_builtin tc_entry ?_⟩))
  rw [Around.under_plainId tc_plain _]
  refine wpAny_mono H (fun fin s' hf => ?_) fun _ _ x => x.elim
  obtain ⟨a, o, rfl, ho, hc, q⟩ := hf
  show wpAny _ _ _ _ _ _
  refine wpAny_bind (wpAny_isInstance ⟨o, ho, hc⟩ ty_sub3 ?_)
  refine bm_if_false rfl ?_
  refine wpAny_bind (wpAny_holding (wpAny_callSpecial?_slot (name := Str.ofString "__init__") ⟨o, ho, hc⟩ tc_slot_init (wpAny_call_entry tc_slot_init ⟨o, ho, hc⟩ tc_entry_init ?_ (tc_args_init _ _ _ _))))
  unfold Builtin.«type.__init__»
  refine bm_if_false rfl ?_
  refine bm_if_false rfl ?_
  refine wpAny_pure ⟨.none, rfl, ?_⟩
  exact bm_if_false rfl (wpAny_pure q)
end Mine
end
noncomputable section
open PySem PySem.W PySem.W.X PyProof.Rows
set_option Elab.async false
set_option linter.unusedVariables false
set_option maxRecDepth 100000
namespace Mine
section
variable {M : Model} {A : Around} {E : Value → Shared → Prop} {s : Shared}
theorem hd_at {h h' : Heap} {c P : Addr} (x : CodeHd h c P) (k : ∀ o, h.get? c = some o → h'.get? c = some o) : CodeHd h' c P := by
  obtain ⟨o, vs, file, tf, flags, tg, inF, text, tt, e, r⟩ := x
  exact ⟨o, vs, file, tf, flags, tg, inF, text, tt, k o e, r⟩
/-- a code table of the heap -/
structure Tab (h : Heap) (c P : Addr) (ps : Array Value) : Prop where
  hd : CodeHd h c P
  tab : h.get? P = some (tabObj ps)
  ok : TriplesOk ps.toList
theorem Tab.keeps {h h' : Heap} {c P : Addr} {ps : Array Value} (T : Tab h c P ps) (k : ∀ b o, h.get? b = some o → h'.get? b = some o) : Tab h' c P ps := ⟨T.hd.keeps k, k _ _ T.tab, T.ok⟩
theorem Tab.other {h h' : Heap} {c P : Addr} {ps : Array Value} (T : Tab h c P ps) {S : Addr → Prop} (k : ∀ b o, ¬ S b → h.get? b = some o → h'.get? b = some o) (hP : ¬ S P) (hc : ¬ S c) : Tab h' c P ps :=
  ⟨hd_at T.hd fun _ e => k _ _ hc e, k _ _ hP T.tab, T.ok⟩
/-- what a look for a code brings -/
noncomputable def Next (pos : Pos) (c' : Addr) (ps ps' : Array Value) : Prop := (codeAmong pos ps.toList = some (.ref c') ∧ ps' = ps) ∨ (codeAmong pos ps.toList = none ∧ ps' = ps ++ #[rawInt pos.line, rawInt pos.col, .ref c'])
theorem class_code {env : Env} {c P : Addr} {ps : Array Value} {pos : Pos} {firstLine : Nat} {name qualname : Str} {scope : Scope} {Q : Value → Shared → Prop} (hc : env.code = .ref c) (T : Tab s.heap c P ps) (hnf : codeAmong pos ps.toList = none)
    (hQ : ∀ c' P' h' tk, Heap.ExtBut P s.heap h' → s.heap.objs.size ≤ c' → s.heap.objs.size ≤ P' → c' ≠ P' → s.heap.objs.size ≤ h'.objs.size → Tab h' c' P' #[] → h'.CodeRec (.ref c') qualname → Tab h' c P (ps ++ #[rawInt pos.line, rawInt pos.col, .ref c']) → Q (.ref c') { s with heap := h', toks := tk }) :
    wpAny M A (classCode env pos firstLine name qualname scope) Q E s := by
  have hok := T.hd.code T.tab T.ok
  have htab := T.hd.tab T.tab
  obtain ⟨o, vs, file, tf, flags, tg, inF, text, tt, op, ho, hd, h11, h2, h7, h9, h10, hop, hpd, htr, hne⟩ := id hok
  unfold classCode codeAt
  rw [hc, if_neg (show ¬ ((Value.ref c == Value.none) = true) from Bool.false_ne_true)]
  refine wpAny_bind (wpAny_fieldsOf ho hd ?_)
  rw [h11]
  refine wpAny_bind (wpAny_fieldsOf hop hpd ?_)
  rw [hnf, h2, h7, h9, h10]
  refine wpAny_bind (wpAny_newCodeX fun c' P' h' tk hk hc' hP' hcode' htab' hrec' => ?_)
  have hop' := hk _ _ hop
  refine wpAny_bind (wpAny_updateFieldsOfTheText hop' hpd ?_)
  have hnew : (Obj.mapFields (fun vs => if (codeAmong pos vs.toList).isSome = true then vs else vs ++ #[rawInt pos.line, rawInt pos.col, .ref c']) op).data =
      .fields (ps ++ #[rawInt pos.line, rawInt pos.col, .ref c']) := by
    rw [Obj.data_mapFields hpd, hnf]; rfl
  have hget := Heap.get?_update_self (h := h') (fun o => Obj.mapFields (fun vs => if (codeAmong pos vs.toList).isSome = true then vs else
    vs ++ #[rawInt pos.line, rawInt pos.col, .ref c']) o) hop' (Obj.isFreed_of_fields hnew)
  refine wpAny_bind (wpAny_fieldsOf hget hnew ?_)
  have hl : (ps ++ #[rawInt pos.line, rawInt pos.col, Value.ref c']).toList = ps.toList ++ [rawInt pos.line, rawInt pos.col, .ref c'] := by simp
  rw [hl, codeAmong_snoc _ htr hnf]
  have hcP : c' ≠ P := Nat.ne_of_gt (Nat.lt_of_lt_of_le (Heap.lt_size hop) hc')
  have hP'P : P' ≠ P := Nat.ne_of_gt (Nat.lt_of_lt_of_le (Heap.lt_size hop) hP')
  have sb := Heap.SameBut.update h' P (fun o => Obj.mapFields (fun vs => if (codeAmong pos vs.toList).isSome = true then vs else vs ++ #[rawInt pos.line, rawInt pos.col, .ref c']) o)
  have hd' := CodeHd.of hcode' htab'
  refine wpAny_pure (hQ c' P' _ _ (fun b o' hb e => sb.extBut b o' hb (hk b o' e)) hc' hP' ?_ ?_ ?_ ?_ ?_)
  · obtain ⟨_, _, _, _, _, _, _, _, _, _, _, _, _, _, _, _, _, _, r⟩ := hd'; exact r
  · rw [Heap.size_after_update]; exact Nat.le_trans hc' (Nat.le_of_lt hcode'.lt.1)
  · exact ⟨hd_at hd' fun _ e => sb.extBut _ _ hcP e, sb.extBut _ _ hP'P htab'.2, trivial⟩
  · obtain ⟨c₂, o₂, vs₂, t₂, e₂, g₂, r₂⟩ := hrec'
    cases e₂
    exact ⟨_, o₂, vs₂, t₂, rfl, sb.extBut _ _ hcP g₂, r₂⟩
  · refine ⟨hd_at T.hd fun _ e => sb.extBut _ _ hne (hk _ _ e), ?_, by rw [hl]; exact TriplesOk_snoc _ _ _ _ htr⟩
    have e1 : op = tabObj ps := Option.some.inj (hop.symm.trans T.tab)
    rw [hget, e1]
    simp only [Obj.mapFields, hnf]
    rfl
/-- a function's code -/
noncomputable def CodeK (h : Heap) (c : Addr) (q : Str) : Prop := ∃ o vs t, h.get? c = some o ∧ o.cls = .type "code" ∧ o.data = .fields vs ∧ vs[1]? = some (.str q t)
theorem CodeK.cr {h : Heap} {c : Addr} {q : Str} (x : CodeK h c q) : h.CodeRec (.ref c) q := let ⟨o, vs, t, e, _, r⟩ := x; ⟨c, o, vs, t, rfl, e, r⟩
theorem CodeK.of {h : Heap} {c P : Addr} {ps : Array Value} {q : Str} (x : h.CodeRec (.ref c) q) (y : h.TableAt c P ps) : CodeK h c q := by
  obtain ⟨c₂, o₂, vs₂, t₂, e₂, g₂, r₂⟩ := x
  cases e₂
  obtain ⟨⟨o, vs, e, hc, _⟩, _⟩ := y
  rw [g₂] at e; cases e
  exact ⟨o₂, vs₂, t₂, g₂, hc, r₂⟩
theorem CodeK.keeps {h h' : Heap} {c : Addr} {q : Str} (x : CodeK h c q) (k : ∀ b o, h.get? b = some o → h'.get? b = some o) : CodeK h' c q := let ⟨o, vs, t, e, r⟩ := x; ⟨o, vs, t, k _ _ e, r⟩
/-- a def's function -/
noncomputable abbrev defFn (name qual : Str) (params : Arguments) (body : FuncBody) (scope : Scope) (cl : List (Str × Addr)) (pm cdv ct : Value) : FuncData :=
  { name, qualname := qual, params, body, scope, globals := mainGlobals, closure := cl, defaults := .none, kwdefaults := .none, doc := .none, pyModule := pm, annotations := none, code := cdv, closureTuple := ct, builtins := builtinsNs }
noncomputable abbrev fnObj (fd : FuncData) : Obj := { cls := .type "function", data := .func fd }
theorem mk_fn {name qual : Str} {params : Arguments} {body : FuncBody} {scope : Scope} {env : Env} {c P : Addr} {ps : Array Value} {pos : Pos} {firstLine : Nat} {mg : Str → Option Value} {clos : List (Str × Addr)} {Q : Value → Shared → Prop}
    (hcl : closureFor scope env = pure clos) (hge0 : env.globals = mainGlobals) (hg : s.heap.Ns mainGlobals mg) (hcode : env.code = .ref c) (T : Tab s.heap c P ps) (hdoc : ∀ b, body = .stmts b → docOf b = none)
    (hn : codeAmong pos ps.toList = none ∨ ∃ c', codeAmong pos ps.toList = some (.ref c') ∧ CodeK s.heap c' qual) (hgP : mainGlobals ≠ P) (hb : s.heap.BuiltinsAt mg P)
    (h : ∀ c' ctv h' tk ps', Heap.ExtBut P s.heap h' → s.heap.objs.size ≤ h'.objs.size → Next pos c' ps ps' → CodeK h' c' qual → Tab h' c P ps' →
      Q (.ref h'.objs.size) { s with heap := h'.push (fnObj (defFn name qual params body scope clos ((mg "__name__").getD .none) (.ref c') ctv)), toks := tk }) :
    wpAny M A (makeFunction name qual params body scope env [] [] [] pos firstLine) Q E s := by
  obtain ⟨bm, ob, hbm, hne0, _, hneP, hbo, hcls, hdict, hdata⟩ := hb
  have docs : ∀ {Q : Value → Shared → Prop} {s : Shared}, Q .none s → wpAny M A (match body with | .stmts b => (match docOf b with | some s => mkText s | none => pure .none) | .expr _ => pure .none) Q E s := fun {Q s} q => by
    cases body with
    | stmts b => simp only [hdoc b rfl]; exact wpAny_pure q
    | expr e => exact wpAny_pure q
  rw [makeFunction_eq]
  simp only [List.zip_nil_right, List.filterMap_nil, List.isEmpty_nil, if_true, pure_bind]
  unfold makeTail
  rw [hcl, hge0]
  refine wpAny_bind (wpAny_pure ?_)
  have fin : ∀ (ctv : Value) (s' : Shared), (∃ H : Heap, s'.heap = H) → Heap.ExtBut P s.heap s'.heap → s.heap.objs.size ≤ s'.heap.objs.size → Tab s'.heap c P ps → s'.heap.Ns mainGlobals mg → s'.heap.get? bm = some ob → (∀ c', CodeK s.heap c' qual → CodeK s'.heap c' qual) →
      (∀ h' tk, { s' with heap := h', toks := tk } = { s with heap := h', toks := tk }) →
      wpAny M A (functionCode env pos firstLine name qual params scope body) (fun cd s₁ => wpAny M A (builtinsFor mainGlobals env.builtins) (fun b s₂ => wpAny M A (nsGet mainGlobals "__name__") (fun nm s₃ => wpAny M A (match body with | .stmts b => (match docOf b with | some s => mkText s | none => pure .none) | .expr _ => pure .none) (fun dv s₄ =>
        wpAny M A (newObj (.type "function") (.func { name, qualname := qual, params, body, scope, globals := mainGlobals, closure := clos, closureTuple := ctv, code := cd, builtins := b, defaults := .none, kwdefaults := .none, annotations := none, pyModule := nm.getD .none, doc := dv })) Q E s₄) E s₃) E s₂) E s₁) E s' := by
    intro ctv s' _ hx hsz T' hg' hbo' hrk hss
    rcases hn with hnf | ⟨c', hf, hr⟩
    · refine wpAny_functionCodeX hcode (T'.hd.code T'.tab T'.ok) (T'.hd.tab T'.tab) hnf fun c' h' tk hx' hge hlt hok hrec htb ⟨P', _, _, htc⟩ => ?_
      have hg'' := hg'.extBut hx' hgP
      refine wpAny_builtinsFor hg'' hbm hne0 (hx' _ _ hneP hbo') hcls hdict hdata ?_
      refine wpAny_nsGet hg'' (docs (wpAny_newObj_type ?_ (by size_fits)))
      have hne : c ≠ P := by obtain ⟨_, _, _, _, _, _, _, _, _, _, _, _, _, _, _, _, _, _, r⟩ := T'.hd; exact r
      have T2 : Tab h' c P (ps ++ #[rawInt pos.line, rawInt pos.col, .ref c']) := ⟨CodeHd.of hok htb, htb.2, by
        have hl : (ps ++ #[rawInt pos.line, rawInt pos.col, Value.ref c']).toList = ps.toList ++ [rawInt pos.line, rawInt pos.col, .ref c'] := by simp
        rw [hl]; exact TriplesOk_snoc _ _ _ _ T'.ok⟩
      have := h c' ctv h' tk _ (fun b o hb e => hx' b o hb (hx b o hb e)) (Nat.le_trans hsz (Nat.le_of_lt (Nat.lt_of_le_of_lt hge hlt))) (.inr ⟨hnf, rfl⟩) (CodeK.of hrec htc) T2
      rw [← hss] at this
      exact this
    · refine wpAny_functionCode_hit hcode (T'.hd.code T'.tab T'.ok) hf ?_
      refine wpAny_builtinsFor hg' hbm hne0 hbo' hcls hdict hdata ?_
      refine wpAny_nsGet hg' (docs (wpAny_newObj_type ?_ (by size_fits)))
      have := h c' ctv s'.heap s'.toks ps hx hsz (.inl ⟨hf, rfl⟩) (hrk _ hr) T'
      rw [← hss] at this
      exact this
  have last : ∀ {F : Value → Sem Value} {s₃ : Shared}, wpAny M A (match body with | .stmts b => (match docOf b with | some s => mkText s | none => pure .none) | .expr _ => pure .none) (fun dv s₄ => wpAny M A (F dv) Q E s₄) E s₃ →
      wpAny M A (match body with | .stmts b => ((match docOf b with | some s => mkText s | none => pure .none) >>= F) | .expr _ => (pure .none >>= F)) Q E s₃ := fun {F s₃} h₃ => by
    cases body with
    | stmts b => exact wpAny_bind h₃
    | expr e => exact wpAny_bind h₃
  cases clos with
  | nil =>
    simp only [List.isEmpty_nil, if_true]
    refine wpAny_bind (wpAny_pure ?_)
    refine wpAny_bind (wpAny_mono (fin .none s ⟨_, rfl⟩ (fun _ _ _ e => e) (Nat.le_refl _) T hg hbo (fun _ r => r) fun _ _ => rfl) (fun cd s₁ h₁ => wpAny_bind (wpAny_mono h₁ (fun b s₂ h₂ => wpAny_bind (wpAny_mono h₂ (fun nm s₃ h₃ => last h₃) fun _ _ x => x)) fun _ _ x => x)) fun _ _ x => x)
  | cons q r =>
    simp only [List.isEmpty_cons, Bool.false_eq_true, if_false]
    refine wpAny_bind (wpAny_newTextTuple ?_)
    have kp : ∀ (oT : Obj) b o, s.heap.get? b = some o → (s.heap.push oT).get? b = some o := fun oT b o e => Heap.get?_push_of_some _ e
    refine wpAny_bind (wpAny_mono (fin _ _ ⟨_, rfl⟩ (fun b o _ e => kp _ b o e) (by rw [Heap.size_push]; omega) (T.keeps (kp _)) (hg.push _) (kp _ _ _ hbo) (fun c' x => x.keeps (kp _)) fun _ _ => rfl) (fun cd s₁ h₁ => wpAny_bind (wpAny_mono h₁ (fun b s₂ h₂ => wpAny_bind (wpAny_mono h₂ (fun nm s₃ h₃ => last h₃) fun _ _ x => x)) fun _ _ x => x)) fun _ _ x => x)
end
end Mine
end
noncomputable section
open PySem PySem.W PySem.W.X PyProof.Rows
set_option Elab.async false
set_option linter.unusedVariables false
set_option maxRecDepth 100000
namespace Mine
section
variable {M : Model} {A : Around} {E : Value → Shared → Prop} {s : Shared}
theorem s_nsSet {a : Addr} {name : Str} {v : Value} {es : List DictEntry} {n n' : Nat} {es' : Int → Value → List DictEntry} {Q : Unit → Shared → Prop} (ho : s.heap.get? a = some (dobj es n)) (e1 : aRefKeyMayBeTheName name es.toArray = false) (e2 : ∀ k x, Obj.putName name k x v (dobj es n) = dobj (es' k x) n')
    (q : ∀ k h', Heap.SameBut a s.heap h' → h'.get? a = some (dobj (es' k (.str name s.toks)) n') → Q () { s with heap := h', toks := s.toks + 1 }) : wpAny M A (nsSet a name v) Q E s := by
  unfold nsSet strHash
  refine wpAny_bind (wpAny_bind (wpAny_askSetting (wpAny_pure ?_)))
  refine wpAny_bind (wpAny_mkText ?_)
  refine wpAny_bind (wpAny_loadPart ho ?_)
  show wpAny M A (if aRefKeyMayBeTheName name es.toArray = true then _ else _) Q E _
  rw [e1]
  have key : ∀ hh, Q () { s with heap := s.heap.update a (Obj.putName name hh (.str name s.toks) v), toks := s.toks + 1 } := fun hh => q hh _ (Heap.SameBut.update ..) (by
    have := Heap.get?_update_self (h := s.heap) (Obj.putName name hh (Value.str name s.toks) v) ho (by rw [e2]; rfl)
    rw [e2] at this
    exact this)
  exact wpAny_updatePart ho (key _)
theorem store_cls {env : Env} {x : Str} {v : Value} {es : List DictEntry} {n n' : Nat} {es' : Int → Value → List DictEntry} {Q : Unit → Shared → Prop} (hk : env.scope.kind = .class) (hx : env.kindOf x = some .local ∨ (env.kindOf x = none ∧ compilersOwnNames.contains x = true)) (ho : s.heap.get? env.locals = some (dobj es n))
    (e1 : aRefKeyMayBeTheName x es.toArray = false) (e2 : ∀ k y, Obj.putName x k y v (dobj es n) = dobj (es' k y) n')
    (q : ∀ k h', Heap.SameBut env.locals s.heap h' → h'.get? env.locals = some (dobj (es' k (.str x s.toks)) n') → Q () { s with heap := h', toks := s.toks + 1 }) : wpAny M A (storeName env x v) Q E s := by
  have hl : wpAny M A (localSet env x v) Q E s := by
    unfold localSet
    exact wpAny_bind (wpAny_load ho (bm_if_true rfl (s_nsSet ho e1 e2 q)))
  have hb : env.blockKind = .class := by unfold Env.blockKind; rw [hk]; rfl
  unfold storeName
  rw [hb]
  rcases hx with hx | ⟨hx, hc⟩
  · rw [hx, hk]
    exact hl
  · rw [hx, hk, hc]
    exact hl
end
/-- the class body's state -/
structure Cb (nsA P : Addr) (h₁ h : Heap) (es : List DictEntry) (n : Nat) : Prop where
  keep : ∀ b o, b ≠ nsA → b ≠ P → h₁.get? b = some o → h.get? b = some o
  size : h₁.objs.size ≤ h.objs.size
  ns : h.get? nsA = some (dobj es n)
section
variable {prog : Program} {w : World} {A : Around} {E : Value → Shared → Prop} {h₁ h : Heap} {g : Array GenState} {d : Drawn} {t : Nat} {os : OsState} {env : Env} {c P : Addr} {es : List DictEntry} {n : Nat} {ps : Array Value}
theorem Cb.same {nsA : Addr} {h' : Heap} {es' : List DictEntry} {n' : Nat} (C : Cb nsA P h₁ h es n) (hs : Heap.SameBut nsA h h') (e : h'.get? nsA = some (dobj es' n')) : Cb nsA P h₁ h' es' n' :=
  ⟨fun b o a b' e' => (hs.2 b a).trans (C.keep b o a b' e'), Nat.le_trans C.size (Nat.le_of_eq hs.1.symm), e⟩
/-- x = 'text' in the class -/
theorem cls_str {x : Str} {p p2 pos : Pos} {v : Str} {k : Nat} {n' : Nat} {es' : Int → Value → Value → List DictEntry} {Q : Flow → Shared → Prop} (hk : env.scope.kind = .class) (hx : env.kindOf x = some .local) (hne : env.locals ≠ c ∧ env.locals ≠ P) (C : Cb env.locals P h₁ h es n) (T : Tab h c P ps)
    (e1 : aRefKeyMayBeTheName x es.toArray = false) (e2 : ∀ y k z, Obj.putName x k z y (dobj es n) = dobj (es' k z y) n')
    (q : ∀ k h' t', Cb env.locals P h₁ h' (es' k (.str x (t + 1)) (.str v t)) n' → Tab h' c P ps → (∀ b o, b ≠ env.locals → h.get? b = some o → h'.get? b = some o) → Q .next ⟨h', g, d, t', os⟩)
    (hs : swapsWith (.Constant (.str v) k p2) (some (.Name x p)) pos.line env = pure false) (hz : v.length ≤ sizeLine) : wpAny (model prog w) A (exec (.Assign [.Name x p] (.Constant (.str v) k p2) pos) env) Q E ⟨h, g, d, t, os⟩ := by
  refine wpAny_Assign_Name (wpAny_Constant_str ?_) hs
  refine store_cls hk (.inl hx) C.ns e1 (e2 _) fun k' h' hs' e' => ?_
  have kp : ∀ b o, ¬ b = env.locals → h.get? b = some o → h'.get? b = some o := fun b o hb e => (hs'.2 b hb).trans e
  exact q k' h' _ (C.same hs' e') (T.other kp (fun q => hne.2 q.symm) fun q => hne.1 q.symm) fun b o hb e => kp b o hb e
/-- x = ['text'] in the class -/
theorem cls_list {x : Str} {p p2 p3 pos : Pos} {v : Str} {k : Nat} {n' : Nat} {es' : Int → Value → Value → List DictEntry} {Q : Flow → Shared → Prop} (hk : env.scope.kind = .class) (hx : env.kindOf x = some .local) (hne : env.locals ≠ c ∧ env.locals ≠ P) (C : Cb env.locals P h₁ h es n) (T : Tab h c P ps)
    (e1 : aRefKeyMayBeTheName x es.toArray = false) (e2 : ∀ y k z, Obj.putName x k z y (dobj es n) = dobj (es' k z y) n')
    (q : ∀ k l t0 t1 h' t', Cb env.locals P h₁ h' (es' k (.str x t0) (.ref l)) n' → Tab h' c P ps → (∀ b o, b ≠ env.locals → h.get? b = some o → h'.get? b = some o) → h'.get? l = some { cls := .type "list", data := .seq #[.str v t1] } → Q .next ⟨h', g, d, t', os⟩)
    (hs : swapsWith (.List [.Constant (.str v) k p2] p3) (some (.Name x p)) pos.line env = pure false) : wpAny (model prog w) A (exec (.Assign [.Name x p] (.List [.Constant (.str v) k p2] p3) pos) env) Q E ⟨h, g, d, t, os⟩ := by
  refine wpAny_Assign_Name (wpAny_List_spliced (args_cons (wpAny_Constant_str (args_nil ?_)))) hs
  refine ⟨by size_fits, ?_⟩
  have kp0 : ∀ b o, h.get? b = some o → (h.push { cls := .type "list", dict := none, data := .seq [Value.str v t].toArray }).get? b = some o := fun b o e => Heap.get?_push_of_some _ e
  refine store_cls hk (.inl hx) (kp0 _ _ C.ns) e1 (e2 _) fun k' h' hs' e' => ?_
  have hl : (h.push { cls := .type "list", dict := none, data := .seq [Value.str v t].toArray }).get? h.objs.size = some { cls := .type "list", data := .seq [Value.str v t].toArray } := Heap.get?_push_size _ rfl
  have kp : ∀ b o, ¬ b = env.locals → h.get? b = some o → h'.get? b = some o := fun b o hb e => (hs'.2 b hb).trans (kp0 _ _ e)
  have hlne : h.objs.size ≠ env.locals := Nat.ne_of_gt (Heap.lt_size C.ns)
  have C' : Cb env.locals P h₁ (h.push { cls := .type "list", dict := none, data := .seq [Value.str v t].toArray }) es n := ⟨fun b o a b' e => kp0 _ _ (C.keep b o a b' e), Nat.le_trans C.size (by rw [Heap.size_push]; omega), kp0 _ _ C.ns⟩
  exact q k' _ _ t h' _ (C'.same hs' e') (T.other kp (fun q => hne.2 q.symm) fun q => hne.1 q.symm) (fun b o hb e => kp b o hb e) ((hs'.2 _ hlne).trans hl)
theorem cls_none {x : Str} {p p2 pos : Pos} {k : Nat} {n' : Nat} {es' : Int → Value → List DictEntry} {Q : Flow → Shared → Prop} (hk : env.scope.kind = .class) (hx : env.kindOf x = some .local) (hne : env.locals ≠ c ∧ env.locals ≠ P) (C : Cb env.locals P h₁ h es n) (T : Tab h c P ps)
    (e1 : aRefKeyMayBeTheName x es.toArray = false) (e2 : ∀ k z, Obj.putName x k z .none (dobj es n) = dobj (es' k z) n')
    (q : ∀ k t0 h' t', Cb env.locals P h₁ h' (es' k (.str x t0)) n' → Tab h' c P ps → (∀ b o, b ≠ env.locals → h.get? b = some o → h'.get? b = some o) → Q .next ⟨h', g, d, t', os⟩)
    (hs : swapsWith (.Constant .none k p2) (some (.Name x p)) pos.line env = pure false) : wpAny (model prog w) A (exec (.Assign [.Name x p] (.Constant .none k p2) pos) env) Q E ⟨h, g, d, t, os⟩ := by
  refine wpAny_Assign_Name (wpAny_Constant_none ?_) hs
  refine store_cls hk (.inl hx) C.ns e1 e2 fun k' h' hs' e' => ?_
  have kp : ∀ b o, ¬ b = env.locals → h.get? b = some o → h'.get? b = some o := fun b o hb e => (hs'.2 b hb).trans e
  exact q k' _ h' _ (C.same hs' e') (T.other kp (fun q => hne.2 q.symm) fun q => hne.1 q.symm) fun b o hb e => kp b o hb e
/-- a def in the class -/
theorem cls_def {name qual : Str} {args : Arguments} {body : List Stmt} {scope : Scope} {pos : Pos} {mg : Str → Option Value} {clos : List (Str × Addr)} {n' : Nat} {es' : Int → Value → Value → List DictEntry} {Q : Flow → Shared → Prop} (hk : env.scope.kind = .class) (hx : env.kindOf name = some .local) (hne : env.locals ≠ c ∧ env.locals ≠ P) (C : Cb env.locals P h₁ h es n) (T : Tab h c P ps)
    (e1 : aRefKeyMayBeTheName name es.toArray = false) (e2 : ∀ y k z, Obj.putName name k z y (dobj es n) = dobj (es' k z y) n')
    (hd : defaultsOf args env = ([], [])) (ha : annTrees args none env = []) (hq : qualnameIn env name name = qual) (hdoc : docOf body = none) (hcl : closureFor scope env = pure clos) (hge0 : env.globals = mainGlobals) (hg : h.Ns mainGlobals mg) (hcode : env.code = .ref c)
    (hn : codeAmong pos ps.toList = none ∨ ∃ c', codeAmong pos ps.toList = some (.ref c') ∧ CodeK h c' qual) (hgP : mainGlobals ≠ P ∧ mainGlobals ≠ env.locals) (hb : h.BuiltinsAt mg P)
    (q : ∀ k t0 f c' ctv ps' h' t', Cb env.locals P h₁ h' (es' k (.str name t0) (.ref f)) n' → Tab h' c P ps' → (∀ b o, b ≠ env.locals → b ≠ P → h.get? b = some o → h'.get? b = some o) → Next pos c' ps ps' → CodeK h' c' qual → h'.get? f = some (fnObj (defFn name qual args (.stmts body) scope clos ((mg "__name__").getD .none) (.ref c') ctv)) → h.objs.size ≤ f → Q .next ⟨h', g, d, t', os⟩) :
    wpAny (model prog w) A (exec (.FunctionDef name args body [] none [] scope none name pos) env) Q E ⟨h, g, d, t, os⟩ := by
  rw [exec_def, hd, ha, hq]
  refine wpAny_bind (wpAny_standAt (wpAny_bind (wpAny_holding (wpAny_bind (wpAny_pure (wpAny_bind (wpAny_holding (wpAny_pure (wpAny_holding (wpAny_bind (wpAny_pure ?_))))))))))) 
  refine mk_fn (s := ⟨h, g, d, t, os⟩) hcl hge0 hg hcode T (fun b e => by cases e; exact hdoc) hn hgP.1 hb fun c' ctv h2 tk ps' hx2 hsz hnx hrec T2 => ?_
  refine wpAny_bind (wpAny_standAt (wpAny_bind (wpAny_bindName ?_)))
  have kp0 : ∀ b o, h2.get? b = some o → (h2.push (fnObj (defFn name qual args (.stmts body) scope clos ((mg "__name__").getD .none) (.ref c') ctv))).get? b = some o := fun b o e => Heap.get?_push_of_some _ e
  have nsP : env.locals ≠ P := hne.2
  have hns : (h2.push (fnObj (defFn name qual args (.stmts body) scope clos ((mg "__name__").getD .none) (.ref c') ctv))).get? env.locals = some (dobj es n) := kp0 _ _ (hx2 _ _ nsP C.ns)
  have hsz' : h.objs.size ≤ h2.objs.size := hsz
  refine store_cls hk (.inl hx) hns e1 (e2 _) fun k' h' hs' e' => ?_
  have hf : (h2.push (fnObj (defFn name qual args (.stmts body) scope clos ((mg "__name__").getD .none) (.ref c') ctv))).get? h2.objs.size = some (fnObj (defFn name qual args (.stmts body) scope clos ((mg "__name__").getD .none) (.ref c') ctv)) := Heap.get?_push_size _ rfl
  have lns := Heap.lt_size C.ns
  have hfne : h2.objs.size ≠ env.locals := Nat.ne_of_gt (Nat.lt_of_lt_of_le lns hsz')
  have kp : ∀ b o, ¬ b = env.locals → h2.get? b = some o → h'.get? b = some o := fun b o hb e => (hs'.2 b hb).trans (kp0 _ _ e)
  have C' : Cb env.locals P h₁ (h2.push (fnObj (defFn name qual args (.stmts body) scope clos ((mg "__name__").getD .none) (.ref c') ctv))) es n := ⟨fun b o a b' e => kp0 _ _ (hx2 _ _ b' (C.keep b o a b' e)), Nat.le_trans C.size (Nat.le_trans hsz' (by rw [Heap.size_push]; omega)), hns⟩
  have hrec' : CodeK h' c' qual := by
    obtain ⟨o₂, vs₂, t₂, g₂, hcc, r₂⟩ := hrec
    refine ⟨o₂, vs₂, t₂, kp _ _ (fun q => ?_) g₂, hcc, r₂⟩
    have e3 := hx2 _ _ nsP C.ns
    rw [q] at g₂
    have := Option.some.inj (g₂.symm.trans e3)
    rw [this] at r₂
    cases r₂.1
  exact wpAny_pure (q k' _ _ c' ctv ps' h' _ (C'.same hs' e') (T2.other kp (fun q => hne.2 q.symm) fun q => hne.1 q.symm) (fun b o hb hb' e => kp b o hb (hx2 _ _ hb' e)) hnx hrec' ((hs'.2 _ hfne).trans hf) hsz')
end
end Mine
end
noncomputable section
open PySem PySem.W PySem.W.X PyProof.Rows
set_option Elab.async false
set_option linter.unusedVariables false
set_option maxRecDepth 100000
namespace Mine
variable {prog : Program} {w : World} {G : Heap → Prop} {Z : Addr → Prop}
/-- a call that may turn the objects of O -/
noncomputable def CallO (prog : Program) (w : World) (G : Heap → Prop) (k : Nat) (O : Addr → Prop) (P : Heap → Prop) (f : Value) (ds : List D) (R : (Addr → Prop) → Heap → Value → Prop) : Prop :=
  ∀ A, Bud k A → ∀ X h g dr tk o vs, G h → Alive X h → (∀ b, O b → X b) → P h → Reps h X ds vs → wpJ (model prog w) A (call f vs) (Post g dr o O h fun h' v => R X h' v) ⟨h, g, dr, tk, o⟩
theorem call_fnO (W : Glob G Z) {a : Addr} {fd : FuncData} {body : List Stmt} {names : List Str} {ds : List D} {k : Nat} {O : Addr → Prop} {P : Heap → Prop} {R : (Addr → Prop) → Heap → Value → Prop} (hP : ∀ h h', Le h h' → P h → P h')
    (hG : ∀ h, G h → ∃ o, h.get? a = some o ∧ o.data = .func fd ∧ h.CodeRec fd.code fd.qualname)
    (hbody : fd.body = .stmts body) (hclo : fd.closure = [])
    (hbind : ∀ vs : List Value, vs.length = ds.length → bindArgs fd ⟨vs, []⟩ = pure (names.zip vs))
    (hloc : ∀ x ∈ names, fd.scope.names.lookup x = some .local ∨ fd.scope.names.lookup x = some .cell)
    (H : ∀ L, ¬ Z L → ∀ A, Bud k A → ∀ X h g dr tk o, (∀ b, O b → X b ∧ ¬ Mut (callEnvC fd L a) b) → (∀ b, X b → ¬ Mut (callEnvC fd L a) b) → Fok G Z X h (callEnvC fd L a) (bindR names ds nil) → P h → wpJ (model prog w) A (execs body (callEnvC fd L a)) (Post g dr o (fun b => Mut (callEnvC fd L a) b ∨ O b) h fun h' r => ∃ v, r = .ret v ∧ R X h' v) ⟨h, g, dr, tk, o⟩)
    (hco : fd.scope.isCoroutine = false := by rfl) (hgen : fd.scope.isGenerator = false := by rfl) (hk : fd.scope.kind = .function := by rfl) : CallO prog w G (k + 1) O P (.ref a) ds R := by
  intro A hA X h g dr tk o vs hg hx hO hPh r
  obtain ⟨ob, ho, hd, hcr⟩ := hG h hg
  refine wpJ_call (codeJ_call_cells (binds := names.zip vs) (hA.lt) ho hd (W.lim h hg) hcr hbody (hbind vs r.length) hclo ?_ ?_ hco hgen hk)
  · intro x hm
    have hm1 : x.1 ∈ names := (List.of_mem_zip hm).1
    rcases hloc x.1 hm1 with q | q
    · exact .inl q
    · exact .inr ⟨q, cellsFrom_has _ _ _ _ q⟩
  · intro s₁ x
    generalize hE : callEnvC fd h.objs.size a = env at x
    have henvL : env.locals = h.objs.size := by rw [← hE]; rfl
    have henvS : env.scope = fd.scope := by rw [← hE]; rfl
    have henvC : env.cells = cellsFrom (h.objs.size + 1) fd.scope.names [] := by rw [← hE]; rfl
    obtain ⟨h₁, tk₁, hs₁⟩ := x.toInCall.same
    subst hs₁
    have gr : Le h h₁ := .keeps x.toInCall.keep
    have kk : ∀ y, env.kindOf y = fd.scope.names.lookup y := fun y => by show env.scope.names.lookup y = _; rw [henvS]
    have F : Fok G Z X h₁ env (bindR names ds nil) := by
      have rel := bind_rel (h := h₁) (X := X) (kd := env.kindOf) names ds vs (r.le gr) (fun _ => none) (fun _ => none) nil (fun _ _ e => nomatch e)
      refine ⟨W.grow no h h₁ (fun _ x => x.elim) gr hg, hx.le gr, by rw [henvL]; exact W.fresh h hg _ (Nat.le_refl _), ⟨_, x.toInCall.ns, fun y d' e k' => (rel y d' e).1 k'⟩, fun y d' e k' => ?_, fun y k' => ?_, fun y z c e1 e2 => name_of_addr x.apart (mem_of_lookup e1) (mem_of_lookup e2)⟩
      · obtain ⟨v, e1, r1⟩ := (rel y d' e).2 k'
        have hc : fd.scope.names.lookup y = some .cell := by
          rcases bindR_dom names ds nil y d' e with m | ⟨_, m⟩
          · rcases hloc y m with q | q
            · exact absurd ((kk y).trans q) k'
            · exact q
          · cases m
        have := cellsFrom_has fd.scope.names (h.objs.size + 1) [] y hc
        rw [← henvC] at this
        obtain ⟨c, hc'⟩ := Option.isSome_iff_exists.mp this
        exact ⟨c, v, hc', e1 ▸ x.cell y c hc', r1⟩
      · have hc : fd.scope.names.lookup y = some .cell := (kk y).symm.trans k'
        have := cellsFrom_has fd.scope.names (h.objs.size + 1) [] y hc
        rw [← henvC] at this
        obtain ⟨c, hc'⟩ := Option.isSome_iff_exists.mp this
        refine ⟨c, _, hc', x.cell y c hc', ?_⟩
        have q1 : h.objs.size < c := henvL ▸ x.above y c (mem_of_lookup hc')
        exact W.fresh h hg _ (Nat.le_of_lt q1)
    have mnew : ∀ b, Mut env b → ¬ ∃ ob', h.get? b = some ob' := fun b mt ⟨ob', e⟩ => by
      have hlt := Heap.lt_size e
      rcases mt with q | ⟨y, hk1, hk2⟩
      · rw [q, henvL] at hlt; exact Nat.lt_irrefl _ hlt
      · have q1 : h.objs.size < b := henvL ▸ x.above y b (mem_of_lookup hk2)
        exact Nat.lt_irrefl _ (Nat.lt_trans hlt q1)
    subst hE
    refine wpJ_mono (H h.objs.size (W.fresh h hg _ (Nat.le_refl _)) (A.deeper _) hA.deeper X h₁ g dr tk₁ o (fun b hb => ⟨hO b hb, fun mt => mnew b mt (hx b (hO b hb))⟩) (fun b xb mt => mnew b mt (hx b xb)) F (hP _ _ gr hPh)) fun f s' hf => ?_
    obtain ⟨h', t', rfl, gm, v, rfl, rv⟩ := hf
    exact ⟨v, rfl, h', t', rfl, ⟨fun b ob' nb e => gm.old b ob' (fun q => q.elim (fun mt => mnew b mt ⟨ob', e⟩) nb) (gr.old b ob' (fun x => x) e)⟩, rv⟩
end Mine
end
noncomputable section
open PySem PySem.W PySem.W.X PyProof.Rows
set_option Elab.async false
set_option linter.unusedVariables false
set_option maxRecDepth 100000
namespace Mine
section
variable {prog : Program} {w : World} {h : Heap} {g : Array GenState} {d : Drawn} {t : Nat} {os : OsState} {Q : Value → Shared → Prop} {E : Value → Shared → Prop}
local macro_rules | `(tactic| x_close) => `(tactic| (apply_assumption <;> assumption))
set_option maxHeartbeats 0 in
theorem prep_x {t0 : Tok} (q : ∀ m h', Mem h h' [] [(m, { cls := .type "builtin_function_or_method", data := .fields #[.builtin "type.__prepare__", .type "type"] })] → Q (.ref m) ⟨h', g, d, t, os⟩) :
    wpAny (model prog w) AK (call (.builtin "type.__getattribute__") [.type "type", .str (Str.ofString "__prepare__") t0]) Q E ⟨h, g, d, t, os⟩ := by
  x_run
set_option maxHeartbeats 0 in
theorem prepcall_x {m bT : Addr} {t0 : Tok} (hm : h.get? m = some ⟨.type "builtin_function_or_method", none, .fields #[.builtin "type.__prepare__", .type "type"], #[]⟩)
    (q : ∀ a h', Mem h h' [] [(a, { cls := .type "dict", data := .dict #[] 0 })] → Q (.ref a) ⟨h', g, d, t, os⟩) :
    wpAny (model prog w) AK (call (.ref m) [.str (Str.ofString "K") t0, .ref bT]) Q E ⟨h, g, d, t, os⟩ := by
  x_run
end
section
variable {M : Model} {A : Around} {E : Value → Shared → Prop} {h₀ h : Heap} {g : Array GenState} {d : Drawn} {t : Nat} {os : OsState} {chg news : List (Addr × Obj)}
theorem m_newTuple {vs : List Value} {Q : Value → Shared → Prop} (D : Mem h₀ h chg news) (hz : Nat.ble vs.length 1000 = true) (q : ∀ a h', Mem h₀ h' chg ((a, { cls := .type "tuple", data := .seq vs.toArray }) :: news) → Q (.ref a) ⟨h', g, d, t, os⟩) : wpAny M A (newTuple vs) Q E ⟨h, g, d, t, os⟩ :=
  wpAny_newObj_type (q _ _ (D.alloc rfl)) (small_fits (k := 0) hz)
end
theorem ty_slot_ga : Slot "type" "__getattribute__" "type.__getattribute__" :=
  .of (owner := "type") (n := "__getattribute__") (by rw [typeLookup_type, builtinLookup_eq_fast]; kernel_rfl) (by decide +kernel) (by decide +kernel) (by decide +kernel)
    (by first | exact .inl (by decide +kernel) | exact .inr (by decide +kernel)) (by rw [isSubtype_type]; kernel_rfl)
theorem ty_typeType : typeOf (.type "type") = pure (.type "type") := by kernel_rfl
variable {prog : Program} {w : World} {A : Around} {h : Heap} {g : Array GenState} {d : Drawn} {t : Nat} {os : OsState} {E : Value → Shared → Prop}
set_option maxHeartbeats 4000000 in
theorem prep_attr {k : Nat} (hA : Bud k A) (hk : 52 ≤ k) {Q : Option Value → Shared → Prop} (q : ∀ m h' t', Mem h h' [] [(m, { cls := .type "builtin_function_or_method", data := .fields #[.builtin "type.__prepare__", .type "type"] })] → Q (some (.ref m)) ⟨h', g, d, t', os⟩) :
    wpAny (model prog w) A (getAttr? (.type "type") (Str.ofString "__prepare__")) Q E ⟨h, g, d, t, os⟩ := by
  unfold getAttr? getAttrBy? getAttrBy
  refine wpAny_bind (wpAny_mkText (wpAny_bind (wpAny_attempt (wpAny_holding (wpAny_bind (wpAny_of_eq ty_typeType (wpAny_bind (wpAny_of_eq ty_slot_ga.lookup ?_))))))))
  repeat wp_delta
  refine bm_if_false (by decide +kernel) ?_
  unfold getAttrByItsOwn
  repeat wp_step
  refine wpAny_of_eq (ty_slot_ga.bind (.type "type")) ?_
  wp_delta
  refine Bud.wk (k := 52) (hA.mono hk) (by decide) (prep_x fun m h' D => ?_)
  exact wpAny_pure (wpAny_pure (q m h' _ D))
end Mine
end
noncomputable section
open PySem PySem.W PySem.W.X PyProof.Rows
set_option Elab.async false
set_option linter.unusedVariables false
set_option maxRecDepth 100000
namespace Mine
noncomputable def fnOf (K : Frag) (a : Addr) : FuncData := match K.lookup a with
  | some ⟨_, _, .func fd, _⟩ => fd
  | _ => default
/-- the function cmp_to_key of the text -/
noncomputable def kFd (P : Params) : FuncData := fnOf (hd02.heap_39 P) 21
noncomputable def kBody (P : Params) : List Stmt := match (kFd P).body with
  | .stmts (.ClassDef _ _ _ b _ _ _ _ _ _ _ :: _) => b
  | _ => []
noncomputable def kScope (P : Params) : Scope := match (kFd P).body with
  | .stmts (.ClassDef _ _ _ _ _ _ sc _ _ _ _ :: _) => sc
  | _ => default
noncomputable def kenv (P : Params) (L nsA cK fr : Addr) : Env := { scope := kScope P, locals := nsA, globals := mainGlobals, cells := [(Str.ofString "mycmp", L + 1)], qual := qualnameIn (callEnvC (kFd P) L 21) (Str.ofString "K") (Str.ofString "K") ++ Str.ofString ".", code := .ref cK, frame := some fr, builtins := builtinsNs }
noncomputable def kq (i : Nat) : Str := match i with
  | 4 => Str.ofString "cmp_to_key.<locals>.K.__init__"
  | 5 => Str.ofString "cmp_to_key.<locals>.K.__lt__"
  | 6 => Str.ofString "cmp_to_key.<locals>.K.__gt__"
  | 7 => Str.ofString "cmp_to_key.<locals>.K.__eq__"
  | 8 => Str.ofString "cmp_to_key.<locals>.K.__le__"
  | _ => Str.ofString "cmp_to_key.<locals>.K.__ge__"
noncomputable def methFd (P : Params) (i : Nat) (cel : Addr) (pm cd ct : Value) : FuncData := match (kBody P)[i - 2]? with
  | some (.FunctionDef n ps b _ _ _ sc _ _ _) => defFn n (kq i) ps (.stmts b) sc (if i = 4 then [] else [(Str.ofString "mycmp", cel)]) pm cd ct
  | _ => default
/-- a method of the class -/
noncomputable def FnAt (P : Params) (h : Heap) (cel : Addr) (pm : Value) (i : Nat) (f c : Addr) : Prop := ∃ ct, h.get? f = some (fnObj (methFd P i cel pm (.ref c) ct)) ∧ CodeK h c (kq i)
/-- what makes need of the top -/
structure Gd (h : Heap) (mg : Str → Option Value) (PK nsA : Addr) : Prop where
  ns : h.Ns mainGlobals mg
  bu : h.BuiltinsAt mg PK
  bn : ∀ bm, mg "__builtins__" = some (.ref bm) → bm ≠ nsA
  g : mainGlobals ≠ PK ∧ mainGlobals ≠ nsA
theorem Gd.step {h h' : Heap} {mg : Str → Option Value} {PK nsA : Addr} (x : Gd h mg PK nsA) (k : ∀ b o, b ≠ nsA → b ≠ PK → h.get? b = some o → h'.get? b = some o) : Gd h' mg PK nsA := by
  refine ⟨?_, ?_, x.bn, x.g⟩
  · obtain ⟨o, es, ep, e, r⟩ := x.ns
    exact ⟨o, es, ep, k _ _ x.g.2 x.g.1 e, r⟩
  · obtain ⟨bm, o, h1, h2, h3, h4, h5, r⟩ := x.bu
    exact ⟨bm, o, h1, h2, h3, h4, k _ _ (x.bn bm h1) h4 h5, r⟩
theorem next_new {pos : Pos} {c' : Addr} {ps ps' : Array Value} (h : Next pos c' ps ps') (e : codeAmong pos ps.toList = none) : ps' = ps ++ #[rawInt pos.line, rawInt pos.col, .ref c'] := by
  rcases h with ⟨a, _⟩ | ⟨_, b⟩
  · rw [e] at a; cases a
  · exact b
theorem wpAny_runBody {prog : Program} {w : World} {A : Around} {E : Value → Shared → Prop} {s : Shared} {stmts : List Stmt} {env : Env} {Q : Flow → Shared → Prop} (hbs : blockStart stmts env = pure ()) (h : ∀ A, wpAny (model prog w) A (execs stmts env) Q noE s) : wpAny (model prog w) A (run (.body stmts env)) Q E s := by
  refine wpAny_run (codeAny_of_tree ?_)
  show wpAny _ _ (do blockStart stmts env; return Fin.done (← (execs stmts env).onRaise (leaving env))) _ _ _
  rw [hbs]
  exact wpAny_bind (wpAny_pure (wpAny_bind (wpAny_onRaise (wpAny_mono (h _) (fun f s' q => wpAny_pure q) fun _ _ x => x.elim))))
end Mine
end
noncomputable section
open PySem PySem.W PySem.W.X PyProof.Rows
set_option Elab.async false
set_option linter.unusedVariables false
set_option maxRecDepth 100000
namespace Mine
variable {prog : Program} {w : World} {A : Around} {E : Value → Shared → Prop} {h₁ h : Heap} {g : Array GenState} {d : Drawn} {t : Nat} {os : OsState}
theorem rec_step {nsA PK c : Addr} {H H' : Heap} {es : List DictEntry} {n : Nat} {ps : Array Value} {qq : Str} (e1 : H.get? nsA = some (dobj es n)) (e2 : H.get? PK = some (tabObj ps)) (ht : TriplesOk ps.toList) (kk : ∀ b o, b ≠ nsA → b ≠ PK → H.get? b = some o → H'.get? b = some o) (r : CodeK H c qq) : CodeK H' c qq := by
  obtain ⟨o₂, vs₂, t₂, g₂, hc, r₁, r₂⟩ := r
  refine ⟨o₂, vs₂, t₂, kk _ _ (fun z => ?_) (fun z => ?_) g₂, hc, r₁, r₂⟩
  · rw [z, e1] at g₂; cases g₂; cases r₁
  · rw [z, e2] at g₂; cases g₂; cases hc
theorem cls_ne {H : Heap} {a b : Addr} {o o' : Obj} {T U : String} (e : H.get? a = some o) (e' : H.get? b = some o') (h1 : o.cls = .type T) (h2 : o'.cls = .type U) (hne : T ≠ U) : a ≠ b := fun z => by
  rw [z, e'] at e
  have := Option.some.inj e
  rw [← this, h2] at h1
  injection h1 with h1
  exact hne h1.symm
theorem cls_none_ne {H : Heap} {a b : Addr} {o o' : Obj} {T : String} (e : H.get? a = some o) (e' : H.get? b = some o') (h1 : o.cls = .type T) (h2 : o'.cls = .none) : a ≠ b := fun z => by
  rw [z, e'] at e
  have := Option.some.inj e
  rw [← this, h2] at h1
  cases h1
theorem FnAt.step {P : Params} {nsA PK cel f c : Addr} {pm : Value} {i : Nat} {H H' : Heap} {es : List DictEntry} {n : Nat} {ps : Array Value} (e1 : H.get? nsA = some (dobj es n)) (e2 : H.get? PK = some (tabObj ps)) (ht : TriplesOk ps.toList) (kk : ∀ b o, b ≠ nsA → b ≠ PK → H.get? b = some o → H'.get? b = some o) (x : FnAt P H cel pm i f c) : FnAt P H' cel pm i f c := by
  obtain ⟨ct, e, r⟩ := x
  exact ⟨ct, kk _ _ (cls_ne e e1 rfl rfl (by decide)) (cls_none_ne e e2 rfl rfl) e, rec_step e1 e2 ht kk r⟩
set_option maxHeartbeats 4000000 in
theorem cls_body (P : Params) {L nsA cK PK fr : Addr} {mg : Str → Option Value} {pm : Value} {k0 k1 k2 : Int} {a0 a1 a2 b1 b2 : Tok} {v0 : Value} {Q : Flow → Shared → Prop} (hpm : (mg "__name__").getD .none = pm)
    (C : Cb nsA PK h₁ h [⟨k0, .str (Str.ofString "__module__") a0, v0⟩, ⟨k1, .str (Str.ofString "__qualname__") a1, .str (Str.ofString "cmp_to_key.<locals>.K") b1⟩, ⟨k2, .str (Str.ofString "__firstlineno__") a2, .int 4 b2⟩] 3)
    (T : Tab h cK PK #[]) (G : Gd h mg PK nsA) (hne : nsA ≠ cK ∧ nsA ≠ PK)
    (q : ∀ (hs : Nat → Int) (ts : Nat → Nat) (fs cs : Nat → Addr) sl tS h' t', Cb nsA PK h₁ h' ((kEnt hs ts (Str.ofString "cpy313.functools") 4 sl fs 0).take 11) 11 → Tab h' cK PK #[rawInt 8, rawInt 8, .ref (cs 4), rawInt 11, rawInt 8, .ref (cs 5), rawInt 14, rawInt 8, .ref (cs 6), rawInt 17, rawInt 8, .ref (cs 7), rawInt 20, rawInt 8, .ref (cs 8), rawInt 23, rawInt 8, .ref (cs 9)] → (∀ b o, b ≠ nsA → b ≠ PK → h.get? b = some o → h'.get? b = some o) →
      h'.get? sl = some { cls := .type "list", data := .seq #[.str (Str.ofString "obj") tS] } → (∀ i, 4 ≤ i → i ≤ 9 → FnAt P h' (L + 1) pm i (fs i) (cs i)) → Q .next ⟨h', g, d, t', os⟩) :
    wpAny (model prog w) A (run (.body (kBody P) (kenv P L nsA cK fr))) Q E ⟨h, g, d, t, os⟩ := by
  refine wpAny_runBody (by kernel_rfl) fun A => ?_
  show wpAny _ _ (execs [_, _, _, _, _, _, _, _, _] _) _ _ _
  refine wpAny_execs_cons (cls_str (env := kenv P L nsA cK fr) (c := cK) (P := PK) (n' := 3) (es' := fun k z y => [⟨k0, .str (Str.ofString "__module__") a0, y⟩, ⟨k1, .str (Str.ofString "__qualname__") a1, .str (Str.ofString "cmp_to_key.<locals>.K") b1⟩, ⟨k2, .str (Str.ofString "__firstlineno__") a2, .int 4 b2⟩]) rfl rfl hne C T (by kernel_rfl) (by intro y k z; kernel_rfl) (fun k h2 t2 C2 T2 kp2 => ?_) rfl (by decide +kernel))
  have kk2 : ∀ b o, b ≠ nsA → b ≠ PK → h.get? b = some o → h2.get? b = some o := fun b o hb _ e => kp2 b o hb e
  have G2 := G.step kk2
  generalize htm : t = tm at C2
  refine wpAny_execs_cons (cls_list (env := kenv P L nsA cK fr) (c := cK) (P := PK) (n' := 4) (es' := fun k z y => [⟨k0, .str (Str.ofString "__module__") a0, .str (Str.ofString "cpy313.functools") tm⟩, ⟨k1, .str (Str.ofString "__qualname__") a1, .str (Str.ofString "cmp_to_key.<locals>.K") b1⟩, ⟨k2, .str (Str.ofString "__firstlineno__") a2, .int 4 b2⟩, ⟨k, z, y⟩]) rfl rfl hne C2 T2 (by kernel_rfl) (by intro y k z; kernel_rfl) (fun k3 sl a3 tS h3 t3 C3 T3 kp3 hsl3 => ?_) rfl)
  have kk3 : ∀ b o, b ≠ nsA → b ≠ PK → h2.get? b = some o → h3.get? b = some o := fun b o hb _ e => kp3 b o hb e
  have K3 : ∀ b o, b ≠ nsA → b ≠ PK → h.get? b = some o → h3.get? b = some o := fun b o hb hb' e => kk3 b o hb hb' (kk2 b o hb hb' e)
  have G3 := G2.step kk3
  refine wpAny_execs_cons (cls_def (env := kenv P L nsA cK fr) (c := cK) (P := PK) (n' := 5) (qual := kq 4) (clos := []) (es' := fun k z y => [⟨k0, .str (Str.ofString "__module__") a0, .str (Str.ofString "cpy313.functools") tm⟩, ⟨k1, .str (Str.ofString "__qualname__") a1, .str (Str.ofString "cmp_to_key.<locals>.K") b1⟩, ⟨k2, .str (Str.ofString "__firstlineno__") a2, .int 4 b2⟩, ⟨k3, .str (Str.ofString "__slots__") a3, .ref sl⟩, ⟨k, z, y⟩]) rfl rfl hne C3 T3 (by kernel_rfl) (by intro y k z; kernel_rfl) rfl rfl (by kernel_rfl) rfl rfl rfl G3.ns rfl (.inl (by kernel_rfl)) G3.g G3.bu (fun k4 a4 f4 c4 ct4 ps4 h4 t4 C4 T4 kk4 nx4 rc4 hf4 hfs4 => ?_))
  obtain rfl : ps4 = #[rawInt 8, rawInt 8, .ref c4] := (next_new nx4 (by kernel_rfl)).trans (by kernel_rfl)
  rw [hpm] at hf4
  have K4 : ∀ b o, b ≠ nsA → b ≠ PK → h.get? b = some o → h4.get? b = some o := fun b o hb hb' e => kk4 b o hb hb' (K3 b o hb hb' e)
  have G4 := G3.step kk4
  have hsl4 : h4.get? sl = some { cls := .type "list", data := .seq #[.str (Str.ofString "obj") tS] } := kk4 _ _ (cls_ne hsl3 C3.ns rfl rfl (by decide)) (cls_none_ne hsl3 T3.tab rfl rfl) hsl3
  have F4_4 : FnAt P h4 (L + 1) pm 4 f4 c4 := ⟨ct4, hf4, rc4⟩
  skip
  refine wpAny_execs_cons (cls_def (env := kenv P L nsA cK fr) (c := cK) (P := PK) (n' := 6) (qual := kq 5) (clos := [(Str.ofString "mycmp", L + 1)]) (es' := fun k z y => [⟨k0, .str (Str.ofString "__module__") a0, .str (Str.ofString "cpy313.functools") tm⟩, ⟨k1, .str (Str.ofString "__qualname__") a1, .str (Str.ofString "cmp_to_key.<locals>.K") b1⟩, ⟨k2, .str (Str.ofString "__firstlineno__") a2, .int 4 b2⟩, ⟨k3, .str (Str.ofString "__slots__") a3, .ref sl⟩, ⟨k4, .str (Str.ofString "__init__") a4, .ref f4⟩, ⟨k, z, y⟩]) rfl rfl hne C4 T4 (by kernel_rfl) (by intro y k z; kernel_rfl) rfl rfl (by kernel_rfl) rfl rfl rfl G4.ns rfl (.inl (by kernel_rfl)) G4.g G4.bu (fun k5 a5 f5 c5 ct5 ps5 h5 t5 C5 T5 kk5 nx5 rc5 hf5 hfs5 => ?_))
  obtain rfl : ps5 = #[rawInt 8, rawInt 8, .ref c4, rawInt 11, rawInt 8, .ref c5] := (next_new nx5 (by kernel_rfl)).trans (by kernel_rfl)
  rw [hpm] at hf5
  have K5 : ∀ b o, b ≠ nsA → b ≠ PK → h.get? b = some o → h5.get? b = some o := fun b o hb hb' e => kk5 b o hb hb' (K4 b o hb hb' e)
  have G5 := G4.step kk5
  have hsl5 : h5.get? sl = some { cls := .type "list", data := .seq #[.str (Str.ofString "obj") tS] } := kk5 _ _ (cls_ne hsl4 C4.ns rfl rfl (by decide)) (cls_none_ne hsl4 T4.tab rfl rfl) hsl4
  have F5_5 : FnAt P h5 (L + 1) pm 5 f5 c5 := ⟨ct5, hf5, rc5⟩
  have F4_5 := F4_4.step C4.ns T4.tab T4.ok kk5
  skip
  refine wpAny_execs_cons (cls_def (env := kenv P L nsA cK fr) (c := cK) (P := PK) (n' := 7) (qual := kq 6) (clos := [(Str.ofString "mycmp", L + 1)]) (es' := fun k z y => [⟨k0, .str (Str.ofString "__module__") a0, .str (Str.ofString "cpy313.functools") tm⟩, ⟨k1, .str (Str.ofString "__qualname__") a1, .str (Str.ofString "cmp_to_key.<locals>.K") b1⟩, ⟨k2, .str (Str.ofString "__firstlineno__") a2, .int 4 b2⟩, ⟨k3, .str (Str.ofString "__slots__") a3, .ref sl⟩, ⟨k4, .str (Str.ofString "__init__") a4, .ref f4⟩, ⟨k5, .str (Str.ofString "__lt__") a5, .ref f5⟩, ⟨k, z, y⟩]) rfl rfl hne C5 T5 (by kernel_rfl) (by intro y k z; kernel_rfl) rfl rfl (by kernel_rfl) rfl rfl rfl G5.ns rfl (.inl (by kernel_rfl)) G5.g G5.bu (fun k6 a6 f6 c6 ct6 ps6 h6 t6 C6 T6 kk6 nx6 rc6 hf6 hfs6 => ?_))
  obtain rfl : ps6 = #[rawInt 8, rawInt 8, .ref c4, rawInt 11, rawInt 8, .ref c5, rawInt 14, rawInt 8, .ref c6] := (next_new nx6 (by kernel_rfl)).trans (by kernel_rfl)
  rw [hpm] at hf6
  have K6 : ∀ b o, b ≠ nsA → b ≠ PK → h.get? b = some o → h6.get? b = some o := fun b o hb hb' e => kk6 b o hb hb' (K5 b o hb hb' e)
  have G6 := G5.step kk6
  have hsl6 : h6.get? sl = some { cls := .type "list", data := .seq #[.str (Str.ofString "obj") tS] } := kk6 _ _ (cls_ne hsl5 C5.ns rfl rfl (by decide)) (cls_none_ne hsl5 T5.tab rfl rfl) hsl5
  have F6_6 : FnAt P h6 (L + 1) pm 6 f6 c6 := ⟨ct6, hf6, rc6⟩
  have F4_6 := F4_5.step C5.ns T5.tab T5.ok kk6
  have F5_6 := F5_5.step C5.ns T5.tab T5.ok kk6
  skip
  refine wpAny_execs_cons (cls_def (env := kenv P L nsA cK fr) (c := cK) (P := PK) (n' := 8) (qual := kq 7) (clos := [(Str.ofString "mycmp", L + 1)]) (es' := fun k z y => [⟨k0, .str (Str.ofString "__module__") a0, .str (Str.ofString "cpy313.functools") tm⟩, ⟨k1, .str (Str.ofString "__qualname__") a1, .str (Str.ofString "cmp_to_key.<locals>.K") b1⟩, ⟨k2, .str (Str.ofString "__firstlineno__") a2, .int 4 b2⟩, ⟨k3, .str (Str.ofString "__slots__") a3, .ref sl⟩, ⟨k4, .str (Str.ofString "__init__") a4, .ref f4⟩, ⟨k5, .str (Str.ofString "__lt__") a5, .ref f5⟩, ⟨k6, .str (Str.ofString "__gt__") a6, .ref f6⟩, ⟨k, z, y⟩]) rfl rfl hne C6 T6 (by kernel_rfl) (by intro y k z; kernel_rfl) rfl rfl (by kernel_rfl) rfl rfl rfl G6.ns rfl (.inl (by kernel_rfl)) G6.g G6.bu (fun k7 a7 f7 c7 ct7 ps7 h7 t7 C7 T7 kk7 nx7 rc7 hf7 hfs7 => ?_))
  obtain rfl : ps7 = #[rawInt 8, rawInt 8, .ref c4, rawInt 11, rawInt 8, .ref c5, rawInt 14, rawInt 8, .ref c6, rawInt 17, rawInt 8, .ref c7] := (next_new nx7 (by kernel_rfl)).trans (by kernel_rfl)
  rw [hpm] at hf7
  have K7 : ∀ b o, b ≠ nsA → b ≠ PK → h.get? b = some o → h7.get? b = some o := fun b o hb hb' e => kk7 b o hb hb' (K6 b o hb hb' e)
  have G7 := G6.step kk7
  have hsl7 : h7.get? sl = some { cls := .type "list", data := .seq #[.str (Str.ofString "obj") tS] } := kk7 _ _ (cls_ne hsl6 C6.ns rfl rfl (by decide)) (cls_none_ne hsl6 T6.tab rfl rfl) hsl6
  have F7_7 : FnAt P h7 (L + 1) pm 7 f7 c7 := ⟨ct7, hf7, rc7⟩
  have F4_7 := F4_6.step C6.ns T6.tab T6.ok kk7
  have F5_7 := F5_6.step C6.ns T6.tab T6.ok kk7
  have F6_7 := F6_6.step C6.ns T6.tab T6.ok kk7
  skip
  refine wpAny_execs_cons (cls_def (env := kenv P L nsA cK fr) (c := cK) (P := PK) (n' := 9) (qual := kq 8) (clos := [(Str.ofString "mycmp", L + 1)]) (es' := fun k z y => [⟨k0, .str (Str.ofString "__module__") a0, .str (Str.ofString "cpy313.functools") tm⟩, ⟨k1, .str (Str.ofString "__qualname__") a1, .str (Str.ofString "cmp_to_key.<locals>.K") b1⟩, ⟨k2, .str (Str.ofString "__firstlineno__") a2, .int 4 b2⟩, ⟨k3, .str (Str.ofString "__slots__") a3, .ref sl⟩, ⟨k4, .str (Str.ofString "__init__") a4, .ref f4⟩, ⟨k5, .str (Str.ofString "__lt__") a5, .ref f5⟩, ⟨k6, .str (Str.ofString "__gt__") a6, .ref f6⟩, ⟨k7, .str (Str.ofString "__eq__") a7, .ref f7⟩, ⟨k, z, y⟩]) rfl rfl hne C7 T7 (by kernel_rfl) (by intro y k z; kernel_rfl) rfl rfl (by kernel_rfl) rfl rfl rfl G7.ns rfl (.inl (by kernel_rfl)) G7.g G7.bu (fun k8 a8 f8 c8 ct8 ps8 h8 t8 C8 T8 kk8 nx8 rc8 hf8 hfs8 => ?_))
  obtain rfl : ps8 = #[rawInt 8, rawInt 8, .ref c4, rawInt 11, rawInt 8, .ref c5, rawInt 14, rawInt 8, .ref c6, rawInt 17, rawInt 8, .ref c7, rawInt 20, rawInt 8, .ref c8] := (next_new nx8 (by kernel_rfl)).trans (by kernel_rfl)
  rw [hpm] at hf8
  have K8 : ∀ b o, b ≠ nsA → b ≠ PK → h.get? b = some o → h8.get? b = some o := fun b o hb hb' e => kk8 b o hb hb' (K7 b o hb hb' e)
  have G8 := G7.step kk8
  have hsl8 : h8.get? sl = some { cls := .type "list", data := .seq #[.str (Str.ofString "obj") tS] } := kk8 _ _ (cls_ne hsl7 C7.ns rfl rfl (by decide)) (cls_none_ne hsl7 T7.tab rfl rfl) hsl7
  have F8_8 : FnAt P h8 (L + 1) pm 8 f8 c8 := ⟨ct8, hf8, rc8⟩
  have F4_8 := F4_7.step C7.ns T7.tab T7.ok kk8
  have F5_8 := F5_7.step C7.ns T7.tab T7.ok kk8
  have F6_8 := F6_7.step C7.ns T7.tab T7.ok kk8
  have F7_8 := F7_7.step C7.ns T7.tab T7.ok kk8
  skip
  refine wpAny_execs_cons (cls_def (env := kenv P L nsA cK fr) (c := cK) (P := PK) (n' := 10) (qual := kq 9) (clos := [(Str.ofString "mycmp", L + 1)]) (es' := fun k z y => [⟨k0, .str (Str.ofString "__module__") a0, .str (Str.ofString "cpy313.functools") tm⟩, ⟨k1, .str (Str.ofString "__qualname__") a1, .str (Str.ofString "cmp_to_key.<locals>.K") b1⟩, ⟨k2, .str (Str.ofString "__firstlineno__") a2, .int 4 b2⟩, ⟨k3, .str (Str.ofString "__slots__") a3, .ref sl⟩, ⟨k4, .str (Str.ofString "__init__") a4, .ref f4⟩, ⟨k5, .str (Str.ofString "__lt__") a5, .ref f5⟩, ⟨k6, .str (Str.ofString "__gt__") a6, .ref f6⟩, ⟨k7, .str (Str.ofString "__eq__") a7, .ref f7⟩, ⟨k8, .str (Str.ofString "__le__") a8, .ref f8⟩, ⟨k, z, y⟩]) rfl rfl hne C8 T8 (by kernel_rfl) (by intro y k z; kernel_rfl) rfl rfl (by kernel_rfl) rfl rfl rfl G8.ns rfl (.inl (by kernel_rfl)) G8.g G8.bu (fun k9 a9 f9 c9 ct9 ps9 h9 t9 C9 T9 kk9 nx9 rc9 hf9 hfs9 => ?_))
  obtain rfl : ps9 = #[rawInt 8, rawInt 8, .ref c4, rawInt 11, rawInt 8, .ref c5, rawInt 14, rawInt 8, .ref c6, rawInt 17, rawInt 8, .ref c7, rawInt 20, rawInt 8, .ref c8, rawInt 23, rawInt 8, .ref c9] := (next_new nx9 (by kernel_rfl)).trans (by kernel_rfl)
  rw [hpm] at hf9
  have K9 : ∀ b o, b ≠ nsA → b ≠ PK → h.get? b = some o → h9.get? b = some o := fun b o hb hb' e => kk9 b o hb hb' (K8 b o hb hb' e)
  have G9 := G8.step kk9
  have hsl9 : h9.get? sl = some { cls := .type "list", data := .seq #[.str (Str.ofString "obj") tS] } := kk9 _ _ (cls_ne hsl8 C8.ns rfl rfl (by decide)) (cls_none_ne hsl8 T8.tab rfl rfl) hsl8
  have F9_9 : FnAt P h9 (L + 1) pm 9 f9 c9 := ⟨ct9, hf9, rc9⟩
  have F4_9 := F4_8.step C8.ns T8.tab T8.ok kk9
  have F5_9 := F5_8.step C8.ns T8.tab T8.ok kk9
  have F6_9 := F6_8.step C8.ns T8.tab T8.ok kk9
  have F7_9 := F7_8.step C8.ns T8.tab T8.ok kk9
  have F8_9 := F8_8.step C8.ns T8.tab T8.ok kk9
  skip
  refine wpAny_execs_cons (cls_none (env := kenv P L nsA cK fr) (c := cK) (P := PK) (n' := 11) (es' := fun k z => [⟨k0, .str (Str.ofString "__module__") a0, .str (Str.ofString "cpy313.functools") tm⟩, ⟨k1, .str (Str.ofString "__qualname__") a1, .str (Str.ofString "cmp_to_key.<locals>.K") b1⟩, ⟨k2, .str (Str.ofString "__firstlineno__") a2, .int 4 b2⟩, ⟨k3, .str (Str.ofString "__slots__") a3, .ref sl⟩, ⟨k4, .str (Str.ofString "__init__") a4, .ref f4⟩, ⟨k5, .str (Str.ofString "__lt__") a5, .ref f5⟩, ⟨k6, .str (Str.ofString "__gt__") a6, .ref f6⟩, ⟨k7, .str (Str.ofString "__eq__") a7, .ref f7⟩, ⟨k8, .str (Str.ofString "__le__") a8, .ref f8⟩, ⟨k9, .str (Str.ofString "__ge__") a9, .ref f9⟩, ⟨k, z, .none⟩]) rfl rfl hne C9 T9 (by kernel_rfl) (by intro k z; kernel_rfl) (fun k10 a10 h10 t10 C10 T10 kp10 => ?_) rfl)
  have kk10 : ∀ b o, b ≠ nsA → b ≠ PK → h9.get? b = some o → h10.get? b = some o := fun b o hb _ e => kp10 b o hb e
  have hsl10 : h10.get? sl = some { cls := .type "list", data := .seq #[.str (Str.ofString "obj") tS] } := kk10 _ _ (cls_ne hsl9 C9.ns rfl rfl (by decide)) (cls_none_ne hsl9 T9.tab rfl rfl) hsl9
  have F4_10 := F4_9.step C9.ns T9.tab T9.ok kk10
  have F5_10 := F5_9.step C9.ns T9.tab T9.ok kk10
  have F6_10 := F6_9.step C9.ns T9.tab T9.ok kk10
  have F7_10 := F7_9.step C9.ns T9.tab T9.ok kk10
  have F8_10 := F8_9.step C9.ns T9.tab T9.ok kk10
  have F9_10 := F9_9.step C9.ns T9.tab T9.ok kk10
  refine wpAny_execs_nil (q (fun i => match i with | 0 => k0 | 1 => k1 | 2 => k2 | 3 => k3 | 4 => k4 | 5 => k5 | 6 => k6 | 7 => k7 | 8 => k8 | 9 => k9 | 10 => k10 | _ => 0) (fun i => match i with | 0 => a0 | 1 => a1 | 2 => a2 | 3 => a3 | 4 => a4 | 5 => a5 | 6 => a6 | 7 => a7 | 8 => a8 | 9 => a9 | 10 => a10 | 20 => tm | 21 => b1 | 22 => b2 | _ => 0) (fun i => match i with | 4 => f4 | 5 => f5 | 6 => f6 | 7 => f7 | 8 => f8 | 9 => f9 | _ => 0) (fun i => match i with | 4 => c4 | 5 => c5 | 6 => c6 | 7 => c7 | 8 => c8 | 9 => c9 | _ => 0) sl tS h10 t10 C10 T10 (fun b o hb hb' e => kk10 b o hb hb' (K9 b o hb hb' e)) hsl10 fun i h4 h9' => ?_)
  obtain rfl | rfl | rfl | rfl | rfl | rfl : i = 4 ∨ i = 5 ∨ i = 6 ∨ i = 7 ∨ i = 8 ∨ i = 9 := by omega
  · exact F4_10
  · exact F5_10
  · exact F6_10
  · exact F7_10
  · exact F8_10
  · exact F9_10
end Mine
end
noncomputable section
open PySem PySem.W PySem.W.X PyProof.Rows
set_option Elab.async false
set_option linter.unusedVariables false
set_option maxRecDepth 100000
namespace Mine
variable {prog : Program} {w : World} {G : Heap → Prop} {Z : Addr → Prop}
/-- what is known of the top for making things -/
structure TopOk (G : Heap → Prop) (c P : Addr) : Prop where
  main : ∀ h, G h → ∃ mg, h.Ns mainGlobals mg ∧ (∃ s t, mg "__name__" = some (.str s t)) ∧ h.BuiltinsAt mg P
  bcls : ∀ h, G h → ∃ mb, h.Ns builtinsNs mb ∧ mb "__build_class__" = some (.builtin "__build_class__")
  stat : ∀ h, G h → h.get? cStatics = some ⟨.none, none, .dict #[] 0, #[]⟩
  code : ∀ h, G h → CodeHd h c P
  nP : mainGlobals ≠ P ∧ cStatics ≠ P
  sysm : ∀ h, G h → ∃ o, h.get? sysModules = some o
theorem any_global {env : Env} {x : Str} {pos : Pos} {v : Value} {A : Around} {E : Value → Shared → Prop} {Q : Value → Shared → Prop} {s : Shared} (e : GV G x v) (hG : G s.heap) (q : Q v s) (hl : env.kindOf x = some .globalImplicit := by rfl) (hf : env.scope.kind = .function := by rfl) (hg : env.globals = mainGlobals := by rfl) (hb : env.builtins = builtinsNs := by rfl) (hd : (x == ("__debug__" : Str)) = false := by decide) : wpAny (model prog w) A (eval (.Name x pos) env) Q E s := by
  rcases e s.heap hG with ⟨mg, n, q'⟩ | ⟨mg, mb, n, q', nb, qb⟩
  · exact Calls.Name_function_global hf hl (Calls.loadGlobal_global (env := env) (by rw [hg]; exact n) q' q) hd
  · exact Calls.Name_function_global hf hl (Calls.loadGlobal_builtin (env := env) (by rw [hg]; exact n) q' (by rw [hb]; exact nb) qb q) hd
theorem ty_dictItem : typeLookup (.type "dict") (Str.ofString "__getitem__") = pure (some (.builtin "dict.__getitem__")) := by rw [typeLookup_type, builtinLookup_eq_fast]; kernel_rfl
theorem any_nsGet {M : Model} {A : Around} {E : Value → Shared → Prop} {s : Shared} {a : Addr} {m : Str → Option Value} {name : Str} {r : Option Value} {Q : Option Value → Shared → Prop} (hn : s.heap.Ns a m) (e : m name = r) (q : Q r s) : wpAny M A (nsGet a name) Q E s := wpAny_nsGet hn (e ▸ q)
theorem any_mapM1 {M : Model} {A : Around} {E : Value → Shared → Prop} {s : Shared} {x : Str} {Q : List Value → Shared → Prop} (q : Q [.str x s.toks] { s with toks := s.toks + 1 }) : wpAny M A (List.mapM mkText [x]) Q E s := by
  rw [List.mapM_cons]
  refine wpAny_bind (wpAny_mkText ?_)
  rw [List.mapM_nil]
  exact wpAny_bind (wpAny_pure (wpAny_pure q))
/-- the class K over the comparison f, its dict and its cell out of Y -/
noncomputable def KCz (Y : Addr → Prop) (P : Params) (h : Heap) (C : Addr) (f : Value) : Prop := ∃ (N D cel bT sl st : Addr) (hs : Nat → Int) (ts : Nat → Nat) (fs cs : Nat → Addr) (pm : Value) (k1 k2 : Int) (t0 t1 t2 t3 : Tok),
  h.get? C = some (co (cd2 C N) #[some (.ref bT), none, some (.str (Str.ofString "K") t0), some (.str (Str.ofString "cmp_to_key.<locals>.K") (ts 21)), some (.builtin "object.__new__"), some (.bool false)]) ∧
  h.get? N = some (dobj ((kEnt hs ts (Str.ofString "cpy313.functools") 4 sl fs st).eraseIdx 1 ++ [⟨k1, .str (Str.ofString "obj") t1, .ref D⟩] ++ [⟨k2, .str (Str.ofString "__doc__") t2, .none⟩]) 3) ∧
  h.get? D = some { cls := .type "member_descriptor", data := .fields #[.str (Str.ofString "obj") t3, .ref C, .builtin "proto.slot", .builtin "proto.slot#set", .int 0 0] } ∧
  h.IsCell cel (some f) ∧ (∀ i, 4 ≤ i → i ≤ 9 → FnAt P h cel pm i (fs i) (cs i)) ∧ ¬ Y N ∧ ¬ Y cel
noncomputable def KC (P : Params) (h : Heap) (C : Addr) (f : Value) : Prop := KCz (fun _ => False) P h C f
theorem KCz.mono {Y Y' : Addr → Prop} {P : Params} {h : Heap} {C : Addr} {f : Value} (k : KCz Y P h C f) (hY : ∀ b, Y' b → Y b) : KCz Y' P h C f := by
  obtain ⟨N, D, cel, bT, sl, st, hs, ts, fs, cs, pm, k1, k2, t0, t1, t2, t3, hC, hN, hD, hcel, hfs, nN, nc⟩ := k
  exact ⟨N, D, cel, bT, sl, st, hs, ts, fs, cs, pm, k1, k2, t0, t1, t2, t3, hC, hN, hD, hcel, hfs, fun q => nN (hY _ q), fun q => nc (hY _ q)⟩
theorem KCz.kc {Y : Addr → Prop} {P : Params} {h : Heap} {C : Addr} {f : Value} (k : KCz Y P h C f) : KC P h C f := k.mono fun _ q => q.elim
theorem KCz.grow {Y S : Addr → Prop} {P : Params} {h h' : Heap} {C : Addr} {f : Value} (k : KCz Y P h C f) (g : Grow S h h') (hS : ∀ b, S b → Y b ∨ ∃ ps, h.get? b = some (tabObj ps)) (hY : ∀ b, S b → Y b → (∃ o es n, h.get? b = some o ∧ o.data = .dict es n) ∨ (∃ o v, h.get? b = some o ∧ o.data = .cell v) ∨ ∃ ps, h.get? b = some (tabObj ps)) : KCz Y P h' C f := by
  obtain ⟨N, D, cel, bT, sl, st, hs, ts, fs, cs, pm, k1, k2, t0, t1, t2, t3, hC, hN, hD, hcel, hfs, nN, nc⟩ := k
  have ks : ∀ b, S b → (Y b ∧ ((∃ o es n, h.get? b = some o ∧ o.data = .dict es n) ∨ (∃ o v, h.get? b = some o ∧ o.data = .cell v))) ∨ ∃ ps, h.get? b = some (tabObj ps) := fun b s => by
    rcases hS b s with y | y
    · rcases hY b s y with a | a | a
      · exact .inl ⟨y, .inl a⟩
      · exact .inl ⟨y, .inr a⟩
      · exact .inr a
    · exact .inr y
  have keep : ∀ b o, h.get? b = some o → (¬ Y b ∨ ((∀ es n, o.data ≠ .dict es n) ∧ ∀ v, o.data ≠ .cell v)) → o.cls ≠ .none ∨ (∀ vs, o.data ≠ .fields vs) → h'.get? b = some o := fun b o e h1 h2 => by
    refine g.old b o (fun s => ?_) e
    rcases ks b s with ⟨y, a⟩ | ⟨ps, a⟩
    · rcases h1 with h1 | h1
      · exact h1 y
      · rcases a with ⟨o', es, n, e', d'⟩ | ⟨o', v, e', d'⟩
        · rw [e] at e'; cases e'; exact h1.1 _ _ d'
        · rw [e] at e'; cases e'; exact h1.2 _ d'
    · rw [e] at a; cases a
      rcases h2 with h2 | h2
      · exact h2 rfl
      · exact h2 _ rfl
  refine ⟨N, D, cel, bT, sl, st, hs, ts, fs, cs, pm, k1, k2, t0, t1, t2, t3, ?_, ?_, ?_, ?_, fun i a b => ?_, nN, nc⟩
  · exact keep _ _ hC (.inr ⟨(fun _ _ q => nomatch q), (fun _ q => nomatch q)⟩) (.inl fun q => nomatch q)
  · exact keep _ _ hN (.inl nN) (.inl fun q => nomatch q)
  · exact keep _ _ hD (.inr ⟨(fun _ _ q => nomatch q), (fun _ q => nomatch q)⟩) (.inl fun q => nomatch q)
  · obtain ⟨o, e, d⟩ := hcel
    exact ⟨o, keep _ _ e (.inl nc) (.inr fun vs q => by rw [d] at q; cases q), d⟩
  · obtain ⟨ct, e, o₂, vs₂, t₂, g₂, hc₂, r₁, r₂⟩ := hfs i a b
    exact ⟨ct, keep _ _ e (.inr ⟨(fun _ _ q => nomatch q), (fun _ q => nomatch q)⟩) (.inl fun q => nomatch q), o₂, vs₂, t₂, keep _ _ g₂ (.inr ⟨(fun _ _ q => by rw [r₁] at q; cases q), (fun _ q => by rw [r₁] at q; cases q)⟩) (.inl fun q => by rw [hc₂] at q; cases q), hc₂, r₁, r₂⟩
set_option maxHeartbeats 4000000 in
theorem cmp_new (W : Glob G Z) (P : Params) (hfn : ∀ h, G h → ∃ o, h.get? 21 = some o ∧ o.data = .func (fnOf (hd02.heap_39 P) 21) ∧ h.CodeRec (fnOf (hd02.heap_39 P) 21).code (fnOf (hd02.heap_39 P) 21).qualname)
    (T : TopOk G 20 16) (go : GV G "object" (.type "object")) {f : Value} :
    CallO prog w G 91 (fun b => b = 16) (fun h => h.get? 16 = some (tabObj #[])) (.ref 21) [.val f] (fun X h' v => ∃ C cK, v = .ref C ∧ ¬ X C ∧ KCz X P h' C f ∧ h'.get? 16 = some (tabObj #[rawInt 4, rawInt 4, .ref cK])) := by
  refine call_fnO (k := 90) W (names := ["mycmp"]) (fun h h' g e => g.old 16 _ (fun q => q) e) hfn rfl rfl ?_ ?_ (fun L hL A hA X h g dr tk o hO hXM F hP => ?_) rfl rfl rfl
  · intro vs hv
    obtain ⟨a, rfl⟩ := len1 hv
    rfl
  · intro x hx
    simp at hx
    subst hx
    exact .inr rfl
  obtain ⟨mb, nb, hb⟩ := T.bcls h F.g
  obtain ⟨mg, ng, ⟨nm, tn, hnm⟩, hbat⟩ := T.main h F.g
  have hoS := T.stat h F.g
  have hS1 : nsLook (Str.ofString "thirdparty.any") ⟨.none, none, .dict #[] 0, #[]⟩ = pure none := by kernel_rfl
  have T0 : Tab h 20 16 #[] := ⟨T.code h F.g, hP, trivial⟩
  refine jExecs_cons (wpJ.of ?_)
  rw [arm_exec_ClassDef]
  refine wpAny_bind (wpAny_pure ?_)
  refine wpAny_bind (wpAny_standAt ?_)
  refine wpAny_bind ?_
  unfold buildClassGuard
  refine wpAny_bind (wpAny_nsGet nb ?_)
  rw [hb]
  refine wpAny_pure ?_
  refine wpAny_bind (wpAny_holding ?_)
  refine wpAny_bind ?_
  show wpAny _ _ (spliced (backTo _ (starEach [_] _)) >>= _) _ _ _
  refine wpAny_bind ?_
  refine args_cons (any_global go F.g (args_nil ?_))
  refine wpAny_bind (wpAny_pure ?_)
  refine wpAny_holding ?_
  refine bm_if_true rfl ?_
  refine wpAny_bind (wpAny_pure ?_)
  refine wpAny_bind (wpAny_pure ?_)
  refine wpAny_pure ?_
  refine wpAny_bind (wpAny_standAt (wpAny_holding ?_))
  unfold buildClass
  refine wpAny_bind (m_newTuple (Mem.start h) rfl fun bT h1 D => ?_)
  repeat wp_delta
  refine wpAny_bind (wpAny_of_eq (a := ([Value.type "object"], false)) (by kernel_rfl) ?_)
  repeat wp_delta
  refine wpAny_bind (wpAny_of_eq ty_typeOf ?_)
  repeat wp_delta
  refine wpAny_bind (wpAny_pure ?_)
  refine bm_if_true rfl ?_
  refine wpAny_bind (wpAny_of_eq (a := Value.type "type") (by kernel_rfl) ?_)
  repeat wp_delta
  refine wpAny_bind (wpAny_mkText ?_)
  repeat wp_delta
  refine bm_if_false rfl ?_
  refine wpAny_bind (wpAny_pure ?_)
  repeat wp_delta
  refine wpAny_holding ?_
  refine wpAny_bind (prep_attr hA (by decide) fun pm h2 t2 D2 => ?_)
  repeat wp_delta
  refine wpAny_bind (hA.wk (by decide) (prepcall_x (mm_at D2 (.head _)) fun nsA h3 D3 => ?_))
  repeat wp_delta
  have k12 : ∀ b ob, h1.get? b = some ob → h2.get? b = some ob := fun b ob e => mm_old D2 e
  have k23 : ∀ b ob, h2.get? b = some ob → h3.get? b = some ob := fun b ob e => mm_old D3 e
  have k03 : ∀ b ob, h.get? b = some ob → h3.get? b = some ob := fun b ob e => k23 _ _ (k12 _ _ (mm_old D e))
  have hbT : h3.get? bT = some { cls := .type "tuple", data := .seq #[.type "object"] } := k23 _ _ (k12 _ _ (mm_at D (.head _)))
  have hns : h3.get? nsA = some (dobj [] 0) := mm_at D3 (.head _)
  have nns : h.get? nsA = none := by
    cases e : h.get? nsA with
    | none => rfl
    | some ob => have := (D3.nw _ (.head _)).2; rw [k12 _ _ (mm_old D e)] at this; cases this
  have nsS : nsA ≠ sysModules := fun q => by obtain ⟨ob, e⟩ := T.sysm h F.g; rw [q, e] at nns; cases nns
  refine wpAny_bind ?_
  unfold notTheModulesDict
  refine bm_if_false (beq_false_of_ne nsS) ?_
  refine wpAny_pure ?_
  refine wpAny_bind (wpAny_specialOf ⟨_, hns, rfl⟩ ty_dictItem ?_)
  refine bm_if_false rfl ?_
  repeat wp_delta
  refine wpAny_holding ?_
  repeat wp_delta
  refine bm_if_false (by decide +kernel) ?_
  refine wpAny_bind (wpAny_pure ?_)
  repeat wp_delta
  refine bm_if_false (by decide +kernel) ?_
  refine wpAny_bind (wpAny_pure ?_)
  repeat wp_delta
  have T3 := T0.keeps k03
  refine wpAny_bind (class_code rfl T3 rfl fun cK PK h4 t4 x34 gc gP ncP hsz4 TK hrK T4 => ?_)
  have k34 : ∀ b ob, b ≠ 16 → h3.get? b = some ob → h4.get? b = some ob := fun b ob hb e => x34 b ob hb e
  have ng4 : h4.Ns mainGlobals mg := (ng.keeps k03).extBut x34 T.nP.1
  obtain ⟨bm, ob, hbm, hne0, hneG, hneP, hbo, hcls, hdict, hdata⟩ := hbat
  have hbo4 := k34 _ _ hneP (k03 _ _ hbo)
  refine wpAny_bind (wpAny_builtinsFor ng4 hbm hne0 hbo4 hcls hdict hdata ?_)
  refine wpAny_bind ?_
  unfold newBodyFrame
  refine wpAny_bind (wpAny_nsGet ng4 ?_)
  rw [hnm]
  refine m_alloc (Mem.start h4) rfl fun fr h5 D5 => ?_
  have k45 : ∀ b ob, h4.get? b = some ob → h5.get? b = some ob := fun b ob e => mm_old D5 e
  refine wpAny_bind (wpAny_of_eq (a := [(Str.ofString "mycmp", L + 1)]) rfl ?_)
  repeat wp_delta
  refine wpAny_holding ?_
  have k35 : ∀ b ob, b ≠ 16 → h3.get? b = some ob → h5.get? b = some ob := fun b ob hb e => k45 _ _ (k34 _ _ hb e)
  have ns16 : nsA ≠ 16 := fun q => by rw [q, hP] at nns; cases nns
  have hns5 : h5.get? nsA = some (dobj [] 0) := k35 _ _ ns16 hns
  have lim5 : h5.NoLimit := by
    obtain ⟨mc, hmc, hmn⟩ := W.lim h F.g
    exact ⟨mc, ((hmc.keeps k03).extBut x34 T.nP.2).keeps k45, hmn⟩
  refine wpAny_bind (wpAny_enterFrame lim5 hA.lt ?_)
  have ng5 : h5.Ns mainGlobals mg := ng4.keeps k45
  refine wpAny_bind (wpAny_onRaise ?_)
  refine wpAny_bind ?_
  unfold loadName
  refine bm_if_false rfl ?_
  repeat wp_delta
  refine bm_if_false (by decide +kernel) ?_
  unfold localGet
  refine wpAny_bind (wpAny_bind (wpAny_load hns5 ?_))
  refine bm_if_true rfl ?_
  refine m_nsGet hns5 (r := none) (by kernel_rfl) ?_
  repeat wp_delta
  refine wpAny_bind (any_nsGet ng5 hnm ?_)
  refine wpAny_pure ?_
  refine wpAny_bind (store_cls (es' := fun k x => [⟨k, x, .str nm tn⟩]) (n' := 1) rfl (.inl rfl) hns5 (by kernel_rfl) (by intro k y; kernel_rfl) fun k6 h6 s56 e6 => ?_)
  refine wpAny_bind (wpAny_mkText ?_)
  refine wpAny_bind (store_cls (es' := fun k x => [⟨k6, .str (Str.ofString "__module__") t4, .str nm tn⟩, ⟨k, x, .str (Str.ofString "cmp_to_key.<locals>.K") (t4 + 1)⟩]) (n' := 2) rfl (.inr ⟨rfl, by decide +kernel⟩) e6 (by kernel_rfl) (by intro k y; kernel_rfl) fun k7 h7 s67 e7 => ?_)
  refine wpAny_bind (wpAny_mkInt ?_)
  refine wpAny_bind (store_cls (es' := fun k x => [⟨k6, .str (Str.ofString "__module__") t4, .str nm tn⟩, ⟨k7, .str (Str.ofString "__qualname__") (t4 + 1 + 1), .str (Str.ofString "cmp_to_key.<locals>.K") (t4 + 1)⟩, ⟨k, x, .int 4 (t4 + 1 + 1 + 1)⟩]) (n' := 3) rfl (.inr ⟨rfl, by decide +kernel⟩) e7 (by kernel_rfl) (by intro k y; kernel_rfl) fun k8 h8 s78 e8 => ?_)
  refine wpAny_pure ?_
  repeat wp_delta
  have s56' : Heap.SameBut nsA h5 h6 := s56
  have s67' : Heap.SameBut nsA h6 h7 := s67
  have s78' : Heap.SameBut nsA h7 h8 := s78
  have e8' : h8.get? nsA = some (dobj [⟨k6, .str (Str.ofString "__module__") t4, .str nm tn⟩, ⟨k7, .str (Str.ofString "__qualname__") (t4 + 1 + 1), .str (Str.ofString "cmp_to_key.<locals>.K") (t4 + 1)⟩, ⟨k8, .str (Str.ofString "__firstlineno__") (t4 + 1 + 1 + 1 + 1), .int 4 (t4 + 1 + 1 + 1)⟩] 3) := e8
  clear s56 s67 s78 e8 e7 e6
  have k58 : ∀ b ob, b ≠ nsA → h5.get? b = some ob → h8.get? b = some ob := fun b ob hb e => (s78'.2 b hb).trans ((s67'.2 b hb).trans ((s56'.2 b hb).trans e))
  have k38 : ∀ b ob, b ≠ 16 → b ≠ nsA → h3.get? b = some ob → h8.get? b = some ob := fun b ob hb hb' e => k58 _ _ hb' (k35 _ _ hb e)
  have l3 : nsA < h3.objs.size := Heap.lt_size hns
  have ncK : nsA ≠ cK := Nat.ne_of_lt (Nat.lt_of_lt_of_le l3 gc)
  have nPK : nsA ≠ PK := Nat.ne_of_lt (Nat.lt_of_lt_of_le l3 gP)
  have TK8 : Tab h8 cK PK #[] := (TK.keeps k45).other (S := fun b => b = nsA) (fun b ob hb e => k58 b ob hb e) (fun z => nPK z.symm) (fun z => ncK z.symm)
  have low3 : ∀ {b ob}, h.get? b = some ob → b ≠ PK ∧ b ≠ nsA ∧ b ≠ cK := fun {b ob} e => ⟨Nat.ne_of_lt (Nat.lt_of_lt_of_le (Heap.lt_size (k03 _ _ e)) gP), (fun z => by rw [z, nns] at e; cases e), Nat.ne_of_lt (Nat.lt_of_lt_of_le (Heap.lt_size (k03 _ _ e)) gc)⟩
  have Gd8 : Gd h8 mg PK nsA := by
    obtain ⟨om, esm, epm, em, rm⟩ := id ng
    refine ⟨⟨om, esm, epm, k38 _ _ T.nP.1 (low3 em).2.1 (k03 _ _ em), rm⟩, ⟨bm, ob, hbm, hne0, hneG, (low3 hbo).1, k38 _ _ hneP (low3 hbo).2.1 (k03 _ _ hbo), hcls, hdict, hdata⟩, fun bm' e' => ?_, (low3 em).1, (low3 em).2.1⟩
    rw [hbm] at e'; cases e'; exact (low3 hbo).2.1
  refine wpAny_bind (cls_body P (L := L) (h₁ := h8) (by rw [hnm]) ⟨fun _ _ _ _ e => e, Nat.le_refl _, e8'⟩ TK8 Gd8 ⟨ncK, nPK⟩ fun hs ts fs cs sl tS h9 t9 C9 T9 kk9 hsl9 hF9 => ?_)
  refine wpAny_bind (wpAny_onRaise ?_)
  refine wpAny_bind (any_mapM1 ?_)
  refine wpAny_bind (wpAny_newTextTuple ?_)
  repeat wp_delta
  refine wpAny_bind (store_cls (n' := 12) rfl (.inr ⟨rfl, by decide +kernel⟩) (Heap.get?_push_of_some _ C9.ns) (by kernel_rfl) (es' := fun k x => (kEnt hs ts (Str.ofString "cpy313.functools") 4 sl fs 0).take 11 ++ [⟨k, x, .ref h9.objs.size⟩]) (by intro k y; kernel_rfl) fun k10 hA' s10 e10 => ?_)
  repeat wp_delta
  refine wpAny_pure ?_
  repeat wp_delta
  have s10' : Heap.SameBut nsA (h9.push { cls := .type "tuple", dict := none, data := .seq [Value.str (Str.ofString "obj") t9].toArray }) hA' := s10
  have e10' : hA'.get? nsA = some (dobj (kEnt (fun i => if i = 11 then k10 else hs i) (fun i => if i = 11 then t9 + 1 else ts i) (Str.ofString "cpy313.functools") 4 sl fs h9.objs.size) 12) := e10
  clear s10 e10
  have k9A : ∀ b ob, b ≠ nsA → h9.get? b = some ob → hA'.get? b = some ob := fun b ob hb e => (s10'.2 b hb).trans (Heap.get?_push_of_some _ e)
  have k3A : ∀ b ob, b ≠ 16 → b ≠ nsA → b ≠ PK → h3.get? b = some ob → hA'.get? b = some ob := fun b ob hb hb' hb'' e => k9A _ _ hb' (kk9 _ _ hb' hb'' (k38 _ _ hb hb' e))
  have k0A : ∀ b ob, b ≠ 16 → h.get? b = some ob → hA'.get? b = some ob := fun b ob hb e => k3A _ _ hb (low3 e).2.1 (low3 e).1 (k03 _ _ e)
  have bT16 : bT ≠ 16 := fun z => by have := (D.nw _ (.head _)).2; rw [show ((bT, ({ cls := .type "tuple", data := .seq [Value.type "object"].toArray } : Obj)) : Addr × Obj).1 = 16 from z, hP] at this; cases this
  have hbTA : hA'.get? bT = some { cls := .type "tuple", data := .seq #[.type "object"] } := k3A _ _ bT16 (cls_ne hbT hns rfl rfl (by decide)) (Nat.ne_of_lt (Nat.lt_of_lt_of_le (Heap.lt_size hbT) gP)) hbT
  have hslA : hA'.get? sl = some { cls := .type "list", data := .seq #[.str (Str.ofString "obj") tS] } := k9A _ _ (cls_ne hsl9 C9.ns rfl rfl (by decide)) hsl9
  have stne : h9.objs.size ≠ nsA := Nat.ne_of_gt (Heap.lt_size C9.ns)
  have hstA : hA'.get? h9.objs.size = some { cls := .type "tuple", data := .seq [Value.str (Str.ofString "obj") t9].toArray } := (s10'.2 _ stne).trans (Heap.get?_push_size _ rfl)
  have hFA : ∀ i, 4 ≤ i → i ≤ 9 → FnAt P hA' (L + 1) (.str nm tn) i (fs i) (cs i) := fun i a b => (hF9 i a b).step C9.ns T9.tab T9.ok fun b ob hb _ e => k9A b ob hb e
  have hoSA : hA'.get? cStatics = some ⟨.none, none, .dict #[] 0, #[]⟩ := k0A _ _ T.nP.2 hoS
  refine bm_if_false rfl ?_
  refine wpAny_bind (call_type3 (k := 0) (type_new (hA.in1).in1 (by decide) hbTA e10' nsS hslA (fun i a b => let ⟨_, e, _⟩ := hFA i a b; ⟨_, e, rfl⟩) ⟨_, hstA, rfl⟩ hoSA hS1 fun N C D' k1 k2 t1 t2 t3 t' hB kAB fresh hC hN hD => ?_))
  refine ⟨C, _, rfl, hC, rfl, ?_⟩
  repeat wp_delta
  refine wpAny_pure ?_
  refine wpAny_bind (wpAny_of_eq (a := .ref C) rfl ?_)
  refine wpAny_bind (wpAny_standAt (wpAny_bind (wpAny_bindName ?_)))
  obtain ⟨m, nL, hmL⟩ := F.loc
  have L16 : L ≠ 16 := fun z => by
    obtain ⟨om, esm, epm, em, dm, rm⟩ := nL
    rw [show (callEnvC (fnOf (hd02.heap_39 P) 21) L 21).locals = 16 from z, hP] at em
    cases em; cases dm
  have kB : ∀ b ob, b ≠ 16 → h.get? b = some ob → hB.get? b = some ob := fun b ob hb e => kAB _ _ (k0A _ _ hb e)
  have nLB : hB.Ns L m := by
    obtain ⟨om, esm, epm, em, rm⟩ := nL
    exact ⟨om, esm, epm, kB _ _ L16 em, rm⟩
  refine wpAny_storeName_local rfl nLB (fun hF nF sF => ?_) rfl
  refine wpAny_pure ?_
  dsimp only
  have sF' : Heap.SameBut L hB hF := sF
  have nF' : hF.Ns L (fun y => if y = Str.ofString "K" then some (.ref C) else m y) := nF
  clear sF nF
  refine jExecs_cons (jReturn (wpJ.of (wpAny_Name (wpAny_loadName_local rfl rfl nF' (if_pos rfl) ?_) rfl)))
  have kF : ∀ b ob, b ≠ L → hB.get? b = some ob → hF.get? b = some ob := fun b ob hb e => (sF'.2 b hb).trans e
  have lL : ∃ ob, h.get? L = some ob ∧ ∃ es ep, ob.data = .dict es ep := let ⟨om, esm, epm, em, dm, rm⟩ := nL; ⟨om, em, esm, epm, dm⟩
  obtain ⟨oL, eL, _, _, dL⟩ := lL
  have freshL : ∀ {b}, hA'.get? b = none → b ≠ L := fun {b} e z => by rw [z, k0A _ _ L16 eL] at e; cases e
  have hC' := kF _ _ (freshL fresh.2.1) hC
  have hN' := kF _ _ (freshL fresh.1) hN
  have hD' := kF _ _ (freshL fresh.2.2) hD
  obtain ⟨cc, vv, hlk, hcell, hrep⟩ := F.cel (Str.ofString "mycmp") (.val f) rfl (fun z => by cases (show some NameKind.cell = some NameKind.local from z))
  cases hrep
  have hcc : cc = L + 1 := by
    have : (callEnvC (fnOf (hd02.heap_39 P) 21) L 21).cells.lookup (Str.ofString "mycmp") = some (L + 1) := rfl
    rw [this] at hlk; cases hlk; rfl
  subst hcc
  refine ⟨hF, _, rfl, ⟨fun b ob nb e => ?_⟩, .ref C, rfl, C, cK, rfl, fun xC => ?_, ?_, ?_⟩
  · exact kF _ _ (fun z => nb (.inl (.inl z))) (kB _ _ (fun z => nb (.inr z)) e)
  · obtain ⟨ob, e⟩ := F.xs C xC
    by_cases z : C = 16
    · have := fresh.2.1
      rw [z, (k9A 16 _ (Ne.symm ns16) (kk9 16 _ (Ne.symm ns16) (low3 hP).1.elim (k58 16 _ (Ne.symm ns16) (k45 _ _ T4.tab)))) ] at this
      cases this
    · have := fresh.2.1
      rw [k0A _ _ z e] at this; cases this
  · refine ⟨N, D', L + 1, bT, sl, h9.objs.size, (fun i => if i = 11 then k10 else hs i), (fun i => if i = 11 then t9 + 1 else ts i), fs, cs, .str nm tn, k1, k2, _, t1, t2, t3, hC', hN', hD', ?_, fun i a b => ?_, fun xN => ?_, fun xc => hXM _ xc (.inr ⟨Str.ofString "mycmp", rfl, rfl⟩)⟩
    · obtain ⟨oc, eoc, doc⟩ := hcell
      exact ⟨oc, kF _ _ (fun z => by rw [z, eL] at eoc; cases eoc; rw [dL] at doc; cases doc) (kB _ _ (fun z => by rw [z, hP] at eoc; cases eoc; cases doc) eoc), doc⟩
    · obtain ⟨ct, e, r⟩ := hFA i a b
      have e' := kAB _ _ e
      refine ⟨ct, kF _ _ (fun z => ?_) e', ?_⟩
      · rw [z, kB _ _ L16 eL] at e'; cases e'; cases dL
      · obtain ⟨o₂, vs₂, t₂, g₂, hc₂, r₁, r₂⟩ := r
        have g₂' := kAB _ _ g₂
        exact ⟨o₂, vs₂, t₂, kF _ _ (fun z => by rw [z, kB _ _ L16 eL] at g₂'; cases g₂'; rw [dL] at r₁; cases r₁) g₂', hc₂, r₁, r₂⟩
    · obtain ⟨ob, e⟩ := F.xs N xN
      by_cases z : N = 16
      · have := fresh.1
        rw [z, (k9A 16 _ (Ne.symm ns16) (kk9 16 _ (Ne.symm ns16) (low3 hP).1.elim (k58 16 _ (Ne.symm ns16) (k45 _ _ T4.tab)))) ] at this
        cases this
      · have := fresh.1
        rw [k0A _ _ z e] at this; cases this
  · have e4 : h4.get? 16 = some (tabObj #[rawInt 4, rawInt 4, .ref cK]) := T4.tab
    exact kF _ _ (Ne.symm L16) (kAB _ _ (k9A _ _ (Ne.symm ns16) (kk9 _ _ (Ne.symm ns16) (low3 hP).1 (k58 _ _ (Ne.symm ns16) (k45 _ _ e4)))))
end Mine
end
noncomputable section
open PySem PySem.W PySem.W.X PyProof.Rows
set_option Elab.async false
set_option linter.unusedVariables false
set_option maxRecDepth 100000
namespace Mine
/-- a thing of K -/
noncomputable def Inst (h : Heap) (x C : Addr) (v : Value) : Prop := ∃ dx, h.get? x = some ⟨.ref C, some dx, .plain, #[some v]⟩
noncomputable abbrev codeO (dd : Option Addr) (sl : Array (Option Value)) (v0 : Value) (q : Str) (t : Tok) (r : List Value) : Obj := ⟨.type "code", dd, .fields ⟨v0 :: .str q t :: r⟩, sl⟩
theorem CodeK.open {h : Heap} {c : Addr} {q : Str} (r : CodeK h c q) : ∃ dd sl v0 t r, h.get? c = some (codeO dd sl v0 q t r) := by
  obtain ⟨⟨cl, dd, dt, sl⟩, vs, t, g, rc, r1, r2⟩ := r
  simp only at r1 rc
  subst r1 rc
  obtain ⟨l⟩ := vs
  match l, r2 with
  | v0 :: x :: r, r2 =>
    simp only [List.getElem?_toArray, List.getElem?_cons_succ, List.getElem?_cons_zero, Option.some.injEq] at r2
    subst r2
    exact ⟨dd, sl, v0, _, r, g⟩
  | [], r2 => simp at r2
  | [_], r2 => simp at r2
noncomputable abbrev nsE (hs : Nat → Int) (ts : Nat → Nat) (fs : Nat → Addr) (sl st D : Addr) (k1 k2 : Int) (t1 t2 : Tok) : Obj := ⟨.type "dict", none, .dict ((kEnt hs ts (Str.ofString "cpy313.functools") 4 sl fs st).eraseIdx 1 ++ [(⟨k1, .str (Str.ofString "obj") t1, .ref D⟩ : DictEntry)] ++ [(⟨k2, .str (Str.ofString "__doc__") t2, .none⟩ : DictEntry)]).toArray 3, #[]⟩
/-- objects of the top -/
noncomputable def kSub (P : Params) : Frag := hd02.heap_39 P
section
variable {prog : Program} {w : World} {h : Heap} {g : Array GenState} {d : Drawn} {t : Nat} {os : OsState} {Q : Value → Shared → Prop} {E : Value → Shared → Prop}
local macro_rules | `(tactic| x_close) => `(tactic| (apply_assumption <;> first | assumption | rfl))
/-- the method __init__ -/
noncomputable def initDef (a1 a2 p1 p2 p3 p4 p5 : Pos) (pm cd ct : Value) : FuncData := defFn (Str.ofString "__init__") (Str.ofString "cmp_to_key.<locals>.K.__init__")
  { posonlyargs := [], args := [{ arg := "self", annotation := none, pos := a1 }, { arg := "obj", annotation := none, pos := a2 }], vararg := none, kwonlyargs := [], kw_defaults := [], kwarg := none, defaults := [] }
  (.stmts [.Assign [.Attribute (.Name "self" p1) "obj" p2] (.Name "obj" p3) p4]) { kind := .function, names := [(Str.ofString "self", .local), (Str.ofString "obj", .local)], isGenerator := false, isCoroutine := false, more := [] } [] pm cd ct
set_option maxHeartbeats 0 in
theorem inst_x {a1 a2 p1 p2 p3 p4 p5 : Pos} {C N D bT sl st cI : Addr} {t0 t1 t2 t3 tI : Tok} {hs : Nat → Int} {ts : Nat → Nat} {fs : Nat → Addr} {k1 k2 : Int} {v pm ct v0 : Value} {dd : Option Addr} {sll : Array (Option Value)} {r : List Value}
   (hC : h.get? C = some ⟨.type "type", none, .cls (cd2 C N), #[some (.ref bT), none, some (.str (Str.ofString "K") t0), some (.str (Str.ofString "cmp_to_key.<locals>.K") (ts 21)), some (.builtin "object.__new__"), some (.bool false)]⟩)
   (hN : h.get? N = some (nsE hs ts fs sl st D k1 k2 t1 t2)) (hD : h.get? D = some ⟨.type "member_descriptor", none, .fields #[.str (Str.ofString "obj") t3, .ref C, .builtin "proto.slot", .builtin "proto.slot#set", .int 0 0], #[]⟩)
   (hI : h.get? (fs 4) = some ⟨.type "function", none, .func (initDef a1 a2 p1 p2 p3 p4 p5 pm (.ref cI) ct), #[]⟩)
   (hcI : h.get? cI = some (codeO dd sll v0 (Str.ofString "cmp_to_key.<locals>.K.__init__") tI r))
   (hS : h.get? (nat_lit 2) = some ⟨.none, none, .dict #[] 0, #[]⟩)
   (q : ∀ x dx o₁ o₂ L h', Mem h h' [] [(L, o₁), (x, ⟨.ref C, some dx, .plain, #[some v]⟩), (dx, o₂)] → Q (.ref x) ⟨h', g, d, t + 1 + 1 + 1, os⟩) : wpAny (model prog w) AK (call (.ref C) [v]) Q E ⟨h, g, d, t, os⟩ := by
  unfold nsE at hN
  unfold initDef at hI
  unfold codeO at hcI
  x_run
end
end Mine
end
noncomputable section
open PySem PySem.W PySem.W.X PyProof.Rows
set_option Elab.async false
set_option linter.unusedVariables false
set_option maxRecDepth 100000
namespace Mine
/-- a key class's read face -/
structure KA (h : Heap) (C N D : Addr) (m : Str → Option Value) : Prop where
  cls : ∃ q sl0 sl1 sl2 sl3 sl5, h.get? C = some (excClassObj (Str.ofString "K") q C N [.type "object"] [.type "object"] false [Str.ofString "obj"] [] false none none sl0 sl1 sl2 sl3 sl5 "object.__new__")
  ns : h.Ns N m
  ga : m "__getattribute__" = none
  gt : m "__getattr__" = none
  ob : m "obj" = some (.ref D)
  md : ∃ t3, h.get? D = some ⟨.type "member_descriptor", none, .fields #[.str (Str.ofString "obj") t3, .ref C, .builtin "proto.slot", .builtin "proto.slot#set", .int 0 0], #[]⟩
noncomputable def opName (i : Nat) : Str := match i with
  | 5 => "__lt__" | 6 => "__gt__" | 7 => "__eq__" | 8 => "__le__" | _ => "__ge__"
theorem KC.face {P : Params} {h : Heap} {C : Addr} {f : Value} (k : KC P h C f) : ∃ N D m cel pm, KA h C N D m ∧ h.IsCell cel (some f) ∧ ∀ i, 5 ≤ i → i ≤ 9 → ∃ fi ci, m (opName i) = some (.ref fi) ∧ FnAt P h cel pm i fi ci := by
  obtain ⟨N, D, cel, bT, sl, st, hs, ts, fs, cs, pm, k1, k2, t0, t1, t2, t3, hC, hN, hD, hcel, hfs, -⟩ := k
  refine ⟨N, D, _, cel, pm, ⟨⟨_, _, _, _, _, _, hC⟩, ⟨_, _, _, hN, rfl, ?_, fun _ => rfl⟩, ?_, ?_, ?_, ⟨_, hD⟩⟩, hcel, fun i h5 h9 => ⟨fs i, cs i, ?_, hfs i (by omega) h9⟩⟩
  · intro e he
    simp only [kEnt, List.eraseIdx, List.cons_append, List.nil_append, List.mem_toArray, List.mem_cons, List.not_mem_nil, or_false] at he
    rcases he with rfl | rfl | rfl | rfl | rfl | rfl | rfl | rfl | rfl | rfl | rfl | rfl | rfl <;> exact ⟨_, _, rfl⟩
  · kernel_rfl
  · kernel_rfl
  · kernel_rfl
  · obtain rfl | rfl | rfl | rfl | rfl : i = 5 ∨ i = 6 ∨ i = 7 ∨ i = 8 ∨ i = 9 := by omega
    all_goals kernel_rfl
end Mine
end
noncomputable section
open PySem PySem.W PySem.W.X PyProof.Rows
set_option Elab.async false
set_option linter.unusedVariables false
set_option maxRecDepth 100000
namespace Mine
section
variable {prog : Program} {w : World} {h : Heap} {g : Array GenState} {d : Drawn} {t : Nat} {os : OsState} {E : Value → Shared → Prop}
section
local macro_rules | `(tactic| x_close) => `(tactic| (apply_assumption <;> first | assumption | rfl))
set_option maxHeartbeats 0 in
theorem slotget_x {C N D x : Addr} {t3 : Tok} {q : Str} {sl0 sl1 sl2 sl3 sl5 : Option Value} {dx : Option Addr} {v : Value} {Q : Value → Shared → Prop}
   (hC : h.get? C = some ⟨.type "type", none, .cls { name := Str.ofString "K", bases := [.type "object"], mro := [.ref C, .type "object"], ns := N, qualname := q, hasDict := false, slotNames := [Str.ofString "obj"], subclasses := [], abstract := false, collection := none, hasDel := false }, #[sl0, sl1, sl2, sl3, some (.builtin "object.__new__"), sl5]⟩)
   (hD : h.get? D = some ⟨.type "member_descriptor", none, .fields #[.str (Str.ofString "obj") t3, .ref C, .builtin "proto.slot", .builtin "proto.slot#set", .int 0 0], #[]⟩)
   (hx : h.get? x = some ⟨.ref C, dx, .plain, #[some v]⟩)
   (q : Q v ⟨h, g, d, t, os⟩) : wpAny (model prog w) AK (call (.builtin "member_descriptor.__get__") [.ref D, .ref x, .ref C]) Q E ⟨h, g, d, t, os⟩ := by
  x_run
end
theorem md_get : typeLookup (.type "member_descriptor") (Str.ofString "__get__") = pure (some (.builtin "member_descriptor.__get__")) := by rw [typeLookup_type, builtinLookup_eq_fast]; kernel_rfl
theorem md_set : typeLookup (.type "member_descriptor") (Str.ofString "__set__") = pure (some (.builtin "member_descriptor.__set__")) := by rw [typeLookup_type, builtinLookup_eq_fast]; kernel_rfl
theorem hooked_plain : plainId "proto.getattr_hooked" = true := by decide +kernel
theorem ob_obj : typeLookup (.type "object") (Str.ofString "obj") = pure none := by rw [typeLookup_type, builtinLookup_eq_fast]; kernel_rfl
set_option maxHeartbeats 4000000 in
theorem slot_attr {A : Around} {k : Nat} (hA : Bud k A) (hk : 50 ≤ k) {C N D x : Addr} {m : Str → Option Value} {dx : Option Addr} {v : Value} {expr : Bool} {Q : Value → Shared → Prop} (K : KA h C N D m)
   (hx : h.get? x = some ⟨.ref C, dx, .plain, #[some v]⟩) (hh : handedOut v = pure v) (q : Q v ⟨h, g, d, t + 1, os⟩) : wpAny (model prog w) A (getAttr (.ref x) (Str.ofString "obj") expr) Q E ⟨h, g, d, t, os⟩ := by
  obtain ⟨⟨qn, sl0, sl1, sl2, sl3, sl5, hC⟩, hn, hga, hgt, hob, t3, hD⟩ := K
  unfold getAttr getAttrBy
  repeat (first | with_reducible refine wpAny_loadPart_at hx ?_ | (with_reducible refine wpAny_typeLookup_exc hC hn F.mro_object F.lk_object_ga ?_; rw [hga]) | wp_step)
  show wpAny _ _ ((runValue (.builtin "proto.getattr_hooked" ⟨[.ref x, .str (Str.ofString "obj") t], []⟩)).onRaise (noteIf true (.ref x) (.str (Str.ofString "obj") t))) _ _ _
  refine wpAny_onRaise (wpAny_runValue (codeAny_builtin F.plainObj_entry_getattr_hooked ?_))
  unfold Builtin.«proto.getattr_hooked»
  repeat (first | with_reducible refine wpAny_loadPart_at hx ?_ | wp_step)
  refine wpAny_typeLookup_exc hC hn F.mro_object ob_obj ?_
  rw [hob]
  unfold Builtin.ObjectAttr.getOf
  refine wpAny_bind (wpAny_specialOf ⟨_, hD, rfl⟩ md_get ?_)
  refine wpAny_bind ?_
  unfold Builtin.ObjectAttr.dataDescriptor? Builtin.ObjectAttr.takesStores
  refine wpAny_bind (wpAny_bind (wpAny_specialOf ⟨_, hD, rfl⟩ md_set ?_))
  refine bm_if_true rfl ?_
  repeat wp_step
  refine wpAny_typeLookup_exc hC hn F.mro_object F.lk_object_getattr ?_
  rw [hgt]
  rw [Around.under_plainId hooked_plain _]
  unfold Builtin.ObjectAttr.bindWithHook Builtin.ObjectAttr.bindTo
  refine wpAny_bind (wpAny_holding (Bud.wk (k := 49) (hA.mono hk).in1 (by decide) (slotget_x hC hD hx ?_)))
  refine wpAny_pure ?_
  show wpAny _ _ (handedOut v) _ _ _
  rw [hh]
  exact wpAny_pure q
end
end Mine
end
noncomputable section
open PySem PySem.W PySem.W.X PyProof.Rows
set_option Elab.async false
set_option linter.unusedVariables false
set_option maxRecDepth 100000
namespace Mine
variable {prog : Program} {w : World} {G : Heap → Prop} {Z : Addr → Prop}
theorem ev_obj (W : Glob G Z) {k env} {ρ : Rho} {x p pos C d} (hK : ∀ h, G h → ∃ N D m, KA h C N D m) (h₁ : EvS prog w G Z k env ρ (.Name x p) (.key C d)) (hh : ∀ h X v, Rep h X d v → handedOut v = pure v) (hk : 50 ≤ k := by omega) :
    EvS prog w G Z k env ρ (.Attribute (.Name x p) "obj" pos) d := by
  intro A hA X h g dr tk o F
  rw [arm_eval_Attribute]
  refine wpJ_bind ?_
  show wpJ _ _ (eval (.Name x p) env) _ _
  refine h₁.use hA F fun h' t' v g₁ r₁ => ?_
  obtain ⟨x', dx, u, rfl, hx, ho, ru⟩ := r₁
  obtain ⟨N, D, m, K⟩ := hK h' (F.le W g₁).g
  refine wpJ_at (wpJ_bind (wpJ_holding (wpJ.of (slot_attr hA hk K ho (hh _ _ _ ru) ?_))))
  refine wpJ_bind (wpJ_pure ?_)
  exact wpJ_pure ⟨h', _, rfl, g₁, ru⟩
theorem KC.le {P : Params} {h h' : Heap} {C : Addr} {f : Value} (k : KC P h C f) (g : Le h h') : KC P h' C f := KCz.grow k g (fun _ q => q.elim) fun _ q => q.elim
theorem init_eq (P : Params) (cel : Addr) (pm cd ct : Value) : methFd P 4 cel pm cd ct = initDef ⟨8, 21, 8, 25⟩ ⟨8, 27, 8, 30⟩ ⟨9, 12, 9, 16⟩ ⟨9, 12, 9, 20⟩ ⟨9, 23, 9, 26⟩ ⟨9, 12, 9, 26⟩ ⟨8, 8, 9, 26⟩ pm cd ct := by kernel_rfl
/-- a key made -/
theorem key_new {h₀ : Heap} {C : Addr} {f : Value} (fr : ∀ h, G h → Le h₀ h) (K : KC w.params h₀ C f) (stat : ∀ h, G h → h.get? cStatics = some ⟨.none, none, .dict #[] 0, #[]⟩) {d : D} : CallS prog w G 49 (.ref C) [d] (.key C d) := by
  intro A hA X h g dr tk o vs hg hx r
  obtain ⟨v, _, rfl, r, rfl⟩ := r
  obtain ⟨N, D, cel, bT, sl, st, hs, ts, fs, cs, pm, k1, k2, t0, t1, t2, t3, hC, hN, hD, hcel, hfs, -⟩ := K.le (fr h hg)
  obtain ⟨ct, e, c⟩ := hfs 4 (by decide) (by decide)
  obtain ⟨dd, sll, v0, tI, rr, hc⟩ := c.open
  refine wpJ.of (hA.wk (Nat.le_refl _) (inst_x (cI := cs 4) (ct := ct) (pm := pm) hC hN hD (e.trans (by rw [init_eq])) hc (stat h hg) fun x dx o₁ o₂ L h' M => ?_))
  have gr : Le h h' := ⟨fun b o _ e => mm_old M e⟩
  refine ⟨h', _, rfl, gr, x, dx, v, rfl, fun q => ?_, mm_at M (.tail _ (.head _)), r.le gr⟩
  obtain ⟨ob, eb⟩ := hx x q
  have := (M.nw _ (.tail _ (.head _))).2
  rw [eb] at this; cases this
end Mine
end
noncomputable section
open PySem PySem.W PySem.W.X PyProof.Rows
set_option Elab.async false
set_option linter.unusedVariables false
set_option maxRecDepth 100000
namespace Mine
variable {prog : Program} {w : World} {G : Heap → Prop} {Z : Addr → Prop}
section
variable {A : Around} {h : Heap} {g : Array GenState} {d : Drawn} {t : Nat} {os : OsState} {x C fA y : Addr} {B : String}
theorem jOwnCall {M : Model} {name : Str} {args : List Value} {Q : Option Value → Shared → Prop} (X : h.OwnSpecial x C fA B name)
    (hcall : wpJ M A (call (.ref fA) (.ref x :: args)) (fun v => Q (some v)) ⟨h, g, d, t, os⟩) : wpJ M A (callSpecialIfBound? (.ref x) name args) Q ⟨h, g, d, t, os⟩ := by
  have X' := X
  obtain ⟨o, of, _, _, _, _, _, _, _, _, _, _, _, _, _, _, _, _, _, _, _, _, _, _, _, _, hfo, hfc, _, _⟩ := X'
  simp only [callSpecialIfBound?, bindSpecialIfBound?]
  refine wpJ_holding (wpJ_bind (wpJ_bind (wpJ.of (wpAny_specialOf_own X ?_))))
  refine wpJ_bind (wpJ.of (wpAny_askSetting ?_))
  have fin : wpJ M A (call (.ref fA) ([.ref x] ++ args) >>= fun v => pure (some v)) Q ⟨h, g, d, t, os⟩ :=
    wpJ_bind (wpJ_mono hcall (fun v s' h' => wpJ_pure h'))
  split
  · exact wpJ_bind (wpJ.of (wpAny_bindSpecial_def (s := ⟨h, g, d, t, os⟩) hfo hfc (wpJ_pure (by exact fin))))
  · exact wpJ_tryCatch (wpJ_bind (wpJ.of (wpAny_bindSpecial_def (s := ⟨h, g, d, t, os⟩) hfo hfc (wpJ_pure (by exact fin)))))
theorem jRichOwn {op : CmpOp} {sym : String} {f r : Str} {oy : Obj} {Q : Value → Shared → Prop}
    (hop : cmpInfo op = (sym, f, r)) (X : h.OwnSpecial x C fA B f) (hy : h.get? y = some oy) (hyc : oy.cls = .ref C) (hu : A.units < cLine)
    (hcall : wpJ (model prog w) A (call (.ref fA) [.ref x, .ref y]) (fun v s' => ∃ b, v = .bool b ∧ Q (.bool b) s') ⟨h, g, d, t, os⟩) :
    wpJ (model prog w) A (richCompare op (.ref x) (.ref y)) Q ⟨h, g, d, t, os⟩ := by
  have X' := X
  obtain ⟨o, of, nm, q, N, bs, bm, hdct, sn, sub, ab, col, dd, k0, k1, k2, k3, k5, newId, mN, yv, hx, hc, _⟩ := X'
  unfold richCompare
  simp only [oneThing_ref]
  refine wpJ_holding ?_
  refine wpJ_bind (wpJ.of (wpAny_cRoomFor hu ?_))
  rw [hop]
  dsimp only
  refine wpJ_bind (wpJ.of (wpAny_typeOf_ref hx ?_))
  rw [hc]
  refine wpJ_bind (wpJ.of (wpAny_typeOf_ref hy ?_))
  rw [hyc]
  rw [show (Value.ref C != Value.ref C) = false from by simp]
  simp only [Bool.false_eq_true, if_false]
  refine wpJ_bind (wpJ_pure ?_)
  simp only [Bool.false_eq_true, if_false]
  unfold tryCompare
  refine wpJ_bind (wpJ_bind (jOwnCall X (wpJ_mono hcall (fun v s' hv => ?_))))
  obtain ⟨b, rfl, hq⟩ := hv
  exact wpJ_pure (wpJ_pure hq)
end
noncomputable def CmpK (prog : Program) (w : World) (G : Heap → Prop) (k : Nat) (op : CmpOp) (d₁ d₂ : D) (b : Bool) : Prop :=
  ∀ A, Bud k A → ∀ X h g dr tk o v₁ v₂, G h → Alive X h → Rep h X d₁ v₁ → Rep h X d₂ v₂ → wpJ (model prog w) A (compareOp op v₁ v₂) (Post g dr o no h fun h' v => Rep h' X (.bool b) v) ⟨h, g, dr, tk, o⟩
theorem CmpK.use {k : Nat} {op : CmpOp} {d₁ d₂ : D} {b : Bool} (H : CmpK prog w G k op d₁ d₂ b) {A : Around} (hA : Bud k A) {X h g dr tk o v₁ v₂} (hg : G h) (hx : Alive X h) (r₁ : Rep h X d₁ v₁) (r₂ : Rep h X d₂ v₂)
    {Q : Value → Shared → Prop} (q : ∀ h' t' v, Le h h' → Rep h' X (.bool b) v → Q v ⟨h', g, dr, t', o⟩) : wpJ (model prog w) A (compareOp op v₁ v₂) Q ⟨h, g, dr, tk, o⟩ :=
  wpJ_mono (H A hA X h g dr tk o v₁ v₂ hg hx r₁ r₂) fun v s' ⟨h', t', e, gr, r⟩ => e ▸ q h' t' v gr r
section
variable {k : Nat} {env : Env} {ρ : Rho}
theorem ev_cmpK (W : Glob G Z) {l op r pos d₁ d₂ b j} (h₁ : EvS prog w G Z k env ρ l d₁) (h₂ : EvS prog w G Z k env ρ r d₂) (hb : CmpK prog w G j op d₁ d₂ b) (hm : behindInMarks op r = false := by with_unfolding_all rfl) (hk : j ≤ k := by omega) : EvS prog w G Z k env ρ (.Compare l [op] [r] pos) (.bool b) := by
  intro A hA X h g dr tk o F
  refine jCompare (h₁.use hA F fun h' t' v g₁ r₁ => h₂.use hA (F.le W g₁) fun h'' t'' v' g₂ r₂ => ?_) hm
  have F' := (F.le W g₁).le W g₂
  exact hb.use (hA.mono hk) F'.g F'.xs (r₁.le g₂) r₂ fun h3 t3 v3 g₃ r₃ => ⟨h3, t3, rfl, (g₁.trans g₂).trans g₃, r₃⟩
end
/-- the operation of method i -/
noncomputable def opOf (i : Nat) : CmpOp := match i with
  | 5 => .Lt | 6 => .Gt | 8 => .LtE | _ => .GtE
/-- what method i says of the comparison's number -/
noncomputable def saysOf (i : Nat) (n : Int) : Bool := match i with
  | 5 => decide (n < 0) | 6 => decide (0 < n) | 8 => decide (n ≤ 0) | _ => decide (0 ≤ n)
theorem meth_bind {P : Params} {i : Nat} {cel : Addr} {pm cd ct a b : Value} (hi : i = 5 ∨ i = 6 ∨ i = 8 ∨ i = 9) : bindArgs (methFd P i cel pm cd ct) ⟨[a, b], []⟩ = pure ((["self", "other"] : List Str).zip [a, b]) := by
  rcases hi with rfl | rfl | rfl | rfl <;> kernel_rfl
theorem meth_clo {P : Params} {i : Nat} {cel : Addr} {pm cd ct : Value} (hi : i = 5 ∨ i = 6 ∨ i = 8 ∨ i = 9) : (methFd P i cel pm cd ct).closure = [(Str.ofString "mycmp", cel)] := by
  rcases hi with rfl | rfl | rfl | rfl <;> kernel_rfl
theorem meth_names {P : Params} {i : Nat} {cel : Addr} {pm cd ct : Value} (hi : i = 5 ∨ i = 6 ∨ i = 8 ∨ i = 9) : (methFd P i cel pm cd ct).scope.names = [(Str.ofString "self", .local), (Str.ofString "other", .local), (Str.ofString "mycmp", .free)] := by
  rcases hi with rfl | rfl | rfl | rfl <;> kernel_rfl
theorem meth_code {P : Params} {i : Nat} {cel : Addr} {pm cd ct : Value} (hi : i = 5 ∨ i = 6 ∨ i = 8 ∨ i = 9) : (methFd P i cel pm cd ct).code = cd ∧ (methFd P i cel pm cd ct).qualname = kq i := by
  rcases hi with rfl | rfl | rfl | rfl <;> exact ⟨by kernel_rfl, by kernel_rfl⟩
theorem meth_flags {P : Params} {i : Nat} {cel : Addr} {pm cd ct : Value} (hi : i = 5 ∨ i = 6 ∨ i = 8 ∨ i = 9) : (methFd P i cel pm cd ct).scope.isCoroutine = false ∧ (methFd P i cel pm cd ct).scope.isGenerator = false ∧ (methFd P i cel pm cd ct).scope.kind = .function := by
  rcases hi with rfl | rfl | rfl | rfl <;> exact ⟨by kernel_rfl, by kernel_rfl, by kernel_rfl⟩
theorem meth_body {P : Params} {i : Nat} {cel : Addr} {pm cd ct : Value} (hi : i = 5 ∨ i = 6 ∨ i = 8 ∨ i = 9) : ∃ p1 p2 p3 p4 p5 p6 p7 p8 p9, (methFd P i cel pm cd ct).body = .stmts [.Return (some (.Compare (.Call (.Name "mycmp" p1) [.Attribute (.Name "self" p2) "obj" p3, .Attribute (.Name "other" p4) "obj" p5] [] p6) [opOf i] [.Constant (.int 0) 0 p7] p8)) p9] := by
  rcases hi with rfl | rfl | rfl | rfl
  · exact ⟨⟨12, 19, 12, 24⟩, ⟨12, 25, 12, 29⟩, ⟨12, 25, 12, 33⟩, ⟨12, 35, 12, 40⟩, ⟨12, 35, 12, 44⟩, ⟨12, 19, 12, 45⟩, ⟨12, 48, 12, 49⟩, ⟨12, 19, 12, 49⟩, ⟨12, 12, 12, 49⟩, by kernel_rfl⟩
  · exact ⟨⟨15, 19, 15, 24⟩, ⟨15, 25, 15, 29⟩, ⟨15, 25, 15, 33⟩, ⟨15, 35, 15, 40⟩, ⟨15, 35, 15, 44⟩, ⟨15, 19, 15, 45⟩, ⟨15, 48, 15, 49⟩, ⟨15, 19, 15, 49⟩, ⟨15, 12, 15, 49⟩, by kernel_rfl⟩
  · exact ⟨⟨21, 19, 21, 24⟩, ⟨21, 25, 21, 29⟩, ⟨21, 25, 21, 33⟩, ⟨21, 35, 21, 40⟩, ⟨21, 35, 21, 44⟩, ⟨21, 19, 21, 45⟩, ⟨21, 49, 21, 50⟩, ⟨21, 19, 21, 50⟩, ⟨21, 12, 21, 50⟩, by kernel_rfl⟩
  · exact ⟨⟨24, 19, 24, 24⟩, ⟨24, 25, 24, 29⟩, ⟨24, 25, 24, 33⟩, ⟨24, 35, 24, 40⟩, ⟨24, 35, 24, 44⟩, ⟨24, 19, 24, 45⟩, ⟨24, 49, 24, 50⟩, ⟨24, 19, 24, 50⟩, ⟨24, 12, 24, 50⟩, by kernel_rfl⟩
set_option maxHeartbeats 4000000 in
/-- a method of a key -/
theorem key_meth (W : Glob G Z) {P : Params} {cel : Addr} {pm ct f : Value} {i : Nat} {fi ci C : Addr} {d₁ d₂ : D} {n : Int} {j : Nat} (hi : i = 5 ∨ i = 6 ∨ i = 8 ∨ i = 9)
    (hf : ∀ h, G h → h.get? fi = some (fnObj (methFd P i cel pm (.ref ci) ct)) ∧ CodeK h ci (kq i) ∧ h.IsCell cel (some f))
    (hK : ∀ h, G h → ∃ N D m, KA h C N D m) (cf : Callee G f) (hc : CallS prog w G j f [d₁, d₂] (.int n))
    (h1 : ∀ h X v, Rep h X d₁ v → handedOut v = pure v) (h2 : ∀ h X v, Rep h X d₂ v → handedOut v = pure v) :
    CallS prog w G (j + 51) (.ref fi) [.key C d₁, .key C d₂] (.bool (saysOf i n)) := by
  have key : ∀ h, G h → ∃ o, h.get? fi = some o ∧ o.data = .func (methFd P i cel pm (.ref ci) ct) ∧ h.CodeRec (methFd P i cel pm (.ref ci) ct).code (methFd P i cel pm (.ref ci) ct).qualname := fun h hg => by
    obtain ⟨a, b, c⟩ := hf h hg
    refine ⟨_, a, rfl, ?_⟩
    rw [(meth_code hi).1, (meth_code hi).2]
    exact b.cr
  have e1 := @meth_bind P i cel pm (.ref ci) ct
  have e2 := @meth_clo P i cel pm (.ref ci) ct hi
  have e3 := @meth_names P i cel pm (.ref ci) ct hi
  have e4 := @meth_flags P i cel pm (.ref ci) ct hi
  obtain ⟨p1, p2, p3, p4, p5, p6, p7, p8, p9, e5⟩ := @meth_body P i cel pm (.ref ci) ct hi
  generalize methFd P i cel pm (.ref ci) ct = fd at key e1 e2 e3 e4 e5
  refine call_clo (k := j + 50) (ρ₀ := upd nil "mycmp" (.val f)) (names := ["self", "other"]) W ⟨key, ?_, ?_⟩ ?_ ?_ ?_ (fun L hL => ?_) e4.1 e4.2.1 e4.2.2
  · intro y d q
    unfold upd at q
    by_cases hy : y = "mycmp"
    · rw [if_pos hy] at q
      cases q
      subst hy
      rw [e2, e3]
      exact ⟨(fun q => nomatch q), cel, rfl, fun h X hg _ => ⟨f, (hf h hg).2.2, rfl⟩⟩
    · rw [if_neg hy] at q; cases q
  · intro x y c hx hy
    rw [e2] at hx hy
    have one : ∀ z, [(Str.ofString "mycmp", cel)].lookup z = some c → z = Str.ofString "mycmp" := fun z hz => by
      rw [List.lookup_cons] at hz
      cases hq : z == Str.ofString "mycmp" with
      | true => exact eq_of_beq hq
      | false => rw [hq] at hz; cases hz
    rw [one x hx, one y hy]
  · intro A s vs _ hv
    obtain ⟨a, b, rfl⟩ := len2 hv
    rw [e1 hi]; exact wpAny_pure ⟨rfl, rfl⟩
  · intro x hx
    rw [e3]
    simp at hx
    rcases hx with rfl | rfl <;> rfl
  · intro x hx
    rw [e3] at hx
    simp at hx
    rcases hx with rfl | rfl | rfl <;> exact fun q => nomatch q
  · have kd : ∀ y, (cloEnv fd L fi).kindOf y = fd.scope.names.lookup y := fun y => rfl
    rw [e3] at kd
    have kf : (cloEnv fd L fi).scope.kind = .function := e4.2.2
    rw [e5]
    refine ⟨nil, ?_⟩
    have ek : EvS prog w G Z (j + 50) (cloEnv fd L fi) (bindR ["self", "other"] [.key C d₁, .key C d₂] (upd nil "mycmp" (.val f))) (.Call (.Name "mycmp" p1) [.Attribute (.Name "self" p2) "obj" p3, .Attribute (.Name "other" p4) "obj" p5] [] p6) (.int n) := by
      refine ev_call W (ev_free rfl (by rw [kd]; rfl) kf) cf (evs_cons W (ev_obj W hK (ev_local rfl (by rw [kd]; rfl) kf) h1) (evs_cons W (ev_obj W hK (ev_local rfl (by rw [kd]; rfl) kf) h2) evs_nil)) hc
    refine Tree.sub (exs_ret (ex_return W ?_)) (fun _ _ e => nomatch e)
    rcases hi with rfl | rfl | rfl | rfl
    · exact ev_cmp W ek ev_int cmp_lt
    · exact ev_cmp W ek ev_int cmp_gt
    · exact ev_cmp W ek ev_int cmp_le
    · exact ev_cmp W ek ev_int cmp_ge
end Mine
end
noncomputable section
open PySem PySem.W PySem.W.X PyProof.Rows
set_option Elab.async false
set_option linter.unusedVariables false
set_option maxRecDepth 100000
namespace Mine
variable {prog : Program} {w : World} {G : Heap → Prop} {Z : Addr → Prop}
theorem ob_lt : typeLookup (.type "object") "__lt__" = pure (some (.builtin "object.__lt__")) := by rw [typeLookup_type, builtinLookup_eq_fast]; kernel_rfl
theorem ob_gt : typeLookup (.type "object") "__gt__" = pure (some (.builtin "object.__gt__")) := by rw [typeLookup_type, builtinLookup_eq_fast]; kernel_rfl
theorem ob_le : typeLookup (.type "object") "__le__" = pure (some (.builtin "object.__le__")) := by rw [typeLookup_type, builtinLookup_eq_fast]; kernel_rfl
theorem ob_ge : typeLookup (.type "object") "__ge__" = pure (some (.builtin "object.__ge__")) := by rw [typeLookup_type, builtinLookup_eq_fast]; kernel_rfl
/-- two keys compared -/
theorem key_cmp (W : Glob G Z) {P : Params} {h₀ : Heap} {C : Addr} {f : Value} (fr : ∀ h, G h → Le h₀ h) (K : KC P h₀ C f) (cf : Callee G f) {i : Nat} (hi : i = 5 ∨ i = 6 ∨ i = 8 ∨ i = 9) {d₁ d₂ : D} {n : Int} {j : Nat} (hc : CallS prog w G j f [d₁, d₂] (.int n))
    (h1 : ∀ h X v, Rep h X d₁ v → handedOut v = pure v) (h2 : ∀ h X v, Rep h X d₂ v → handedOut v = pure v) : CmpK prog w G (j + 51) (opOf i) (.key C d₁) (.key C d₂) (saysOf i n) := by
  obtain ⟨N, D, m, cel, pm, KK, hcel, hfs⟩ := K.face
  obtain ⟨fi, ci, hm, ct, hfi, hci⟩ := hfs i (by omega) (by omega)
  have up : ∀ h, G h → KA h C N D m := fun h hg => by
    have kk : ∀ b o, h₀.get? b = some o → h.get? b = some o := fun b o e => (fr h hg).old b o (fun q => q) e
    obtain ⟨⟨a1, a2, a3, a4, a5, a6, a7⟩, b, c, e, f, a8, a9⟩ := KK
    exact ⟨⟨a1, a2, a3, a4, a5, a6, kk _ _ a7⟩, (fr h hg).ns (fun q => q) b, c, e, f, a8, kk _ _ a9⟩
  have hf : ∀ h, G h → h.get? fi = some (fnObj (methFd P i cel pm (.ref ci) ct)) ∧ CodeK h ci (kq i) ∧ h.IsCell cel (some f) := fun h hg => by
    have kk : ∀ b o, h₀.get? b = some o → h.get? b = some o := fun b o e => (fr h hg).old b o (fun q => q) e
    exact ⟨kk _ _ hfi, hci.keeps kk, (fr h hg).cell (fun q => q) hcel⟩
  have M := key_meth (prog := prog) (w := w) W hi hf (fun h hg => ⟨N, D, m, up h hg⟩) cf hc h1 h2 (C := C)
  intro A hA X h g dr tk o v₁ v₂ hg hx r₁ r₂
  obtain ⟨x, dx, u, rfl, nx, ex, rx⟩ := r₁
  obtain ⟨y, dy, v, rfl, ny, ey, ry⟩ := r₂
  obtain ⟨⟨a1, a2, a3, a4, a5, a6, a7⟩, b, -⟩ := up h hg
  have own : ∀ {y}, typeLookup (.type "object") (opName i) = pure y → h.OwnSpecial x C fi "object" (opName i) := fun {y} hy => ⟨_, _, _, _, _, _, _, _, _, _, _, _, _, _, _, _, _, _, _, _, _, ex, rfl, a7, b, hm, (hf h hg).1, rfl, F.mro_object, hy⟩
  have call : wpJ (model prog w) A (call (.ref fi) [.ref x, .ref y]) (fun r s' => ∃ b, r = .bool b ∧ (Post g dr o no h fun h' v => Rep h' X (.bool (saysOf i n)) v) (.bool b) s') ⟨h, g, dr, tk, o⟩ :=
    M.use hA hg hx ⟨_, _, rfl, ⟨x, dx, u, rfl, nx, ex, rx⟩, _, _, rfl, ⟨y, dy, v, rfl, ny, ey, ry⟩, rfl⟩ fun h' t' r gr rr => by
      cases rr
      exact ⟨_, rfl, h', t', rfl, gr, rfl⟩
  unfold compareOp
  rcases hi with rfl | rfl | rfl | rfl
  · exact jRichOwn rfl (own ob_lt) ey rfl hA.un call
  · exact jRichOwn rfl (own ob_gt) ey rfl hA.un call
  · exact jRichOwn rfl (own ob_le) ey rfl hA.un call
  · exact jRichOwn rfl (own ob_ge) ey rfl hA.un call
end Mine
end
noncomputable section
open PySem PySem.W PySem.W.X PyProof.Rows
set_option Elab.async false
set_option linter.unusedVariables false
set_option maxRecDepth 100000
namespace Mine
variable {prog : Program} {w : World} {G : Heap → Prop} {Z : Addr → Prop}
/-- the law's own function -/
noncomputable def lawFd (P : Params) : FuncData := fnOf (hd02.heap_39 P) 77
noncomputable def lawBody (P : Params) : List Stmt := match (lawFd P).body with
  | .stmts b => b
  | _ => []
noncomputable def lamIn : Stmt → Option (Arguments × Expr × Scope)
  | .Assign _ (.Call _ (.Lambda a b s _ :: _) _ _) _ => some (a, b, s)
  | _ => none
/-- the function of the lambda that the law's statement i hands over -/
noncomputable def lamFd (P : Params) (i : Nat) (clos : List (Str × Addr)) (pm cd ct : Value) : FuncData := match (lawBody P)[i]? with
  | some st => (match lamIn st with
    | some (a, b, s) => defFn (Str.ofString "<lambda>") (Str.ofString "law.<locals>.<lambda>") a (.expr b) s clos pm cd ct
    | none => default)
  | none => default
theorem lam6_names {P : Params} {pm cd ct : Value} : (lamFd P 6 [] pm cd ct).scope.names = [(Str.ofString "one", .local), (Str.ofString "two", .local)] ∧ (lamFd P 6 [] pm cd ct).closure = [] ∧ (lamFd P 6 [] pm cd ct).scope.isCoroutine = false ∧ (lamFd P 6 [] pm cd ct).scope.isGenerator = false ∧ (lamFd P 6 [] pm cd ct).scope.kind = .function ∧ (lamFd P 6 [] pm cd ct).code = cd ∧ (lamFd P 6 [] pm cd ct).qualname = Str.ofString "law.<locals>.<lambda>" :=
  ⟨by kernel_rfl, by kernel_rfl, by kernel_rfl, by kernel_rfl, by kernel_rfl, by kernel_rfl, by kernel_rfl⟩
theorem lam6_bind {P : Params} {pm cd ct a b : Value} : bindArgs (lamFd P 6 [] pm cd ct) ⟨[a, b], []⟩ = pure ((["one", "two"] : List Str).zip [a, b]) := by kernel_rfl
set_option maxHeartbeats 4000000 in
/-- the comparison by weight -/
theorem lam6_call (W : Glob G Z) {P : Params} {a c : Addr} {pm ct : Value} (hf : ∀ h, G h → h.get? a = some (fnObj (lamFd P 6 [] pm (.ref c) ct)) ∧ CodeK h c (Str.ofString "law.<locals>.<lambda>")) {x y : Int} : CallS prog w G 5 (.ref a) [.int x, .int y] (.int (3 * (x.fdiv 16 - y.fdiv 16))) := by
  have key : ∀ h, G h → ∃ o, h.get? a = some o ∧ o.data = .func (lamFd P 6 [] pm (.ref c) ct) ∧ h.CodeRec (lamFd P 6 [] pm (.ref c) ct).code (lamFd P 6 [] pm (.ref c) ct).qualname := fun h hg => by
    refine ⟨_, (hf h hg).1, rfl, ?_⟩
    rw [lam6_names.2.2.2.2.2.1, lam6_names.2.2.2.2.2.2]
    exact (hf h hg).2.cr
  obtain ⟨e1, e2, e3, e4, e5, -⟩ := @lam6_names P pm (.ref c) ct
  refine call_clo (k := 4) (ρ₀ := nil) (names := ["one", "two"]) W ⟨key, (fun y d q => nomatch q), ?_⟩ ?_ ?_ ?_ (fun L hL => ?_) e3 e4 e5
  · intro x y c hx; rw [e2] at hx; cases hx
  · intro A s vs _ hv
    obtain ⟨a, b, rfl⟩ := len2 hv
    rw [lam6_bind]; exact wpAny_pure ⟨rfl, rfl⟩
  · intro x hx
    rw [e1]
    simp at hx
    rcases hx with rfl | rfl <;> rfl
  · intro x hx
    rw [e1] at hx
    simp at hx
    rcases hx with rfl | rfl <;> exact fun q => nomatch q
  conv in (lamFd _ _ _ _ _ _) => whnf
  conv in (lamFd _ _ _ _ _ _) => whnf
  exact ev_bin W ev_int (ev_bin W (ev_bin W (ev_local rfl) ev_int (bin_div (by decide) (by decide))) (ev_bin W (ev_local rfl) ev_int (bin_div (by decide) (by decide))) bin_sub) (bin_mul (.of_left (by decide)))
end Mine
end
noncomputable section
open PySem PySem.W PyProof.Rows
set_option Elab.async false
set_option linter.unusedVariables false
set_option maxRecDepth 100000
namespace Mine
/-- the bytes laid so far within word i -/
noncomputable def Bi (wd : Nat) (data : List UInt8) (b : Array UInt8) (i : Nat) : Nat → Array UInt8
  | 0 => b
  | j + 1 => (Bi wd data b i j).setIfInBounds (i * wd + wd - 1 - j) (data.getD (i * wd + j) 0)
/-- the words laid so far -/
noncomputable def Bo (wd : Nat) (data : List UInt8) : Nat → Array UInt8
  | 0 => Array.replicate data.length 0
  | i + 1 => Bi wd data (Bo wd data i) i wd
theorem Bi_size (wd : Nat) (data : List UInt8) (b : Array UInt8) (i : Nat) : ∀ j, (Bi wd data b i j).size = b.size
  | 0 => rfl
  | j + 1 => by rw [Bi, Array.size_setIfInBounds, Bi_size wd data b i j]
theorem Bo_size (wd : Nat) (data : List UInt8) : ∀ i, (Bo wd data i).size = data.length
  | 0 => by simp [Bo]
  | i + 1 => by rw [Bo, Bi_size, Bo_size wd data i]
theorem stab_ba {a : Addr} {b : Array UInt8} : Stab (fun c => c = a) fun h => h.get? a = some (baObj b) := fun S h h' g hS e => g.get (fun s => hS a s rfl) e (fun q => nomatch q)
variable {prog : Program} {w : World} {G : Heap → Prop} {Z : Addr → Prop}
theorem items_range0 {n : Nat} : items (.range 0 (n : Int) 1) = (List.range n).map fun (i : Nat) => .int (i : Int) := by
  simp only [items_range, rangeL, rangeSize_one]
  have : ((if (0 : Int) < (n : Int) then (n : Int) - 0 else 0)).toNat = n := by split <;> omega
  rw [this]
  simp
theorem log2_small {n : Nat} (h : n ≤ 1000) : ((n : Int)).natAbs.log2 < 9000 := by
  have : ((n : Int)).natAbs = n := rfl
  rw [this]
  exact Nat.lt_of_le_of_lt (Nat.log2_le_self n) (by omega)
theorem rsize {L wd m : Nat} (hw : 1 ≤ wd) (hm : L = m * wd) : Builtin.Range.rangeSize 0 (L : Int) (wd : Int) = (m : Int) := by
  unfold Builtin.Range.rangeSize
  rw [if_pos (show (wd : Int) > 0 by omega)]
  cases m with
  | zero => simp at hm; subst hm; simp
  | succ m =>
    have h1 : L = m * wd + wd := by rw [hm, Nat.add_mul, Nat.one_mul]
    rw [if_pos (by omega)]
    have h2 : ((L : Int) - 0 - 1) = ((wd - 1 : Nat) : Int) + (m : Int) * (wd : Int) := by
      rw [h1]; push_cast; omega
    rw [h2, Int.add_mul_ediv_right _ _ (by omega)]
    rw [show (((wd - 1 : Nat) : Int)) / (wd : Int) = 0 from Int.ediv_eq_zero_of_lt (by omega) (by omega)]
    push_cast; omega
theorem items_len {L wd m : Nat} (hw : 1 ≤ wd) (hm : L = m * wd) : (items (.range 0 (L : Int) (wd : Int))).length = m := by
  simp only [items_range, rangeL, rsize hw hm, List.length_map, List.length_range]
  rfl
theorem items_at {L wd m : Nat} (hw : 1 ≤ wd) (hm : L = m * wd) {i : Nat} {e : D} (he : (items (.range 0 (L : Int) (wd : Int)))[i]? = some e) : i < m ∧ e = .int ((i * wd : Nat) : Int) := by
  simp only [items_range, rangeL, rsize hw hm, List.getElem?_map, Option.map_eq_some_iff] at he
  obtain ⟨j, hj, rfl⟩ := he
  have := List.getElem?_eq_some_iff.mp hj
  obtain ⟨h1, h2⟩ := this
  simp at h1 h2
  subst h2
  exact ⟨h1, by congr 1; simp⟩
theorem can_range3 {L wd : Nat} (hw : 1 ≤ wd) (hw2 : wd ≤ 1000) (hz : L ≤ 1000) : CanIter (.range 0 (L : Int) (wd : Int)) := by
  have hr : 0 ≤ Builtin.Range.rangeSize 0 (L : Int) (wd : Int) ∧ Builtin.Range.rangeSize 0 (L : Int) (wd : Int) ≤ 1001 := by
    unfold Builtin.Range.rangeSize
    rw [if_pos (show (wd : Int) > 0 by omega)]
    split
    · have h1 := Int.ediv_nonneg (a := (L : Int) - 0 - 1) (b := (wd : Int)) (by omega) (by omega)
      have h2 := Int.ediv_le_self (a := (L : Int) - 0 - 1) (wd : Int) (by omega)
      omega
    · omega
  refine ⟨?_, hr.1⟩
  unfold Builtin.Range.small Builtin.Range.rangeFitsLong
  simp only [Bool.and_eq_true, Bool.or_eq_true, decide_eq_true_eq, beq_iff_eq, if_pos (show (wd : Int) > 0 by omega)]
  refine ⟨⟨⟨⟨?_, ?_⟩, ?_⟩, ?_⟩, .inr ?_⟩ <;> omega
theorem idx_lt {i j m wd : Nat} (hi : i < m) (hj : j < wd) : i * wd + j < m * wd := by
  have : (i + 1) * wd ≤ m * wd := Nat.mul_le_mul_right _ hi
  rw [Nat.add_mul, Nat.one_mul] at this
  omega
theorem idx_lt' {i j m wd L : Nat} (hi : i < m) (hj : j < wd) (hm : L = m * wd) : i * wd + wd ≤ L := by
  have : (i + 1) * wd ≤ m * wd := Nat.mul_le_mul_right _ hi
  rw [Nat.add_mul, Nat.one_mul] at this
  omega
set_option maxHeartbeats 4000000 in
theorem byteswap_call (W : Glob G Z) (P : Params) (hfn : ∀ h, G h → ∃ o, h.get? 37 = some o ∧ o.data = .func (fnOf (hd02.heap_39 P) 37) ∧ h.CodeRec (fnOf (hd02.heap_39 P) 37).code (fnOf (hd02.heap_39 P) 37).qualname)
    (g1 : GV G "len" (.builtin "len")) (g2 : GV G "bytearray" (.type "bytearray")) (g3 : GV G "range" (.type "range")) (g4 : GV G "bytes" (.type "bytes"))
    {data : List UInt8} {wd m : Nat} (hw : 1 ≤ wd) (hw2 : wd ≤ 1000) (hm : data.length = m * wd) (hz : data.length ≤ 1000) : CallS prog w G 541 (.ref 37) [.bytes data, .int (wd : Int)] (.bytes (Bo wd data m).toList) := by
  refine call_fn (ρ' := nil) (k := 540) W hfn rfl rfl (names := ["data", "width"]) ?_ ?_ (fun L hL => ?_) rfl rfl rfl
  · intro vs hv
    obtain ⟨a, b, rfl⟩ := len2 hv
    rfl
  · intro x hx
    simp at hx
    rcases hx with rfl | rfl <;> exact .inl rfl
  conv in (fnOf _ _) => whnf
  have hlen : (items (.range 0 (data.length : Int) (wd : Int))).length = m := items_len hw hm
  refine exs_own_ba W (ev_global g2) (ev_call W (ev_global g1) (.inl ⟨_, rfl⟩) (evs_cons W (ev_local rfl) evs_nil) (call_len_bytes (by omega))) (by omega) (by omega) (fun a ha => ?_)
  rw [show ((data.length : Int)).toNat = data.length from rfl]
  refine TrO.sub (ρ' := upd (bindR ["data", "width"] [.bytes data, .int (wd : Int)] nil) "swapped_data" (.val (.ref a))) ?_ (fun _ _ e => nomatch e)
  refine exsO_cons (ex_forO W (Ps := fun i h => h.get? a = some (baObj (Bo wd data i))) (ρs := fun _ => upd (bindR ["data", "width"] [.bytes data, .int (wd : Int)] nil) "swapped_data" (.val (.ref a))) (d := .range 0 (data.length : Int) (wd : Int))
    (ev_call W (ev_global g3) (.inr (.inl ⟨_, rfl⟩)) (evs_cons W ev_int (evs_cons W (ev_call W (ev_global g1) (.inl ⟨_, rfl⟩) (evs_cons W (ev_local rfl) evs_nil) (call_len_bytes (by omega))) (evs_cons W (ev_local rfl) evs_nil))) (call_range3 (by omega) (log2_small hw2))) (can_range3 hw hw2 hz) (fun i => stab_ba) (fun i e he => ?_)) ?_
  · obtain ⟨hi, rfl⟩ := items_at hw hm he
    refine TrO.sub (ρ' := upd (upd (bindR ["data", "width"] [.bytes data, .int (wd : Int)] nil) "swapped_data" (.val (.ref a))) "i" (.int ((i * wd : Nat) : Int))) ?_ ((Sub.refl _).upd rfl)
    refine exsO_cons (P' := fun h => h.get? a = some (baObj (Bi wd data (Bo wd data i) i wd))) ?_ exsO_nil
    have il : (items (.range 0 (wd : Int) 1)).length = wd := by rw [items_range0]; simp
    refine ex_forN W (O := fun c => c = a) (Ps := fun j h => h.get? a = some (baObj (Bi wd data (Bo wd data i) i j))) (ρs := fun _ => upd (upd (bindR ["data", "width"] [.bytes data, .int (wd : Int)] nil) "swapped_data" (.val (.ref a))) "i" (.int ((i * wd : Nat) : Int))) (d := .range 0 (wd : Int) 1) il
      (ev_call W (ev_global g3) (.inr (.inl ⟨_, rfl⟩)) (evs_cons W (ev_local rfl) evs_nil) call_range1) (can_range1 (by omega) (by omega)) (fun j => stab_ba) (fun j e he => ?_)
    rw [items_range0] at he
    simp only [List.getElem?_map, List.getElem?_range, Option.map_eq_some_iff] at he
    obtain ⟨j', hj', rfl⟩ := he
    obtain ⟨hj, hj2⟩ := List.getElem?_eq_some_iff.mp hj'
    simp at hj hj2
    subst hj2
    have hb : i * wd + j < data.length := by rw [hm]; exact idx_lt hi hj
    refine TrO.sub (ρ' := upd (upd (upd (bindR ["data", "width"] [.bytes data, .int (wd : Int)] nil) "swapped_data" (.val (.ref a))) "i" (.int ((i * wd : Nat) : Int))) "j" (.int (j : Int))) ?_ ((Sub.refl _).upd rfl)
    refine exsO_cons ?_ exsO_nil
    have hc : data[i * wd + j]? = some (data.getD (i * wd + j) 0) := by
      rw [List.getD_eq_getElem?_getD]; simp [hb]
    refine ex_set_ba' W (n' := i * wd + wd - 1 - j) (v' := data.getD (i * wd + j) 0) ?_ rfl (ev_sub W (ev_local rfl) (ev_bin W (ev_local rfl) (ev_local rfl) bin_add) (sub_bytes (by omega) ?_ (by omega))) (ev_local rfl) (ev_bin W (ev_bin W (ev_bin W (ev_local rfl) (ev_local rfl) bin_add) ev_int bin_sub) (ev_local rfl) bin_sub) ?_ ?_ ha
    · omega
    · rw [← hc]; congr 1
    · rw [Bi_size, Bo_size]; omega
    · rw [Bi_size, Bo_size]
      have := idx_lt' hi hj hm
      omega
  · rw [hlen]
    exact exs_ret_ba W (b := Bo wd data m) (ev_global g4) (ev_local rfl) (by rw [Bo_size]; omega)
end Mine
end
noncomputable section
open PySem PySem.W PyProof.Rows
set_option Elab.async false
set_option linter.unusedVariables false
set_option maxRecDepth 100000
namespace Mine
variable {prog : Program} {w : World} {G : Heap → Prop} {Z : Addr → Prop}
theorem sub_turn {ρ : Rho} {x y : Str} {a a' e : D} (hy : ρ y = none) (hxy : y ≠ x) : Sub (upd ρ x a') (upd (upd (upd ρ x a) y e) x a') := fun z d q => by
  unfold upd at q ⊢
  by_cases hz : z = x
  · rw [if_pos hz] at q ⊢; exact q
  · rw [if_neg hz] at q ⊢
    by_cases hz' : z = y
    · rw [hz', hy] at q; cases q
    · rw [if_neg hz', if_neg hz]; exact q
set_option maxHeartbeats 4000000 in
theorem reduce_call (W : Glob G Z) (P : Params) (hfn : ∀ h, G h → ∃ o, h.get? 30 = some o ∧ o.data = .func (fnOf (hd02.heap_39 P) 30) ∧ h.CodeRec (fnOf (hd02.heap_39 P) 30).code (fnOf (hd02.heap_39 P) 30).qualname)
    (hbind : ∀ A s (vs : List Value), G s.heap → vs.length = 3 → wpAny (model prog w) A (bindArgs (fnOf (hd02.heap_39 P) 30) ⟨vs, []⟩) (fun b s' => b = (["function", "sequence", "initial"] : List Str).zip vs ∧ s' = s) noE s)
    (g1 : GV G "iter" (.builtin "iter")) (g2 : GV G "_initial_missing" (.ref 22)) (hm : ∀ h, G h → ∃ o, h.get? 22 = some o ∧ o.cls = .type "object")
    {f : Value} (cf : Callee G f) {d : D} {acc : Nat → D} {N k : Nat} (hc : CanIter d) (hN : (items d).length = N) (h0 : (∃ l, acc 0 = .lst l) ∨ (∃ l, acc 0 = .tup l) ∨ ∃ b, acc 0 = .bytes b)
    (hs : ∀ i e, (items d)[i]? = some e → CallS prog w G k f [acc i, e] (acc (i + 1))) : CallS prog w G (k + 5) (.ref 30) [.val f, d, acc 0] (acc N) := by
  refine call_clo (k := k + 4) (ρ₀ := nil) (names := ["function", "sequence", "initial"]) W ⟨hfn, (fun y d q => nomatch q), (fun x y c q => nomatch q)⟩ hbind ?_ ?_ (fun L hL => ?_) rfl rfl rfl
  · intro x hx
    simp at hx
    rcases hx with rfl | rfl | rfl <;> rfl
  · intro x hx
    conv at hx in (fnOf _ _) => whnf
    simp at hx
    rcases hx with rfl | rfl | rfl | rfl | rfl | rfl | rfl | rfl | rfl | rfl | rfl | rfl <;> exact fun q => nomatch q
  conv in (fnOf _ _) => whnf
  refine ⟨nil, ?_⟩
  refine exs_iter_for W (d := d) (ρs := fun I i => upd (upd (bindR ["function", "sequence", "initial"] [.val f, d, acc 0] nil) "it" (.val (.ref I))) "value" (acc i)) hN
    (ev_global g1) (ev_local rfl) hc (fun I => ?_) (fun I => ev_local rfl) (fun I i e he => ?_) (fun I => ?_)
  · exact ex_if W (test_cmp W (ev_local rfl) (ev_global g2) (cmp_is_obj hm h0)) (fun q => nomatch q) (fun _ => exs_cons (ex_assign W (ev_local rfl)) exs_nil)
  · refine Tree.sub ?_ (sub_turn (y := "element") (e := e) (a := acc i) rfl (by decide))
    exact exs_cons (ex_assign W (ev_call W (ev_local rfl) cf (evs_cons W (ev_local rfl) (evs_cons W (ev_local rfl) evs_nil)) (hs i e he))) exs_nil
  · exact Tree.sub (exs_ret (ex_return W (ev_local rfl))) (fun _ _ e => nomatch e)
end Mine
end
noncomputable section
open PySem PySem.W PyProof.Rows
set_option Elab.async false
set_option linter.unusedVariables false
set_option maxRecDepth 100000
set_option exponentiation.threshold 10000
namespace Mine
variable {prog : Program} {w : World} {G : Heap → Prop} {Z : Addr → Prop}
theorem EvS.eq {k env} {ρ : Rho} {e d d'} (h : EvS prog w G Z k env ρ e d) (q : d = d') : EvS prog w G Z k env ρ e d' := q ▸ h
theorem EvS.int {k env} {ρ : Rho} {e i j} (h : EvS prog w G Z k env ρ e (.int i)) (q : i = j) : EvS prog w G Z k env ρ e (.int j) := q ▸ h
theorem fmod_nat (a b : Nat) : (a : Int).fmod (b : Int) = ((a % b : Nat) : Int) := by
  rw [Int.fmod_eq_emod_of_nonneg _ (by omega)]; simp
theorem fdiv_nat (a b : Nat) : (a : Int).fdiv (b : Int) = ((a / b : Nat) : Int) := by
  rw [Int.fdiv_eq_ediv_of_nonneg _ (by omega)]; simp
noncomputable def huntL (b : List UInt8) (t : Nat) : List UInt8 := b.take (t % 2) ++ (Bo 2 ((b.drop (t % 2)).take ((b.length - t % 2) / 2 * 2)) ((b.length - t % 2) / 2)).toList ++ b.drop (t % 2 + (b.length - t % 2) / 2 * 2)
theorem cut_nat {α : Type} (l : List α) (i j : Nat) (hi : i ≤ j) (hj : j ≤ l.length) : cutL l (some (i : Int)) (some (j : Int)) = (l.drop i).take (j - i) := by
  unfold cutL
  simp only [Option.elim, clipAt_nat]
  rw [Nat.min_eq_left (Nat.le_trans hi hj), Nat.min_eq_left hj]
theorem cut_to {α : Type} (l : List α) (j : Nat) (hj : j ≤ l.length) : cutL l none (some (j : Int)) = l.take j := by
  unfold cutL
  simp only [Option.elim, clipAt_nat, List.drop_zero]
  rw [Nat.min_eq_left hj, Nat.sub_zero]
theorem cut_from {α : Type} (l : List α) (i : Nat) (hi : i ≤ l.length) : cutL l (some (i : Int)) none = l.drop i := by
  unfold cutL
  simp only [Option.elim, clipAt_nat]
  rw [Nat.min_eq_left hi, List.take_of_length_le (Nat.le_of_eq List.length_drop)]
/-- a text that ends with a return -/
noncomputable def RetS (prog : Program) (w : World) (G : Heap → Prop) (Z : Addr → Prop) (k : Nat) (env : Env) (ρ : Rho) (st : List Stmt) (d : D) : Prop := ∃ ρ', ExsS prog w G Z k env ρ st (.ret d) ρ'
section
variable {k : Nat} {env : Env} {ρ ρ' : Rho}
theorem ret_cons {st rest d} (h₁ : ExS prog w G Z k env ρ st .next ρ') (h₂ : RetS prog w G Z k env ρ' rest d) : RetS prog w G Z k env ρ (st :: rest) d := let ⟨r, h⟩ := h₂; ⟨r, exs_cons h₁ h⟩
theorem ret_ret (W : Glob G Z) {e pos rest d} (h₁ : EvS prog w G Z k env ρ e d) : RetS prog w G Z k env ρ (.Return (some e) pos :: rest) d := ⟨_, exs_ret (ex_return W h₁)⟩
theorem ret_if (W : Glob G Z) {test body orelse pos rest d} (h₁ : TestS prog w G Z k env ρ test true) (h₂ : RetS prog w G Z k env ρ body d) : RetS prog w G Z k env ρ (.If test body orelse pos :: rest) d := let ⟨r, h⟩ := h₂; ⟨r, exs_ret (ex_if W h₁ (fun _ => h) fun q => nomatch q)⟩
theorem ret_ifnot (W : Glob G Z) {test body pos rest d} (h₁ : TestS prog w G Z k env ρ test false) (h₂ : RetS prog w G Z k env ρ rest d) : RetS prog w G Z k env ρ (.If test body [] pos :: rest) d := ret_cons (ex_if W h₁ (fun q => nomatch q) fun _ => exs_nil) h₂
end
theorem call_fn' (W : Glob G Z) {a : Addr} {fd : FuncData} {body : List Stmt} {names : List Str} {ds : List D} {d : D} {k : Nat}
    (hG : ∀ h, G h → ∃ o, h.get? a = some o ∧ o.data = .func fd ∧ h.CodeRec fd.code fd.qualname)
    (hbody : fd.body = .stmts body) (hclo : fd.closure = [])
    (hbind : ∀ vs : List Value, vs.length = ds.length → bindArgs fd ⟨vs, []⟩ = pure (names.zip vs))
    (hloc : ∀ x ∈ names, fd.scope.names.lookup x = some .local ∨ fd.scope.names.lookup x = some .cell)
    (H : ∀ L, ¬ Z L → RetS prog w G Z k (callEnvC fd L a) (bindR names ds nil) body d)
    (hco : fd.scope.isCoroutine = false := by rfl) (hgen : fd.scope.isGenerator = false := by rfl) (hk : fd.scope.kind = .function := by rfl) : CallS prog w G (k + 1) (.ref a) ds d :=
  call_fn (ρ' := nil) W hG hbody hclo hbind hloc (fun L hL => let ⟨_, h⟩ := H L hL; Tree.sub h fun _ _ e => nomatch e) hco hgen hk
set_option maxHeartbeats 4000000 in
theorem hunt_call (W : Glob G Z) (P : Params) (hfn : ∀ h, G h → ∃ o, h.get? 44 = some o ∧ o.data = .func (fnOf (hd02.heap_39 P) 44) ∧ h.CodeRec (fnOf (hd02.heap_39 P) 44).code (fnOf (hd02.heap_39 P) 44).qualname)
    (g1 : GV G "len" (.builtin "len")) (g5 : GV G "_byteswap" (.ref 37)) (c5 : Callee G (.ref 37))
    (Hb : ∀ {data : List UInt8} {m : Nat}, data.length = m * 2 → data.length ≤ 1000 → CallS prog w G 541 (.ref 37) [.bytes data, .int 2] (.bytes (Bo 2 data m).toList))
    {b : List UInt8} {t : Nat} (hb : 1 ≤ b.length) (hz : b.length ≤ 1000) (ht : t < 10000) : CallS prog w G 551 (.ref 44) [.bytes b, .int (t : Int)] (.bytes (huntL b t)) := by
  refine call_fn' (k := 550) W hfn rfl rfl (names := ["row", "turn"]) ?_ ?_ (fun L hL => ?_) rfl rfl rfl
  · intro vs hv
    obtain ⟨a, b, rfl⟩ := len2 hv
    rfl
  · intro x hx
    simp at hx
    rcases hx with rfl | rfl <;> exact .inl rfl
  conv in (fnOf _ _) => whnf
  have h2 : t % 2 ≤ b.length := by omega
  have h3 : t % 2 + (b.length - t % 2) / 2 * 2 ≤ b.length := by omega
  refine ret_cons (ex_assign W (EvS.int (j := ((t % 2 : Nat) : Int)) (ev_bin W (ev_local rfl) ev_int (bin_mod (by decide))) (fmod_nat t 2))) ?_
  refine ret_cons (ex_assign W (EvS.int (j := ((t % 2 + (b.length - t % 2) / 2 * 2 : Nat) : Int)) (ev_bin W (ev_local rfl) (ev_bin W (ev_bin W (ev_bin W (ev_call W (ev_global g1) (.inl ⟨_, rfl⟩) (evs_cons W (ev_local rfl) evs_nil) (call_len_bytes (by omega))) (ev_local rfl) bin_sub) ev_int (bin_div (by decide) (by decide))) ev_int (bin_mul (.of_right (by decide)))) bin_add) ?_)) ?_
  · have : ((b.length : Int) - ((t % 2 : Nat) : Int)) = ((b.length - t % 2 : Nat) : Int) := by omega
    rw [this, show (2 : Int) = ((2 : Nat) : Int) from rfl, fdiv_nat]
    omega
  refine ret_ret W ?_
  have e1 : (cutL b none (some ((t % 2 : Nat) : Int))) = b.take (t % 2) := cut_to b _ h2
  have e2 : cutL b (some ((t % 2 : Nat) : Int)) (some ((t % 2 + (b.length - t % 2) / 2 * 2 : Nat) : Int)) = (b.drop (t % 2)).take ((b.length - t % 2) / 2 * 2) := by
    rw [cut_nat b _ _ (by omega) h3]; congr 1; omega
  have e3 : cutL b (some ((t % 2 + (b.length - t % 2) / 2 * 2 : Nat) : Int)) none = b.drop (t % 2 + (b.length - t % 2) / 2 * 2) := cut_from b _ h3
  have l2 : ((b.drop (t % 2)).take ((b.length - t % 2) / 2 * 2)).length = (b.length - t % 2) / 2 * 2 := by
    rw [List.length_take, List.length_drop]; omega
  have lB : (Bo 2 ((b.drop (t % 2)).take ((b.length - t % 2) / 2 * 2)) ((b.length - t % 2) / 2)).toList.length = (b.length - t % 2) / 2 * 2 := by
    rw [Array.length_toList, Bo_size, l2]
  refine ev_bin W (ev_bin W (EvS.eq (ev_cut_bytes W (ev_local rfl) part_none (part_some (ev_local rfl)) (by omega)) (congrArg D.bytes e1)) (ev_call W (ev_global g5) c5 (evs_cons W (EvS.eq (ev_cut_bytes W (ev_local rfl) (part_some (ev_local rfl)) (part_some (ev_local rfl)) (by omega)) (congrArg D.bytes e2)) (evs_cons W ev_int evs_nil)) (Hb l2 (by rw [l2]; omega))) (bin_bytes ?_)) (EvS.eq (ev_cut_bytes W (ev_local rfl) (part_some (ev_local rfl)) part_none (by omega)) (congrArg D.bytes e3)) (bin_bytes ?_)
  · rw [lB, List.length_take]; omega
  · rw [List.length_append, lB, List.length_take, List.length_drop]; omega
end Mine
end
noncomputable section
open PySem PySem.W PyProof.Rows
set_option Elab.async false
set_option linter.unusedVariables false
set_option maxRecDepth 100000
namespace Mine
variable {prog : Program} {w : World} {G : Heap → Prop} {Z : Addr → Prop}
noncomputable def ringN (k t c : Nat) : Nat := ((if k % 2 = 0 then k else 2 * c - 1 - k) + t) % (2 * c)
noncomputable def seatN (k t c : Nat) : Nat := if ringN k t c < c then ringN k t c else 2 * c - 1 - ringN k t c
set_option maxHeartbeats 4000000 in
theorem seat_call (W : Glob G Z) (P : Params) (hfn : ∀ h, G h → ∃ o, h.get? 51 = some o ∧ o.data = .func (fnOf (hd02.heap_39 P) 51) ∧ h.CodeRec (fnOf (hd02.heap_39 P) 51).code (fnOf (hd02.heap_39 P) 51).qualname)
    {i t c : Nat} (hi : i < c) (hc : c ≤ 1000) : CallS prog w G 11 (.ref 51) [.int (i : Int), .int (t : Int), .int (c : Int)] (.int (seatN i t c : Int)) := by
  refine call_fn' (k := 10) W hfn rfl rfl (names := ["k", "turn", "count"]) ?_ ?_ (fun L hL => ?_) rfl rfl rfl
  · intro vs hv
    obtain ⟨a, b, c, rfl⟩ := len3 hv
    rfl
  · intro x hx
    simp at hx
    rcases hx with rfl | rfl | rfl <;> exact .inl rfl
  conv in (fnOf _ _) => whnf
  have hr : ringN i t c < 2 * c := Nat.mod_lt _ (by omega)
  refine ret_cons (ex_assign W (EvS.int (j := (ringN i t c : Int)) (ev_bin W (ev_bin W (ev_ifexp W (b := i % 2 == 0) (d := .int ((if i % 2 = 0 then i else 2 * c - 1 - i : Nat) : Int)) ?_ (fun q => ?_) (fun q => ?_)) (ev_local rfl) bin_add) (ev_bin W ev_int (ev_local rfl) (bin_mul (.of_left (by decide)))) (bin_mod (by omega))) ?_)) ?_
  · have e : ((i : Int).fmod 2 == 0) = (i % 2 == 0) := by
      rw [show (2 : Int) = ((2 : Nat) : Int) from rfl, fmod_nat, Bool.eq_iff_iff, beq_iff_eq, beq_iff_eq]; omega
    rw [← e]
    exact test_cmp W (ev_bin W (ev_local rfl) ev_int (bin_mod (by decide))) ev_int cmp_eq
  · rw [if_pos (by simpa using q)]; exact ev_local rfl
  · rw [if_neg (by simpa using q)]
    exact EvS.int (ev_bin W (ev_bin W (ev_bin W ev_int (ev_local rfl) (bin_mul (.of_left (by decide)))) ev_int bin_sub) (ev_local rfl) bin_sub) (by omega)
  · unfold ringN
    rw [show (2 : Int) * (c : Int) = ((2 * c : Nat) : Int) by omega, ← Int.natCast_add, fmod_nat]
  refine ret_ret W (ev_ifexp W (b := decide (ringN i t c < c)) ?_ (fun q => ?_) (fun q => ?_))
  · have e : decide ((ringN i t c : Int) < (c : Int)) = decide (ringN i t c < c) := by simp
    rw [← e]
    exact test_cmp W (ev_local rfl) (ev_local rfl) cmp_lt
  · unfold seatN; rw [if_pos (by simpa using q)]; exact ev_local rfl
  · unfold seatN; rw [if_neg (by simpa using q)]
    exact EvS.int (ev_bin W (ev_bin W (ev_bin W ev_int (ev_local rfl) (bin_mul (.of_left (by decide)))) ev_int bin_sub) (ev_local rfl) bin_sub) (by omega)
end Mine
end
noncomputable section
open PySem PySem.W PyProof.Rows
set_option Elab.async false
set_option linter.unusedVariables false
set_option maxRecDepth 100000
namespace Mine
variable {prog : Program} {w : World} {G : Heap → Prop} {Z : Addr → Prop}
noncomputable def rungI (b : List UInt8) (t : Nat) : Nat → List Int
  | 0 => List.replicate b.length 0
  | i + 1 => (rungI b t i).set (seatN i t b.length) ((b.getD i 0).toNat : Int)
theorem rungI_length (b : List UInt8) (t : Nat) : ∀ i, (rungI b t i).length = b.length
  | 0 => by simp [rungI]
  | i + 1 => by rw [rungI, List.length_set, rungI_length b t i]
theorem rungI_byte (b : List UInt8) (t : Nat) : ∀ i, ∀ n ∈ rungI b t i, 0 ≤ n ∧ n < 256
  | 0, n, h => by rw [rungI] at h; have := List.eq_of_mem_replicate h; omega
  | i + 1, n, h => by
    rw [rungI] at h
    rcases List.mem_or_eq_of_mem_set h with h | h
    · exact rungI_byte b t i n h
    · have := (b.getD i 0).toNat_lt; omega
theorem seatN_lt {i t c : Nat} (h : i < c) : seatN i t c < c := by
  unfold seatN
  have hr : ringN i t c < 2 * c := Nat.mod_lt _ (by omega)
  split <;> omega
noncomputable def rungL (b : List UInt8) (t : Nat) : List UInt8 := (rungI b t b.length).map fun n => n.toNat.toUInt8
set_option maxHeartbeats 4000000 in
theorem rung_call (W : Glob G Z) (P : Params) (hfn : ∀ h, G h → ∃ o, h.get? 58 = some o ∧ o.data = .func (fnOf (hd02.heap_39 P) 58) ∧ h.CodeRec (fnOf (hd02.heap_39 P) 58).code (fnOf (hd02.heap_39 P) 58).qualname)
    (g1 : GV G "len" (.builtin "len")) (g3 : GV G "range" (.type "range")) (g4 : GV G "bytes" (.type "bytes")) (g5 : GV G "_law_seat" (.ref 51)) (c5 : Callee G (.ref 51))
    (Hs : ∀ {i t c : Nat}, i < c → c ≤ 1000 → CallS prog w G 11 (.ref 51) [.int (i : Int), .int (t : Int), .int (c : Int)] (.int (seatN i t c : Int)))
    {b : List UInt8} {t : Nat} (hz : b.length ≤ 1000) : CallS prog w G 21 (.ref 58) [.bytes b, .int (t : Int)] (.bytes (rungL b t)) := by
  refine call_fn' (k := 20) W hfn rfl rfl (names := ["bells", "turn"]) ?_ ?_ (fun L hL => ?_) rfl rfl rfl
  · intro vs hv
    obtain ⟨a, b, rfl⟩ := len2 hv
    rfl
  · intro x hx
    simp at hx
    rcases hx with rfl | rfl <;> exact .inl rfl
  conv in (fnOf _ _) => whnf
  refine ret_cons (ex_assign W (ev_call W (ev_global g1) (.inl ⟨_, rfl⟩) (evs_cons W (ev_local rfl) evs_nil) (call_len_bytes (by omega)))) ⟨nil, ?_⟩
  refine exs_own W (new_repeat W ev_int (ev_local rfl) (by omega) (by omega)) (fun a => stab_intl) (fun a ha => ?_)
  rw [show ((b.length : Int)).toNat = b.length from rfl]
  refine TrO.sub (ρ' := upd (upd (bindR ["bells", "turn"] [.bytes b, .int (t : Int)] nil) "count" (.int (b.length : Int))) "row" (.val (.ref a))) ?_ (fun _ _ e => nomatch e)
  have il : (items (.range 0 (b.length : Int) 1)).length = b.length := by rw [items_range0]; simp
  refine exsO_cons (ex_forN W (O := fun c => c = a) (Ps := fun i => IntL a (rungI b t i)) (ρs := fun _ => upd (upd (bindR ["bells", "turn"] [.bytes b, .int (t : Int)] nil) "count" (.int (b.length : Int))) "row" (.val (.ref a))) (d := .range 0 (b.length : Int) 1) il
    (ev_call W (ev_global g3) (.inr (.inl ⟨_, rfl⟩)) (evs_cons W (ev_local rfl) evs_nil) call_range1) (can_range1 (by omega) (by omega)) (fun i => stab_intl) (fun i e he => ?_)) ?_
  · rw [items_range0] at he
    simp only [List.getElem?_map, Option.map_eq_some_iff] at he
    obtain ⟨j', hj', rfl⟩ := he
    obtain ⟨hj, hj2⟩ := List.getElem?_eq_some_iff.mp hj'
    simp at hj hj2
    subst hj2
    refine TrO.sub (ρ' := upd (upd (upd (bindR ["bells", "turn"] [.bytes b, .int (t : Int)] nil) "count" (.int (b.length : Int))) "row" (.val (.ref a))) "k" (.int (i : Int))) ?_ ((Sub.refl _).upd rfl)
    refine exsO_cons ?_ exsO_nil
    have hc : b[i]? = some (b.getD i 0) := by rw [List.getD_eq_getElem?_getD]; simp [hj]
    have hlt := seatN_lt (t := t) hj
    exact ex_set_list W (ns := rungI b t i) (n := (seatN i t b.length : Int)) (ev_sub W (ev_local rfl) (ev_local rfl) (sub_bytes (by omega) hc (by omega))) (ev_local rfl)
      (ev_call W (ev_global g5) c5 (evs_cons W (ev_local rfl) (evs_cons W (ev_local rfl) (evs_cons W (ev_local rfl) evs_nil))) (Hs hj (by omega))) (by rw [rungI_length]; omega) (by omega) (by rw [rungI_length]; omega) ha
  · exact exs_ret_list W (ns := rungI b t b.length) (ev_global g4) (ev_local rfl) (by rw [rungI_length]; omega) (rungI_byte b t _)
end Mine
end
noncomputable section
open PySem PySem.W PySem.W.X PyProof.Rows
set_option Elab.async false
set_option linter.unusedVariables false
set_option maxRecDepth 100000
namespace Mine
variable {prog : Program} {w : World} {G : Heap → Prop} {Z : Addr → Prop}
theorem ev_not (W : Glob G Z) {k env} {ρ : Rho} {e pos b} (h₁ : EvS prog w G Z k env ρ e (.bool b)) : EvS prog w G Z k env ρ (.UnaryOp .Not e pos) (.bool (!b)) := by
  intro A hA X h g dr tk o F
  refine jUnary (h₁.use hA F fun h' t' v g₁ r₁ => ?_)
  cases r₁
  exact wpJ.of <| not_value (wpAny_truthy_bool ⟨h', t', rfl, g₁, rfl⟩)
set_option maxHeartbeats 4000000 in
theorem heavier_call (W : Glob G Z) (P : Params) (hfn : ∀ h, G h → ∃ o, h.get? 65 = some o ∧ o.data = .func (fnOf (hd02.heap_39 P) 65) ∧ h.CodeRec (fnOf (hd02.heap_39 P) 65).code (fnOf (hd02.heap_39 P) 65).qualname)
    {d₁ d₂ : D} {how : Int} {b : Bool} {j : Nat} (hgt : CmpK prog w G j .Gt d₁ d₂ b) (hlt : CmpK prog w G j .Lt d₂ d₁ b) (hle : CmpK prog w G j .LtE d₁ d₂ (!b)) (hge : CmpK prog w G j .GtE d₂ d₁ (!b)) :
    CallS prog w G (j + 5) (.ref 65) [d₁, d₂, .int how] (.bool b) := by
  refine call_fn' (k := j + 4) W hfn rfl rfl (names := ["one", "two", "how"]) ?_ ?_ (fun L hL => ?_) rfl rfl rfl
  · intro vs hv
    obtain ⟨a, b, c, rfl⟩ := len3 hv
    rfl
  · intro x hx
    simp at hx
    rcases hx with rfl | rfl | rfl <;> exact .inl rfl
  conv in (fnOf _ _) => whnf
  have tst : ∀ (n : Int) (q : Bool), (how == n) = q → ∀ {env : Env} {p1 p2 p3 c}, env.kindOf "how" = some .local → env.scope.kind = .function → TestS prog w G Z (j + 4) env (bindR ["one", "two", "how"] [d₁, d₂, .int how] nil) (.Compare (.Name "how" p1) [.Eq] [.Constant (.int n) c p2] p3) q := fun n q e {env p1 p2 p3 c} a1 a2 => by
    rw [← e]
    exact test_cmp W (ev_local rfl a1 a2) ev_int cmp_eq
  cases h0 : how == 0 with
  | true => exact ret_if W (tst 0 true h0 rfl rfl) (ret_ret W (ev_cmpK W (ev_local rfl) (ev_local rfl) hgt))
  | false =>
    refine ret_ifnot W (tst 0 false h0 rfl rfl) ?_
    cases h1 : how == 1 with
    | true => exact ret_if W (tst 1 true h1 rfl rfl) (ret_ret W (ev_cmpK W (ev_local rfl) (ev_local rfl) hlt))
    | false =>
      refine ret_ifnot W (tst 1 false h1 rfl rfl) ?_
      cases h2 : how == 2 with
      | true =>
        refine ret_if W (tst 2 true h2 rfl rfl) (ret_ret W ?_)
        rw [← Bool.not_not b]
        exact ev_not W (ev_cmpK W (ev_local rfl) (ev_local rfl) hle)
      | false =>
        refine ret_ifnot W (tst 2 false h2 rfl rfl) (ret_ret W ?_)
        rw [← Bool.not_not b]
        exact ev_not W (ev_cmpK W (ev_local rfl) (ev_local rfl) hge)
end Mine
end
noncomputable section
open PySem PySem.W PySem.W.X PyProof.Rows
set_option Elab.async false
set_option linter.unusedVariables false
set_option maxRecDepth 100000
namespace Mine
variable {prog : Program} {w : World} {G : Heap → Prop} {Z : Addr → Prop}
theorem stab_true {O : Addr → Prop} : Stab O (fun _ => True) := fun _ _ _ _ _ _ => trivial
theorem ex_for (W : Glob G Z) {k env} {ρs : Nat → Rho} {x : Str} {p : Pos} {iter : Expr} {body : List Stmt} {pos : Pos} {d : D} {N : Nat} (hN : (items d).length = N)
    (h₁ : EvS prog w G Z k env (ρs 0) iter d) (hc : CanIter d)
    (hb : ∀ i e, (items d)[i]? = some e → ExsS prog w G Z k env (upd (ρs i) x e) body .next (ρs (i + 1)))
    (hl : env.kindOf x = some .local ∨ env.kindOf x = some .cell := by first | exact .inl rfl | exact .inr rfl) (hf : env.scope.kind = .function := by rfl)
    (hs : ∀ v, foldedSetIterable iter env v = pure v := by intro _; rfl) : ExS prog w G Z k env (ρs 0) (.For (.Name x p) iter body [] pos) .next (ρs N) :=
  TrO.plain (ex_forN W (O := no) (Ps := fun _ _ => True) hN h₁ hc (fun _ => stab_true) (fun i e he => TrO.of stab_true (hb i e he)) hl hf hs)
/-- the pair at place i -/
noncomputable def pairAt (row : List UInt8) (i : Nat) : List UInt8 := (row.drop i).take 2
noncomputable def heavyAt (row : List UInt8) (i : Nat) : Bool := decide ((row.getD (i + 1) 0).toNat / 16 < (row.getD i 0).toNat / 16)
noncomputable def partO (row : List UInt8) (f : Nat) : Nat → List UInt8
  | 0 => row.take f
  | j + 1 => partO row f j ++ (if heavyAt row (f + 2 * j) then (Bo 2 (pairAt row (f + 2 * j)) 1).toList else pairAt row (f + 2 * j))
noncomputable def partM (row : List UInt8) (f : Nat) : Nat → Nat
  | 0 => 0
  | j + 1 => partM row f j + if heavyAt row (f + 2 * j) then 1 else 0
noncomputable def partL (row : List UInt8) (t : Nat) : List UInt8 := partO row (t % 2) ((row.length - t % 2) / 2) ++ row.drop (partO row (t % 2) ((row.length - t % 2) / 2)).length
noncomputable def partC (row : List UInt8) (t : Nat) : Nat := partM row (t % 2) ((row.length - t % 2) / 2)
theorem pair_len {row : List UInt8} {i : Nat} (h : i + 2 ≤ row.length) : (pairAt row i).length = 2 := by
  unfold pairAt; rw [List.length_take, List.length_drop]; omega
theorem partO_len {row : List UInt8} {f : Nat} : ∀ {j : Nat}, f + 2 * j ≤ row.length → (partO row f j).length = f + 2 * j
  | 0, h => by rw [partO, List.length_take]; omega
  | j + 1, h => by
    have hp := pair_len (row := row) (i := f + 2 * j) (by omega)
    rw [partO, List.length_append, partO_len (j := j) (by omega)]
    split
    · rw [Array.length_toList, Bo_size, hp]; omega
    · rw [hp]; omega
theorem rsize2 {f L : Nat} (h : f ≤ 1) (hL : 2 ≤ L) : Builtin.Range.rangeSize (f : Int) ((L : Int) - 1) 2 = (((L - f) / 2 : Nat) : Int) := by
  unfold Builtin.Range.rangeSize
  rw [if_pos (by decide)]
  split <;> omega
theorem items_part {f L : Nat} (h : f ≤ 1) (hL : 2 ≤ L) : items (.range (f : Int) ((L : Int) - 1) 2) = (List.range ((L - f) / 2)).map fun (i : Nat) => .int (((f + 2 * i : Nat)) : Int) := by
  simp only [items_range, rangeL, rsize2 h hL]
  refine List.map_congr_left fun i _ => ?_
  congr 1; omega
theorem can_part {f L : Nat} (h : f ≤ 1) (hL : 2 ≤ L) (hz : L ≤ 1000) : CanIter (.range (f : Int) ((L : Int) - 1) 2) := by
  refine ⟨?_, by rw [rsize2 h hL]; omega⟩
  have hr := rsize2 h hL
  unfold Builtin.Range.small Builtin.Range.rangeFitsLong
  simp only [Bool.and_eq_true, Bool.or_eq_true, decide_eq_true_eq, beq_iff_eq, if_pos (show (2 : Int) > 0 by omega)]
  refine ⟨⟨⟨⟨?_, ?_⟩, ?_⟩, ?_⟩, .inr ?_⟩ <;> omega
end Mine
end
noncomputable section
open PySem PySem.W PySem.W.X PyProof.Rows
set_option Elab.async false
set_option linter.unusedVariables false
set_option maxRecDepth 100000
namespace Mine
variable {prog : Program} {w : World} {G : Heap → Prop} {Z : Addr → Prop}
theorem heavy_int (x y : UInt8) : decide (((y.toNat : Int)).fdiv 16 < ((x.toNat : Int)).fdiv 16) = decide (y.toNat / 16 < x.toNat / 16) := by
  rw [show (16 : Int) = ((16 : Nat) : Int) from rfl, fdiv_nat, fdiv_nat, decide_eq_decide]
  omega
theorem test_eq {k env} {ρ : Rho} {e b b'} (h : TestS prog w G Z k env ρ e b) (q : b = b') : TestS prog w G Z k env ρ e b' := q ▸ h
noncomputable def B0 (row : List UInt8) (m : Int) (t : Nat) (C : Addr) : Rho := upd (bindR ["row", "many"] [.bytes row, .int m] (bindR ["told", "turn", "key"] [.tup [.bytes row, .int m], .int (t : Int), .val (.ref C)] nil)) "first" (.int ((t % 2 : Nat) : Int))
noncomputable def Bj (row : List UInt8) (m : Int) (t : Nat) (C : Addr) (j : Nat) : Rho := upd (upd (B0 row m t C) "out" (.bytes (partO row (t % 2) j))) "many" (.int (m + (partM row (t % 2) j : Int)))
set_option maxHeartbeats 4000000 in
theorem part_call (W : Glob G Z) (P : Params) (hfn : ∀ h, G h → ∃ o, h.get? 72 = some o ∧ o.data = .func (fnOf (hd02.heap_39 P) 72) ∧ h.CodeRec (fnOf (hd02.heap_39 P) 72).code (fnOf (hd02.heap_39 P) 72).qualname)
    (g1 : GV G "len" (.builtin "len")) (g3 : GV G "range" (.type "range")) (g5 : GV G "_byteswap" (.ref 37)) (c5 : Callee G (.ref 37)) (g6 : GV G "_law_heavier" (.ref 65)) (c6 : Callee G (.ref 65)) {C : Addr} (cC : Callee G (.ref C))
    (Hb : ∀ {data : List UInt8} {m : Nat}, data.length = m * 2 → data.length ≤ 1000 → CallS prog w G 541 (.ref 37) [.bytes data, .int 2] (.bytes (Bo 2 data m).toList))
    (Hk : ∀ {d : D}, CallS prog w G 49 (.ref C) [d] (.key C d))
    (Hh : ∀ {x y how : Int}, CallS prog w G 61 (.ref 65) [.key C (.int x), .key C (.int y), .int how] (.bool (decide (y.fdiv 16 < x.fdiv 16))))
    {row : List UInt8} {m : Int} {t : Nat} (hb : 2 ≤ row.length) (hz : row.length ≤ 1000) : CallS prog w G 571 (.ref 72) [.tup [.bytes row, .int m], .int (t : Int), .val (.ref C)] (.tup [.bytes (partL row t), .int (m + (partC row t : Int))]) := by
  refine call_fn' (k := 570) W hfn rfl rfl (names := ["told", "turn", "key"]) ?_ ?_ (fun L hL => ?_) rfl rfl rfl
  · intro vs hv
    obtain ⟨a, b, c, rfl⟩ := len3 hv
    rfl
  · intro x hx
    simp at hx
    rcases hx with rfl | rfl | rfl <;> exact .inl rfl
  conv in (fnOf _ _) => whnf
  have h2 : t % 2 ≤ 1 := by omega
  refine ret_cons (ex_unpack W (ev_local rfl) (.name (.name .nil)) rfl (by intro x hx; simp at hx; rcases hx with rfl | rfl <;> exact .inl rfl)) ?_
  refine ret_cons (ex_assign W (EvS.int (j := ((t % 2 : Nat) : Int)) (ev_bin W (ev_local rfl) ev_int (bin_mod (by decide))) (fmod_nat t 2))) ?_
  have e1 : (cutL row none (some ((t % 2 : Nat) : Int))) = row.take (t % 2) := cut_to row _ (by omega)
  refine ret_cons (ρ' := Bj row m t C 0) (Tree.sub (ex_assign W (EvS.eq (ev_cut_bytes W (ev_local rfl) part_none (part_some (ev_local rfl)) (by omega)) (congrArg D.bytes e1))) ?_) ?_
  · intro z d q
    by_cases h1 : z = "many"
    · subst h1
      have : Bj row m t C 0 "many" = some (.int (m + 0)) := rfl
      rw [this, Int.add_zero] at q
      exact q
    · unfold Bj at q
      unfold upd at q
      rw [if_neg h1] at q
      exact q
  have il : (items (.range ((t % 2 : Nat) : Int) ((row.length : Int) - 1) 2)).length = (row.length - t % 2) / 2 := by rw [items_part h2 hb]; simp
  refine ret_cons (ex_for W (ρs := Bj row m t C) (d := .range ((t % 2 : Nat) : Int) ((row.length : Int) - 1) 2) il
    (ev_call W (ev_global g3) (.inr (.inl ⟨_, rfl⟩)) (evs_cons W (ev_local rfl) (evs_cons W (ev_bin W (ev_call W (ev_global g1) (.inl ⟨_, rfl⟩) (evs_cons W (ev_local rfl) evs_nil) (call_len_bytes (by omega))) ev_int bin_sub) (evs_cons W ev_int evs_nil))) (call_range3 (by decide) (by decide))) (can_part h2 hb hz) (fun i e he => ?_)) ?_
  · rw [items_part h2 hb] at he
    simp only [List.getElem?_map, Option.map_eq_some_iff] at he
    obtain ⟨j', hj', rfl⟩ := he
    obtain ⟨hj, hj2⟩ := List.getElem?_eq_some_iff.mp hj'
    simp at hj hj2
    subst hj2
    have hi : t % 2 + 2 * i + 2 ≤ row.length := by omega
    have e2 : cutL row (some ((t % 2 + 2 * i : Nat) : Int)) (some (((t % 2 + 2 * i : Nat) : Int) + 2)) = pairAt row (t % 2 + 2 * i) := by
      have := cut_nat row (t % 2 + 2 * i) (t % 2 + 2 * i + 2) (by omega) hi
      rw [show (((t % 2 + 2 * i : Nat) : Int) + 2) = ((t % 2 + 2 * i + 2 : Nat) : Int) by omega, this]
      unfold pairAt; congr 1; omega
    have hp := pair_len hi
    have p0 : (pairAt row (t % 2 + 2 * i))[(0 : Int).toNat]? = some (row.getD (t % 2 + 2 * i) 0) := by
      unfold pairAt
      rw [show (0 : Int).toNat = 0 from rfl, List.getElem?_take, if_pos (by decide), List.getElem?_drop, List.getD_eq_getElem?_getD, Nat.add_zero, List.getElem?_eq_getElem (by omega)]
      rfl
    have p1 : (pairAt row (t % 2 + 2 * i))[(1 : Int).toNat]? = some (row.getD (t % 2 + 2 * i + 1) 0) := by
      unfold pairAt
      rw [show (1 : Int).toNat = 1 from rfl, List.getElem?_take, if_pos (by decide), List.getElem?_drop, List.getD_eq_getElem?_getD, List.getElem?_eq_getElem (by omega)]
      rfl
    have lo : (partO row (t % 2) i).length = t % 2 + 2 * i := partO_len (by omega)
    have lB : (Bo 2 (pairAt row (t % 2 + 2 * i)) 1).toList.length = 2 := by rw [Array.length_toList, Bo_size, hp]
    refine exs_cons (ex_assign W (EvS.eq (ev_cut_bytes W (ev_local rfl) (part_some (ev_local rfl)) (part_some (ev_bin W (ev_local rfl) ev_int bin_add)) (by omega)) (congrArg D.bytes e2))) ?_
    have hbb : decide ((((row.getD (t % 2 + 2 * i + 1) 0).toNat : Int)).fdiv 16 < (((row.getD (t % 2 + 2 * i) 0).toNat : Int)).fdiv 16) = heavyAt row (t % 2 + 2 * i) := heavy_int _ _
    cases hH : heavyAt row (t % 2 + 2 * i) with
    | true =>
      rw [hH] at hbb
      refine exs_cons (ex_if W (b := true) (test_eq (test_bool W (ev_call W (ev_global g6) c6 (evs_cons W (ev_call W (ev_local rfl) cC (evs_cons W (ev_sub W (ev_local rfl) ev_int (sub_bytes (by decide) p0 (by omega))) evs_nil) Hk)
        (evs_cons W (ev_call W (ev_local rfl) cC (evs_cons W (ev_sub W (ev_local rfl) ev_int (sub_bytes (by decide) p1 (by omega))) evs_nil) Hk)
          (evs_cons W (ev_bin W (ev_bin W (ev_bin W (ev_local rfl) ev_int (bin_div (by decide) (by decide))) (ev_local rfl) bin_add) ev_int (bin_mod (by decide))) evs_nil))) Hh)) hbb)
        (fun _ => exs_cons (ex_assign W (ev_call W (ev_global g5) c5 (evs_cons W (ev_local rfl) (evs_cons W ev_int evs_nil)) (Hb (m := 1) (by rw [hp]) (by rw [hp]; omega)))) (exs_cons (ex_aug W (fun _ => ev_local rfl) ev_int inp_add) exs_nil)) (fun q => nomatch q)) ?_
      refine Tree.sub (exs_cons (ex_assign W (ev_bin W (ev_local rfl) (ev_local rfl) (bin_bytes (by rw [lo, lB]; omega)))) exs_nil) ?_
      intro z d q
      by_cases h1 : z = "many"
      · subst h1
        have : Bj row m t C (i + 1) "many" = some (.int (m + (partM row (t % 2) (i + 1) : Int))) := rfl
        rw [this] at q
        have e : m + (partM row (t % 2) (i + 1) : Int) = m + (partM row (t % 2) i : Int) + 1 := by rw [partM, hH, if_pos rfl]; omega
        rw [e] at q
        exact q
      · by_cases h2 : z = "out"
        · subst h2
          have : Bj row m t C (i + 1) "out" = some (.bytes (partO row (t % 2) (i + 1))) := rfl
          rw [this, partO, hH, if_pos rfl] at q
          exact q
        · by_cases h3 : z = "i"
          · subst h3; have : Bj row m t C (i + 1) "i" = none := rfl; rw [this] at q; cases q
          · by_cases h4 : z = "pair"
            · subst h4; have : Bj row m t C (i + 1) "pair" = none := rfl; rw [this] at q; cases q
            · unfold Bj at q ⊢
              unfold upd at q ⊢
              simp only [if_neg h1, if_neg h2, if_neg h3, if_neg h4] at q ⊢
              exact q
    | false =>
      rw [hH] at hbb
      refine exs_cons (ex_if W (b := false) (test_eq (test_bool W (ev_call W (ev_global g6) c6 (evs_cons W (ev_call W (ev_local rfl) cC (evs_cons W (ev_sub W (ev_local rfl) ev_int (sub_bytes (by decide) p0 (by omega))) evs_nil) Hk)
        (evs_cons W (ev_call W (ev_local rfl) cC (evs_cons W (ev_sub W (ev_local rfl) ev_int (sub_bytes (by decide) p1 (by omega))) evs_nil) Hk)
          (evs_cons W (ev_bin W (ev_bin W (ev_bin W (ev_local rfl) ev_int (bin_div (by decide) (by decide))) (ev_local rfl) bin_add) ev_int (bin_mod (by decide))) evs_nil))) Hh)) hbb)
        (fun q => nomatch q) (fun _ => exs_nil)) ?_
      refine Tree.sub (exs_cons (ex_assign W (ev_bin W (ev_local rfl) (ev_local rfl) (bin_bytes (by rw [lo, hp]; omega)))) exs_nil) ?_
      intro z d q
      by_cases h1 : z = "many"
      · subst h1
        have : Bj row m t C (i + 1) "many" = some (.int (m + (partM row (t % 2) (i + 1) : Int))) := rfl
        rw [this] at q
        have e : m + (partM row (t % 2) (i + 1) : Int) = m + (partM row (t % 2) i : Int) := by rw [partM, hH, if_neg (by decide), Nat.add_zero]
        rw [e] at q
        exact q
      · by_cases h2 : z = "out"
        · subst h2
          have : Bj row m t C (i + 1) "out" = some (.bytes (partO row (t % 2) (i + 1))) := rfl
          rw [this, partO, hH, if_neg (by decide)] at q
          exact q
        · by_cases h3 : z = "i"
          · subst h3; have : Bj row m t C (i + 1) "i" = none := rfl; rw [this] at q; cases q
          · by_cases h4 : z = "pair"
            · subst h4; have : Bj row m t C (i + 1) "pair" = none := rfl; rw [this] at q; cases q
            · unfold Bj at q ⊢
              unfold upd at q ⊢
              simp only [if_neg h1, if_neg h2, if_neg h3, if_neg h4] at q ⊢
              exact q
  have lo : (partO row (t % 2) ((row.length - t % 2) / 2)).length = t % 2 + 2 * ((row.length - t % 2) / 2) := partO_len (by omega)
  refine ret_ret W (ev_tuple W (evs_cons W ?_ (evs_cons W (ev_local rfl) evs_nil)))
  have e3 : cutL row (some (((partO row (t % 2) ((row.length - t % 2) / 2)).length : Nat) : Int)) none = row.drop (partO row (t % 2) ((row.length - t % 2) / 2)).length := cut_from row _ (by omega)
  exact ev_bin W (ev_local rfl) (EvS.eq (ev_cut_bytes W (ev_local rfl) (part_some (ev_call W (ev_global g1) (.inl ⟨_, rfl⟩) (evs_cons W (ev_local rfl) evs_nil) (call_len_bytes (by omega)))) part_none (by omega)) (congrArg D.bytes e3)) (bin_bytes (by rw [List.length_drop]; omega))
end Mine
end
noncomputable section
open PySem PySem.W PySem.W.X PyProof.Rows
set_option Elab.async false
set_option linter.unusedVariables false
set_option maxRecDepth 100000
namespace Mine
variable {prog : Program} {w : World} {G : Heap → Prop} {Z : Addr → Prop}
theorem among_other {pos : Pos} {a b : Nat} {c : Value} (hne : ¬ (a = pos.line ∧ b = pos.col)) : ∀ (l : List Value), TriplesOk l → codeAmong pos l = none → codeAmong pos (l ++ [rawInt a, rawInt b, c]) = none
  | [], _, _ => by
    show (if ((a : Int) == (pos.line : Int) && (b : Int) == (pos.col : Int)) = true then some c else none) = none
    rw [if_neg]
    intro q
    simp only [Bool.and_eq_true, beq_iff_eq] at q
    exact hne ⟨by omega, by omega⟩
  | .int x t :: .int y u :: v :: r, ok, e => by
    have e' : (if (x == (pos.line : Int) && y == (pos.col : Int)) = true then some v else codeAmong pos r) = none := e
    show (if (x == (pos.line : Int) && y == (pos.col : Int)) = true then some v else codeAmong pos (r ++ _)) = none
    split at e'
    · cases e'
    · rename_i hq
      rw [if_neg hq]
      exact among_other hne r ok e'
/-- the law's code table: rows at the places of L -/
noncomputable def TB (p : Addr) (L : List (Nat × Nat)) (h : Heap) : Prop := ∃ ps, h.get? p = some (tabObj ps) ∧ TriplesOk ps.toList ∧ ∀ pos : Pos, (pos.line, pos.col) ∉ L → codeAmong pos ps.toList = none
theorem TB.nil {p : Addr} {h : Heap} (e : h.get? p = some (tabObj #[])) : TB p [] h := ⟨_, e, trivial, fun _ _ => rfl⟩
/-- a lambda made -/
theorem lam_x {A : Around} {E : Value → Shared → Prop} {h : Heap} {g dr tk o} {env : Env} {args : Arguments} {body : Expr} {scope : Scope} {pos : Pos} {clos : List (Str × Addr)} {c p : Addr} {L : List (Nat × Nat)} {Q : Value → Shared → Prop}
    (T : TopOk G c p) (hg : G h) (hcl : closureFor scope env = pure clos) (hgl : env.globals = mainGlobals) (hcode : env.code = .ref c) (hdef : defaultsOf args env = ([], [])) (B : TB p L h) (hL : (pos.line, pos.col) ∉ L)
    (q : ∀ a pm c' ct h' tk', Grow (fun b => b = p) h h' → h.get? a = none → h'.get? a = some (fnObj (defFn "<lambda>" (env.qual ++ "<lambda>") args (.expr body) scope clos pm (.ref c') ct)) → CodeK h' c' (env.qual ++ "<lambda>") → TB p ((pos.line, pos.col) :: L) h' → Q (.ref a) ⟨h', g, dr, tk', o⟩) :
    wpAny (model prog w) A (eval (.Lambda args body scope pos) env) Q E ⟨h, g, dr, tk, o⟩ := by
  obtain ⟨mg, ng, -, hbat⟩ := T.main h hg
  obtain ⟨ps, ep, ok, hno⟩ := B
  have hnf := hno pos hL
  rw [arm_eval_Lambda, hdef]
  refine wpAny_bind (wpAny_pure ?_)
  refine wpAny_bind (wpAny_holding (wpAny_pure ?_))
  refine mk_fn (s := ⟨h, g, dr, tk, o⟩) (c := c) (P := p) (ps := ps) hcl hgl ng hcode ⟨T.code h hg, ep, ok⟩ (fun b hb => nomatch hb) (.inl hnf) T.nP.1 hbat fun c' ctv h' tk' ps' hx hsz hnx hck hT => ?_
  have e := next_new hnx hnf
  subst e
  generalize hfd : defFn "<lambda>" (env.qual ++ "<lambda>") args (.expr body) scope clos ((mg "__name__").getD .none) (.ref c') ctv = fd
  have kp : ∀ b ob, h'.get? b = some ob → (h'.push (fnObj fd)).get? b = some ob := fun b ob eb => Heap.get?_push_of_some _ eb
  refine q h'.objs.size ((mg "__name__").getD .none) c' ctv _ tk' ⟨fun b ob hb eb => kp _ _ (hx b ob hb eb)⟩ ?_ (by rw [hfd]; exact Heap.get?_push_size _ rfl) (hck.keeps kp) ⟨_, kp _ _ hT.tab, hT.ok, fun pos' hp' => ?_⟩
  · cases en : h.get? h'.objs.size with
    | none => rfl
    | some ob => exact absurd (Heap.lt_size en) (Nat.not_lt.mpr hsz)
  · rw [List.mem_cons, not_or] at hp'
    rw [Array.toList_append]
    exact among_other (fun q => hp'.1 (by rw [Prod.mk.injEq]; exact ⟨q.1.symm, q.2.symm⟩)) _ ok (hno pos' hp'.2)
end Mine
end
noncomputable section
open PySem PySem.W PySem.W.X PyProof.Rows
set_option Elab.async false
set_option linter.unusedVariables false
set_option maxRecDepth 100000
namespace Mine
variable {prog : Program} {w : World} {G : Heap → Prop} {Z : Addr → Prop}
/-- a call that is handed a lambda ahead of plain data, its answer stored -/
theorem exO_lam (W : Glob G Z) {k j : Nat} {env : Env} {ρ : Rho} {O : Addr → Prop} {P : Heap → Prop} {c p : Addr} (T : TopOk G c p) (hOp : O p) (hpZ : ¬ Z p)
    {x fn : Str} {p' p1 lp pos pos' : Pos} {la : Arguments} {lb : Expr} {ls : Scope} {args : List Expr} {fv : Value} {ds : List D} {d : D} {clos : List (Str × Addr)} {L : List (Nat × Nat)}
    (hF : EvS prog w G Z k env ρ (.Name fn p1) (.val fv)) (cF : ∃ a, fv = .ref a ∧ ∀ h, G h → ∃ o fd, h.get? a = some o ∧ o.data = .func fd)
    (hcl : closureFor ls env = pure clos) (hgl : env.globals = mainGlobals) (hcode : env.code = .ref c) (hdef : defaultsOf la env = ([], [])) (hL : (lp.line, lp.col) ∉ L)
    (hargs : EvsS prog w G Z k env ρ args ds) (hP : ∀ h h', Grow (fun b => b = p) h h' → P h → P h') (hP2 : Stab O P)
    (H : ∀ h₂ X a pm c' ct, Fok G Z X h₂ env ρ → h₂.get? a = some (fnObj (defFn "<lambda>" (env.qual ++ "<lambda>") la (.expr lb) ls clos pm (.ref c') ct)) → CodeK h₂ c' (env.qual ++ "<lambda>") → CallS prog w (fun h' => G h' ∧ Le h₂ h') j fv (.val (.ref a) :: ds) d)
    (hj : j ≤ k) (hl : env.kindOf x = some .local ∨ env.kindOf x = some .cell) (hf : env.scope.kind = .function)
    (hs : swapsWith (.Call (.Name fn p1) (.Lambda la lb ls lp :: args) [] pos) (some (.Name x p')) pos'.line env = pure false) (hst : starEach (.Lambda la lb ls lp :: args) env = (false, eval (.Lambda la lb ls lp) env) :: starEach args env)
    (hsa : (starEach args env).any (·.1) = false) (hn : Nat.ble (starEach args env).length 29 = true) :
    ExO prog w G Z k env O (fun h => TB p L h ∧ P h) ρ (.Assign [.Name x p'] (.Call (.Name fn p1) (.Lambda la lb ls lp :: args) [] pos) pos') .next (upd ρ x d) (fun h => TB p ((lp.line, lp.col) :: L) h ∧ P h) := by
  intro A hA X h g dr tk o hO F hPP
  obtain ⟨B, hPh⟩ := hPP
  refine jAssign ?_ hs
  refine jCall_Name (hF.use hA F fun h0 t0 v g0 r0 => ?_)
  cases r0
  have F0 := F.le W g0
  have B0 : TB p L h0 := let ⟨ps, a, b⟩ := B; ⟨ps, g0.old _ _ (fun q => q) a, b⟩
  have P0 : P h0 := hP _ _ (.any g0) hPh
  rw [hst]
  refine jCallWith (back_plain (by rw [List.any_cons, hsa]; rfl)) (by unfold backTo; rw [List.length_map, List.length_cons]; have := Nat.le_of_ble_eq_true hn; omega) ?_
  show wpJ _ _ (spliced ((false, eval (.Lambda la lb ls lp) env) :: backTo pos (starEach args env))) _ _
  refine jSpliced_cons (wpJ.of (lam_x T F0.g hcl hgl hcode hdef B0 hL fun a pm c' ct h1 t1 g1 na ha hc B1 => ?_))
  have P1 : P h1 := hP _ _ g1 P0
  have F1 : Fok G Z X h1 env ρ := by
    obtain ⟨ps, e, _⟩ := B0
    obtain ⟨ps', e', _⟩ := B1
    refine F0.turn W g1 (fun b q => q ▸ hpZ) (fun b q _ => ⟨_, q ▸ e'⟩) fun b q => ⟨_, q ▸ e, ⟨.inl (q ▸ (hO p hOp).1), ?_, ?_⟩⟩
    · intro xs n q; cases q
    · intro v q; cases q
  refine (hargs pos).use hA F1 fun h2 t2 vs g2 r2 => ⟨?_, ?_⟩
  · obtain ⟨af, rfl, hfa⟩ := cF
    obtain ⟨of, fd, hof, hfd⟩ := hfa h2 (F1.le W g2).g
    refine ⟨.frame, .inl rfl, fun q => ?_⟩
    unfold keeperOf
    refine wpAny_bind (wpAny_load hof ?_)
    rw [hfd]
    exact wpAny_pure q
  · have F2 := F1.le W g2
    have C2 := H h2 X a pm c' ct F2 (g2.old _ _ (fun q => q) ha) (hc.keeps fun b ob e => g2.old _ _ (fun q => q) e)
    refine C2.use (hA.mono hj) ⟨F2.g, .refl _ _⟩ F2.xs ⟨_, _, rfl, rfl, r2⟩ fun h3 t3 v3 g3 r3 => ?_
    have F3 := F2.le W g3
    refine store_S W hl hf F3 r3 fun h4 t4 g4 F4 => ?_
    refine ⟨h4, t4, rfl, ?_, rfl, F4, ?_, ?_⟩
    · exact (((Grow.any g0).trans (g1.mono fun b q => .inr (q ▸ hOp))).trans (.any (g2.trans g3))).trans (g4.mono fun b q => .inl q)
    · obtain ⟨ps, e, r⟩ := B1
      exact ⟨ps, g4.old _ _ (hO p hOp).2 ((g2.trans g3).old _ _ (fun q => q) e), r⟩
    · exact hP2 _ _ _ g4 (fun b m ob => (hO b ob).2 m) (hP _ _ (.any (g2.trans g3)) P1)
end Mine
end
noncomputable section
open PySem PySem.W PySem.W.X PyProof.Rows
set_option Elab.async false
set_option linter.unusedVariables false
set_option maxRecDepth 100000
namespace Mine
variable {prog : Program} {w : World} {G : Heap → Prop} {Z : Addr → Prop}
/-- what a frame and its owned objects may turn -/
noncomputable def EO (env : Env) (O : Addr → Prop) : Addr → Prop := fun b => Mut env b ∨ O b
noncomputable abbrev Gz (G : Heap → Prop) (env : Env) (O : Addr → Prop) (h₀ : Heap) : Heap → Prop := fun h' => G h' ∧ Grow (EO env O) h₀ h'
noncomputable abbrev Zz (Z : Addr → Prop) (env : Env) (O : Addr → Prop) (h₀ : Heap) : Addr → Prop := fun b => Z b ∨ ((∃ o, h₀.get? b = some o) ∧ ¬ EO env O b)
/-- the rest of a text, all but the frame's and the owned objects frozen -/
theorem TrO.freeze {k : Nat} {env : Env} {O : Addr → Prop} {P P' : Heap → Prop} {ρ ρ' : Rho} {t : Sem Flow} {f : Fl} {h₀ : Heap} (H : TrO prog w (Gz G env O h₀) (Zz Z env O h₀) k env O P ρ t f ρ' P')
    {A : Around} (hA : Bud k A) {X h g dr tk o} (hO : ∀ b, O b → X b ∧ ¬ Mut env b) (F : Fok G Z X h env ρ) (gr : Grow (EO env O) h₀ h) (hP : P h) {Q : Flow → Shared → Prop}
    (q : ∀ h' t' r, Grow (fun b => Mut env b ∨ O b) h h' → f.Is X h' r → Fok G Z X h' env ρ' → P' h' → Q r ⟨h', g, dr, t', o⟩) : wpJ (model prog w) A t Q ⟨h, g, dr, tk, o⟩ := by
  have F' : Fok (Gz G env O h₀) (Zz Z env O h₀) X h env ρ := ⟨⟨F.g, gr⟩, F.xs, fun q => q.elim F.low fun q => q.2 (.inl (.inl rfl)), F.loc, F.cel, fun x kx => let ⟨c, ov, a, i, l⟩ := F.own x kx; ⟨c, ov, a, i, fun q => q.elim l fun q => q.2 (.inl (.inr ⟨x, kx, a⟩))⟩, F.apart⟩
  exact H.use hA hO F' hP fun h' t' r g1 r1 F1 p1 => q h' t' r g1 r1 ⟨F1.g.1, F1.xs, F.low, F1.loc, F1.cel, fun x kx => let ⟨c, ov, a, i, l⟩ := F1.own x kx; ⟨c, ov, a, i, fun q => l (.inl q)⟩, F1.apart⟩ p1
/-- a frame's own objects and its tables are dicts, cells, tables -/
noncomputable def Soft (h : Heap) (S : Addr → Prop) : Prop := ∀ b, S b → (∃ o es n, h.get? b = some o ∧ o.data = .dict es n) ∨ (∃ o v, h.get? b = some o ∧ o.data = .cell v) ∨ ∃ ps, h.get? b = some (tabObj ps)
theorem Soft.keep {h h' : Heap} {S : Addr → Prop} (s : Soft h S) (g : Grow S h h') {b : Addr} {o : Obj} (e : h.get? b = some o) (n1 : ∀ es n, o.data ≠ .dict es n) (n2 : ∀ v, o.data ≠ .cell v) (n3 : o.cls ≠ .none) : h'.get? b = some o := by
  refine g.old b o (fun q => ?_) e
  rcases s b q with ⟨o', es, n, e', d⟩ | ⟨o', v, e', d⟩ | ⟨ps, e'⟩
  · rw [e] at e'; cases e'; exact n1 _ _ d
  · rw [e] at e'; cases e'; exact n2 _ d
  · rw [e] at e'; cases e'; exact n3 rfl
theorem Soft.code {h h' : Heap} {S : Addr → Prop} (s : Soft h S) (g : Grow S h h') {c : Addr} {q : Str} (r : CodeK h c q) : CodeK h' c q := by
  obtain ⟨o₂, vs₂, t₂, g₂, hc₂, r₁, r₂⟩ := r
  exact ⟨o₂, vs₂, t₂, s.keep g g₂ (fun _ _ q => by rw [r₁] at q; cases q) (fun _ q => by rw [r₁] at q; cases q) (by rw [hc₂]; exact fun q => nomatch q), hc₂, r₁, r₂⟩
end Mine
end
noncomputable section
open PySem PySem.W PySem.W.X PyProof.Rows
set_option Elab.async false
set_option linter.unusedVariables false
set_option maxRecDepth 100000
namespace Mine
variable {prog : Program} {w : World} {G : Heap → Prop} {Z : Addr → Prop}
/-- the key class made, over a lambda, and stored -/
theorem exsO_cls (W : Glob G Z) {k : Nat} {env : Env} {ρ : Rho} {O : Addr → Prop} {c p : Addr} (T : TopOk G c p) (hO1 : ∀ b, O b → b = 16 ∨ b = p) (hOp : O p) (hO16 : O 16) (hpZ : ¬ Z p) (h16Z : ¬ Z 16) (h16p : 16 ≠ p)
    {x fn : Str} {p' p1 lp pos pos' : Pos} {la : Arguments} {lb : Expr} {ls : Scope} {clos : List (Str × Addr)} {L : List (Nat × Nat)} {rest : List Stmt} {f : Fl} {ρ' : Rho} {P' : Heap → Prop} {PP : Params}
    (hF : EvS prog w G Z k env ρ (.Name fn p1) (.val (.ref 21))) (cF : ∀ h, G h → ∃ o fd, h.get? 21 = some o ∧ o.data = .func fd)
    (hcl : closureFor ls env = pure clos) (hgl : env.globals = mainGlobals) (hcode : env.code = .ref c) (hdef : defaultsOf la env = ([], [])) (hL : (lp.line, lp.col) ∉ L)
    (Hc : ∀ f, CallO prog w G 91 (fun b => b = 16) (fun h => h.get? 16 = some (tabObj #[])) (.ref 21) [.val f] (fun X h' v => ∃ C cK, v = .ref C ∧ ¬ X C ∧ KCz X PP h' C f ∧ h'.get? 16 = some (tabObj #[rawInt 4, rawInt 4, .ref cK])))
    (R : ∀ h₂ a pm c' ct C, G h₂ → h₂.get? a = some (fnObj (defFn "<lambda>" (env.qual ++ "<lambda>") la (.expr lb) ls clos pm (.ref c') ct)) → CodeK h₂ c' (env.qual ++ "<lambda>") → KCz (EO env O) PP h₂ C (.ref a) → Soft h₂ (EO env O) →
      ExsO prog w (Gz G env O h₂) (Zz Z env O h₂) k env O (fun h => TB p ((lp.line, lp.col) :: L) h ∧ ∃ cK, h.get? 16 = some (tabObj #[rawInt 4, rawInt 4, .ref cK])) (upd ρ x (.val (.ref C))) rest f ρ' P')
    (hj : 91 ≤ k) (hl : env.kindOf x = some .local ∨ env.kindOf x = some .cell) (hf : env.scope.kind = .function)
    (hs : swapsWith (.Call (.Name fn p1) [.Lambda la lb ls lp] [] pos) (some (.Name x p')) pos'.line env = pure false) (hst : starEach [.Lambda la lb ls lp] env = [(false, eval (.Lambda la lb ls lp) env)]) :
    ExsO prog w G Z k env O (fun h => TB p L h ∧ h.get? 16 = some (tabObj #[])) ρ (.Assign [.Name x p'] (.Call (.Name fn p1) [.Lambda la lb ls lp] [] pos) pos' :: rest) f ρ' P' := by
  intro A hA X h g dr tk o hO F hPP
  obtain ⟨B, hPh⟩ := hPP
  refine jExecs_cons (jAssign ?_ hs)
  refine jCall_Name (hF.use hA F fun h0 t0 v g0 r0 => ?_)
  cases r0
  have F0 := F.le W g0
  have B0 : TB p L h0 := let ⟨ps, a, b⟩ := B; ⟨ps, g0.old _ _ (fun q => q) a, b⟩
  have P0 := g0.old _ _ (fun q => q) hPh
  rw [hst]
  refine jCallWith (back_plain rfl) (by unfold backTo; rw [List.length_map]; exact Nat.le_of_ble_eq_true rfl) ?_
  show wpJ _ _ (spliced [(false, eval (.Lambda la lb ls lp) env)]) _ _
  refine jSpliced_cons (wpJ.of (lam_x T F0.g hcl hgl hcode hdef B0 hL fun a pm c' ct h1 t1 g1 na ha hc B1 => ?_))
  have P1 := g1.old 16 _ h16p P0
  have F1 : Fok G Z X h1 env ρ := by
    obtain ⟨ps, e, _⟩ := B0
    obtain ⟨ps', e', _⟩ := B1
    refine F0.turn W g1 (fun b q => q ▸ hpZ) (fun b q _ => ⟨_, q ▸ e'⟩) fun b q => ⟨_, q ▸ e, ⟨.inl (q ▸ (hO p hOp).1), ?_, ?_⟩⟩
    · intro xs n q; cases q
    · intro v q; cases q
  refine jSpliced_nil ⟨?_, ?_⟩
  · obtain ⟨of, fd, hof, hfd⟩ := cF h1 F1.g
    refine ⟨.frame, .inl rfl, fun q => ?_⟩
    unfold keeperOf
    refine wpAny_bind (wpAny_load hof ?_)
    rw [hfd]
    exact wpAny_pure q
  have X' : Alive (fun b => X b ∨ Mut env b) h1 := fun b q => q.elim (F1.xs b) fun m => by
    rcases m with rfl | ⟨y, hy, hc⟩
    · obtain ⟨m, ⟨o, _, _, e, _⟩, _⟩ := F1.loc; exact ⟨o, e⟩
    · obtain ⟨c2, ov, e1, ⟨o, e2, _⟩, _⟩ := F1.own y hy
      rw [hc] at e1; cases e1; exact ⟨o, e2⟩
  refine wpJ_mono (Hc (.ref a) A (hA.mono hj) (fun b => X b ∨ Mut env b) h1 g dr t1 o _ F1.g X' (fun b q => q ▸ .inl (hO 16 hO16).1) P1 ⟨_, _, rfl, rfl, rfl⟩) fun v s' hv => ?_
  obtain ⟨h2, t2, rfl, g2, C, cK, rfl, nC, KK, P2⟩ := hv
  have F2 : Fok G Z X h2 env ρ := by
    refine F1.turn W g2 (fun b q => q ▸ h16Z) (fun b q _ => ⟨_, q ▸ P2⟩) fun b q => ⟨_, q ▸ P1, ⟨.inl (q ▸ (hO 16 hO16).1), ?_, ?_⟩⟩
    · intro xs n q; cases q
    · intro v q; cases q
  have mk : ∀ b, Mut env b → (∃ o es n, h2.get? b = some o ∧ o.data = .dict es n) ∨ ∃ o v, h2.get? b = some o ∧ o.data = .cell v := fun b m => by
    rcases m with rfl | ⟨y, hy, hc⟩
    · obtain ⟨m, ⟨o, es, ep, e, d, _⟩, _⟩ := F2.loc; exact .inl ⟨o, es, ep, e, d⟩
    · obtain ⟨c2, ov, e1, ⟨o, e2, d⟩, _⟩ := F2.own y hy
      rw [hc] at e1; cases e1; exact .inr ⟨o, ov, e2, d⟩
  have a2 : h2.get? a = some _ := g2.old a _ (fun q => by rw [q, P1] at ha; cases ha) ha
  have c2 : CodeK h2 c' (env.qual ++ "<lambda>") := by
    obtain ⟨o₂, vs₂, t₂, g₂, hc₂, r₁, r₂⟩ := hc
    exact ⟨o₂, vs₂, t₂, g2.old _ _ (fun q => by rw [q, P1] at g₂; cases g₂; cases hc₂) g₂, hc₂, r₁, r₂⟩
  refine store_S W hl hf F2 (d := .val (.ref C)) rfl fun h3 t3 g3 F3 => ?_
  have K3 : KCz (fun b => X b ∨ Mut env b) PP h3 C (.ref a) := KK.grow g3 (fun b m => .inl (.inr m)) fun b m _ => (mk b m).elim .inl fun q => .inr (.inl q)
  have nm : ∀ b o, h2.get? b = some o → (∀ es n, o.data ≠ .dict es n) → (∀ v, o.data ≠ .cell v) → h3.get? b = some o := fun b o e q1 q2 => g3.old b o (fun m => by
    rcases mk b m with ⟨o', es, n, e', d'⟩ | ⟨o', v, e', d'⟩
    · rw [e] at e'; cases e'; exact q1 _ _ d'
    · rw [e] at e'; cases e'; exact q2 _ d') e
  have a3 := nm _ _ a2 (fun _ _ q => nomatch q) (fun _ q => nomatch q)
  have c3 : CodeK h3 c' (env.qual ++ "<lambda>") := by
    obtain ⟨o₂, vs₂, t₂, g₂, hc₂, r₁, r₂⟩ := c2
    exact ⟨o₂, vs₂, t₂, nm _ _ g₂ (fun _ _ q => by rw [r₁] at q; cases q) (fun _ q => by rw [r₁] at q; cases q), hc₂, r₁, r₂⟩
  have B3 : TB p ((lp.line, lp.col) :: L) h3 := by
    obtain ⟨ps, e, r⟩ := B1
    exact ⟨ps, nm _ _ (g2.old _ _ (Ne.symm h16p) e) (fun _ _ q => nomatch q) (fun _ q => nomatch q), r⟩
  have P3 := nm _ _ P2 (fun _ _ q => nomatch q) (fun _ q => nomatch q)
  have S3 : Soft h3 (EO env O) := fun b q => by
    rcases q with m | q
    · rcases m with rfl | ⟨y, hy, hc⟩
      · obtain ⟨m, ⟨o, es, ep, e, d, _⟩, _⟩ := F3.loc; exact .inl ⟨o, es, ep, e, d⟩
      · obtain ⟨c2, ov, e1, ⟨o, e2, d⟩, _⟩ := F3.own y hy
        rw [hc] at e1; cases e1; exact .inr (.inl ⟨o, ov, e2, d⟩)
    · rcases hO1 b q with rfl | rfl
      · exact .inr (.inr ⟨_, P3⟩)
      · obtain ⟨ps, e, _⟩ := B3; exact .inr (.inr ⟨ps, e⟩)
  refine (R h3 a pm c' ct C F3.g a3 c3 (K3.mono fun b m => m.elim .inr fun q => .inl (hO b q).1) S3).freeze hA hO F3 (.refl _ _) ⟨B3, cK, P3⟩ fun h4 t4 r g4 r4 F4 p4 => ?_
  exact ⟨h4, t4, rfl, ((((Grow.any g0).trans (g1.mono fun b q => .inr (q ▸ hOp))).trans (g2.mono fun b q => .inr (q ▸ hO16))).trans (g3.mono fun b q => .inl q)).trans g4, r4, F4, p4⟩
end Mine
end
noncomputable section
open PySem PySem.W PySem.W.X PyProof.Rows
set_option Elab.async false
set_option linter.unusedVariables false
set_option maxRecDepth 100000
namespace Mine
noncomputable def argN (x : Str) (p : Pos) : Arg := { arg := x, annotation := none, pos := p }
theorem bind3 {M : Model} {A : Around} {E : Value → Shared → Prop} {fd : FuncData} {s : Shared} {a b c dv : Value} {D : Addr} {n : Nat} {p1 p2 p3 : Pos} {df : List Expr} {o : Obj} (hp : fd.params = { posonlyargs := [], args := [argN "function" p1, argN "sequence" p2, argN "initial" p3], vararg := none, kwonlyargs := [], kw_defaults := [], kwarg := none, defaults := df }) (hd : fd.defaults = .ref D)
   (h : s.heap.get? D = some o) (ho : o.data = .seq #[dv] n) {Q : List (Str × Value) → Shared → Prop}
   (q : Q ((["function", "sequence", "initial"] : List Str).zip [a, b, c]) s) : wpAny M A (bindArgs fd ⟨[a, b, c], []⟩) Q E s := by
  unfold bindArgs
  rw [hp, hd]
  refine wpAny_bind (wpAny_pure ?_)
  refine wpAny_bind (wpAny_seqItems h ho ?_)
  exact wpAny_of_eq (a := ((["function", "sequence", "initial"] : List Str).zip [a, b, c])) (by kernel_rfl) q
end Mine
end
noncomputable section
open PySem PySem.W PyProof.Rows
set_option Elab.async false
set_option linter.unusedVariables false
set_option maxRecDepth 100000
namespace Mine
/-! the plain law of 02: the rows -/
noncomputable def huntN (b : List UInt8) : Nat → List UInt8
  | 0 => b
  | t + 1 => huntL (huntN b t) t
noncomputable def rungU (b : List UInt8) (t : Nat) : Nat → List UInt8
  | 0 => List.replicate b.length 0
  | i + 1 => (rungU b t i).set (seatN i t b.length) (b.getD i 0)
theorem rungU_eq (b : List UInt8) (t : Nat) : ∀ i, (rungI b t i).map (fun n => n.toNat.toUInt8) = rungU b t i
  | 0 => by simp [rungI, rungU]
  | i + 1 => by
    rw [rungI, rungU, List.map_set, rungU_eq b t i]
    congr 1
    simp
theorem rungL_eq (b : List UInt8) (t : Nat) : rungL b t = rungU b t b.length := rungU_eq b t _
noncomputable def rowsOk (b : List UInt8) : Prop := (List.range (2 * b.length + 1)).map (huntN b) = (List.range (2 * b.length + 1)).map (fun t => rungU b t b.length) ∧ huntN b b.length = (Bo b.length b 1).toList
theorem rows2 (a b : UInt8) : rowsOk [a, b] := ⟨by kernel_rfl, by kernel_rfl⟩
theorem rows3 (a b c : UInt8) : rowsOk [a, b, c] := ⟨by kernel_rfl, by kernel_rfl⟩
theorem rows4 (a b c d : UInt8) : rowsOk [a, b, c, d] := ⟨by kernel_rfl, by kernel_rfl⟩
theorem rows5 (a b c d e : UInt8) : rowsOk [a, b, c, d, e] := ⟨by kernel_rfl, by kernel_rfl⟩
theorem rows6 (a b c d e f : UInt8) : rowsOk [a, b, c, d, e, f] := ⟨by kernel_rfl, by kernel_rfl⟩
theorem rows7 (a b c d e f g : UInt8) : rowsOk [a, b, c, d, e, f, g] := ⟨by kernel_rfl, by kernel_rfl⟩
theorem rows_ok : ∀ (b : List UInt8), 2 ≤ b.length → b.length ≤ 7 → rowsOk b
  | [], h, _ => absurd h (by decide)
  | [_], h, _ => by simp at h
  | [a, b], _, _ => rows2 a b
  | [a, b, c], _, _ => rows3 a b c
  | [a, b, c, d], _, _ => rows4 a b c d
  | [a, b, c, d, e], _, _ => rows5 a b c d e
  | [a, b, c, d, e, f], _, _ => rows6 a b c d e f
  | [a, b, c, d, e, f, g], _, _ => rows7 a b c d e f g
  | _ :: _ :: _ :: _ :: _ :: _ :: _ :: _ :: r, _, h => by simp only [List.length_cons] at h; omega
theorem huntL_length (b : List UInt8) (t : Nat) (h : 1 ≤ b.length) : (huntL b t).length = b.length := by
  unfold huntL
  have e : (Bo 2 (List.take ((b.length - t % 2) / 2 * 2) (List.drop (t % 2) b)) ((b.length - t % 2) / 2)).toList.length = (List.take ((b.length - t % 2) / 2 * 2) (List.drop (t % 2) b)).length := by rw [Array.length_toList, Bo_size]
  rw [List.length_append, List.length_append, e, List.length_take, List.length_take, List.length_drop, List.length_drop]
  omega
theorem huntN_length (b : List UInt8) (h : 1 ≤ b.length) : ∀ t, (huntN b t).length = b.length
  | 0 => rfl
  | t + 1 => by rw [huntN, huntL_length _ _ (by rw [huntN_length b h t]; exact h), huntN_length b h t]
/-! the plain law of 02: the sorting -/
noncomputable def wt (x : UInt8) : Nat := x.toNat / 16
inductive Sw : List UInt8 → Nat → List UInt8 → Prop
  | refl (l) : Sw l 0 l
  | step {l n a x y b} : Sw l n (a ++ x :: y :: b) → wt y < wt x → Sw l (n + 1) (a ++ y :: x :: b)
theorem Sw.trans {l m p : List UInt8} {n k : Nat} (h : Sw l n m) (h' : Sw m k p) : Sw l (n + k) p := by
  induction h' with
  | refl => exact h
  | step _ hw ih => exact .step ih hw
theorem Sw.pre (c : List UInt8) {l m : List UInt8} {n : Nat} (h : Sw l n m) : Sw (c ++ l) n (c ++ m) := by
  induction h with
  | refl => exact .refl _
  | @step n a x y b _ hw ih => rw [← List.append_assoc] at ih ⊢; exact .step ih hw
/-- pairs with the first one heavier -/
noncomputable def inv : List UInt8 → Nat
  | [] => 0
  | x :: l => l.countP (fun y => wt y < wt x) + inv l
theorem inv_swap {x y : UInt8} {b : List UInt8} (h : wt y < wt x) : ∀ a : List UInt8, inv (a ++ x :: y :: b) = inv (a ++ y :: x :: b) + 1
  | [] => by
    simp only [List.nil_append, inv, List.countP_cons, decide_eq_true_eq, if_pos h, if_neg (Nat.lt_asymm h)]
    omega
  | z :: a => by
    simp only [List.cons_append, inv, inv_swap h a, List.countP_append, List.countP_cons]
    omega
theorem Sw.inv {l m : List UInt8} {n : Nat} (h : Sw l n m) : inv l = inv m + n := by
  induction h with
  | refl => rfl
  | step _ hw ih => rw [ih, inv_swap hw]; omega
theorem Sw.filt {l m : List UInt8} {n : Nat} (h : Sw l n m) (v : Nat) : m.filter (fun x => wt x == v) = l.filter (fun x => wt x == v) := by
  induction h with
  | refl => rfl
  | @step n a x y b _ hw ih =>
    rw [← ih]
    simp only [List.filter_append, List.filter_cons]
    congr 1
    by_cases hx : wt x = v
    · have hy : ¬ wt y = v := by omega
      simp [hx, hy]
    · simp [hx]
theorem Sw.length {l m : List UInt8} {n : Nat} (h : Sw l n m) : m.length = l.length := by
  induction h with
  | refl => rfl
  | step _ _ ih => rw [← ih]; simp
/-- the swaps of one turn from the front on -/
noncomputable def pB : List UInt8 → List UInt8
  | x :: y :: r => if wt y < wt x then y :: x :: pB r else x :: y :: pB r
  | l => l
noncomputable def cB : List UInt8 → Nat
  | x :: y :: r => (if wt y < wt x then 1 else 0) + cB r
  | l => 0
theorem sw_pB : ∀ l, Sw l (cB l) (pB l)
  | [] => .refl _
  | [_] => .refl _
  | x :: y :: r => by
    unfold pB cB
    have h := sw_pB r
    split
    · rename_i hw
      have h1 : Sw (x :: y :: r) 1 (y :: x :: r) := Sw.step (a := []) (.refl _) hw
      exact h1.trans (h.pre [y, x])
    · rw [Nat.zero_add]; exact h.pre [x, y]
noncomputable def stB (t : Nat) (l : List UInt8) : List UInt8 := l.take (t % 2) ++ pB (l.drop (t % 2))
noncomputable def scB (t : Nat) (l : List UInt8) : Nat := cB (l.drop (t % 2))
theorem sw_stB (t : Nat) (l : List UInt8) : Sw l (scB t l) (stB t l) := by
  have := (sw_pB (l.drop (t % 2))).pre (l.take (t % 2))
  rwa [List.take_append_drop] at this
theorem drop2 {α : Type} {l : List α} {i : Nat} (h : i + 2 ≤ l.length) : ∃ x y, l.drop i = x :: y :: l.drop (i + 2) ∧ l[i]? = some x ∧ l[i + 1]? = some y := by
  refine ⟨l[i], l[i + 1], ?_, by simp, by simp⟩
  rw [List.drop_eq_getElem_cons (by omega), List.drop_eq_getElem_cons (i := i + 1) (by omega)]
theorem part_step {row : List UInt8} {f : Nat} : ∀ {j : Nat}, f + 2 * j ≤ row.length → partO row f j ++ pB (row.drop (f + 2 * j)) = row.take f ++ pB (row.drop f) ∧ partM row f j + cB (row.drop (f + 2 * j)) = cB (row.drop f)
  | 0, _ => by simp [partO, partM]
  | j + 1, h => by
    obtain ⟨ih1, ih2⟩ := part_step (row := row) (f := f) (j := j) (by omega)
    obtain ⟨x, y, e, ex, ey⟩ := drop2 (l := row) (i := f + 2 * j) (by omega)
    have e2 : f + 2 * (j + 1) = f + 2 * j + 2 := by omega
    have hp : pairAt row (f + 2 * j) = [x, y] := by unfold pairAt; rw [e]; rfl
    have hh : heavyAt row (f + 2 * j) = decide (wt y < wt x) := by
      unfold heavyAt wt
      rw [List.getD_eq_getElem?_getD, List.getD_eq_getElem?_getD, ex, ey]
      rfl
    rw [← ih1, ← ih2, partO, partM, e2, e, hh, hp]
    have hb : (Bo 2 [x, y] 1).toList = [y, x] := by kernel_rfl
    have p1 : ∀ r, pB (x :: y :: r) = if wt y < wt x then y :: x :: pB r else x :: y :: pB r := fun r => by rw [pB]
    have c1 : ∀ r, cB (x :: y :: r) = (if wt y < wt x then 1 else 0) + cB r := fun r => by rw [cB]
    rw [p1, c1]
    by_cases hw : wt y < wt x
    · simp [hw, hb]; omega
    · simp [hw]
theorem pB_short {l : List UInt8} (h : l.length ≤ 1) : pB l = l ∧ cB l = 0 := by
  match l, h with
  | [], _ => exact ⟨rfl, rfl⟩
  | [_], _ => exact ⟨rfl, rfl⟩
theorem partL_eq {row : List UInt8} {t : Nat} (h : 1 ≤ row.length) : partL row t = stB t row ∧ partC row t = scB t row := by
  have hj : t % 2 + 2 * ((row.length - t % 2) / 2) ≤ row.length := by omega
  obtain ⟨h1, h2⟩ := part_step (row := row) (f := t % 2) hj
  obtain ⟨s1, s2⟩ := pB_short (l := row.drop (t % 2 + 2 * ((row.length - t % 2) / 2))) (by rw [List.length_drop]; omega)
  unfold partL partC stB scB
  rw [partO_len hj]
  rw [s1] at h1
  rw [s2] at h2
  exact ⟨h1, h2⟩
/-- the rows and the swaps behind t turns -/
noncomputable def runB (l : List UInt8) : Nat → List UInt8 × Nat
  | 0 => (l, 0)
  | t + 1 => (partL (runB l t).1 t, (runB l t).2 + partC (runB l t).1 t)
theorem runB_len (l : List UInt8) (h : 1 ≤ l.length) : ∀ t, (runB l t).1.length = l.length ∧ Sw l (runB l t).2 (runB l t).1
  | 0 => ⟨rfl, .refl _⟩
  | t + 1 => by
    obtain ⟨h1, h2⟩ := runB_len l h t
    obtain ⟨e1, e2⟩ := partL_eq (row := (runB l t).1) (t := t) (by omega)
    have h3 : Sw l (runB l (t + 1)).2 (runB l (t + 1)).1 := by
      show Sw l ((runB l t).2 + partC (runB l t).1 t) (partL (runB l t).1 t)
      rw [e1, e2]
      exact h2.trans (sw_stB _ _)
    exact ⟨h3.length, h3⟩
/-! the weights alone -/
noncomputable def pW : List Nat → List Nat
  | x :: y :: r => bif Nat.blt y x then y :: x :: pW r else x :: y :: pW r
  | l => l
noncomputable def stW : Bool → List Nat → List Nat
  | false, l => pW l
  | true, [] => []
  | true, x :: r => x :: pW r
noncomputable def runW (l : List Nat) : Nat → List Nat
  | 0 => l
  | t + 1 => stW (t % 2 == 1) (runW l t)
theorem map_pB : ∀ l : List UInt8, (pB l).map wt = pW (l.map wt)
  | [] => rfl
  | [_] => rfl
  | x :: y :: r => by
    unfold pB
    simp only [List.map_cons]
    unfold pW
    have ih := map_pB r
    by_cases hw : wt y < wt x
    · have : Nat.blt (wt y) (wt x) = true := by rw [Nat.blt_eq]; exact hw
      rw [if_pos hw, this]; simp [ih]
    · have : Nat.blt (wt y) (wt x) = false := by rw [Bool.eq_false_iff, ne_eq, Nat.blt_eq]; exact hw
      rw [if_neg hw, this]; simp [ih]
theorem map_stB (t : Nat) (l : List UInt8) : (stB t l).map wt = stW (t % 2 == 1) (l.map wt) := by
  unfold stB
  rcases Nat.mod_two_eq_zero_or_one t with h | h
  · rw [h]; simp [map_pB, stW]
  · rw [h]
    cases l with
    | nil => rfl
    | cons x r => simp [map_pB, stW]
theorem map_runB (l : List UInt8) (h : 1 ≤ l.length) : ∀ t, (runB l t).1.map wt = runW (l.map wt) t
  | 0 => rfl
  | t + 1 => by
    rw [runW, ← map_runB l h t, ← map_stB, ← (partL_eq (row := (runB l t).1) (t := t) (by rw [(runB_len l h t).1]; exact h)).1]
    rfl
noncomputable def upW : List Nat → Bool
  | x :: y :: r => Nat.ble x y && upW (y :: r)
  | _ => true
/-- over a threshold -/
noncomputable def thr (k x : Nat) : Nat := bif Nat.ble k x then 1 else 0
theorem thr_le (k x y : Nat) (h : x ≤ y) : thr k x ≤ thr k y := by
  unfold thr
  cases h1 : Nat.ble k x with
  | false => exact Nat.zero_le _
  | true =>
    have : Nat.ble k y = true := by rw [Nat.ble_eq] at h1 ⊢; omega
    rw [this]
    exact Nat.le_refl _
theorem map_pW (k : Nat) : ∀ l : List Nat, pW (l.map (thr k)) = (pW l).map (thr k)
  | [] => rfl
  | [_] => rfl
  | x :: y :: r => by
    have p1 : ∀ x y r, pW (x :: y :: r) = bif Nat.blt y x then y :: x :: pW r else x :: y :: pW r := fun x y r => by rw [pW]
    simp only [List.map_cons]
    rw [p1, p1, map_pW k r]
    cases h : Nat.blt y x with
    | false =>
      have h' : ¬ y < x := by rw [← Nat.blt_eq, h]; exact Bool.false_ne_true
      have := thr_le k x y (by omega)
      have h2 : Nat.blt (thr k y) (thr k x) = false := by rw [Bool.eq_false_iff, ne_eq, Nat.blt_eq]; omega
      rw [h2]; rfl
    | true =>
      have h' : y < x := by rw [← Nat.blt_eq]; exact h
      have := thr_le k y x (by omega)
      cases h2 : Nat.blt (thr k y) (thr k x) with
      | true => rfl
      | false =>
        have h3 : ¬ thr k y < thr k x := by rw [← Nat.blt_eq, h2]; exact Bool.false_ne_true
        have h4 : thr k y = thr k x := by omega
        simp [h4]
theorem map_stW (k : Nat) (b : Bool) (l : List Nat) : stW b (l.map (thr k)) = (stW b l).map (thr k) := by
  cases b with
  | false => exact map_pW k l
  | true =>
    cases l with
    | nil => rfl
    | cons x r => simp [stW, map_pW]
theorem map_runW (k : Nat) (l : List Nat) : ∀ t, runW (l.map (thr k)) t = (runW l t).map (thr k)
  | 0 => rfl
  | t + 1 => by rw [runW, map_runW k l t, map_stW, runW]
theorem up_thr : ∀ l : List Nat, (∀ x ∈ l, x < 3) → upW (l.map (thr 1)) = true → upW (l.map (thr 2)) = true → upW l = true
  | [], _, _, _ => rfl
  | [_], _, _, _ => rfl
  | x :: y :: r, h, h1, h2 => by
    have hx := h x (.head _)
    have hy := h y (.tail _ (.head _))
    simp only [List.map_cons] at h1 h2
    unfold upW at h1 h2 ⊢
    rw [Bool.and_eq_true] at h1 h2 ⊢
    refine ⟨?_, up_thr (y :: r) (fun z hz => h z (.tail _ hz)) h1.2 h2.2⟩
    have a1 := h1.1
    have a2 := h2.1
    rw [Nat.ble_eq] at a1 a2 ⊢
    match x, y, hx, hy with
    | 0, _, _, _ => exact Nat.zero_le _
    | 1, 0, _, _ => exact absurd a1 (by decide)
    | 2, 0, _, _ => exact absurd a1 (by decide)
    | 1, 1, _, _ => decide
    | 1, 2, _, _ => decide
    | 2, 1, _, _ => exact absurd a2 (by decide)
    | 2, 2, _, _ => decide
noncomputable def allB : Nat → List (List Nat)
  | 0 => [[]]
  | n + 1 => (allB n).flatMap fun l => [0 :: l, 1 :: l]
theorem mem_allB : ∀ (l : List Nat), (∀ x ∈ l, x < 2) → l ∈ allB l.length
  | [], _ => List.mem_singleton.mpr rfl
  | x :: l, h => by
    have hx := h x List.mem_cons_self
    refine List.mem_flatMap.mpr ⟨l, mem_allB l fun y hy => h y (List.mem_cons_of_mem _ hy), ?_⟩
    match x, hx with
    | 0, _ => exact .head _
    | 1, _ => exact .tail _ (.head _)
noncomputable def sortsB (n : Nat) : Bool := (allB n).all fun l => upW (runW l n)
theorem sorts_ok : sortsB 2 = true ∧ sortsB 3 = true ∧ sortsB 4 = true ∧ sortsB 5 = true ∧ sortsB 6 = true ∧ sortsB 7 = true := by decide +kernel
theorem thr_lt (k x : Nat) : thr k x < 2 := by unfold thr; cases Nat.ble k x <;> decide
theorem pW_mem : ∀ (l : List Nat) (x : Nat), x ∈ pW l → x ∈ l
  | [], _, h => h
  | [_], _, h => h
  | a :: b :: r, x, h => by
    have ih := pW_mem r x
    unfold pW at h
    cases hq : Nat.blt b a with
    | true => rw [hq] at h; simp only [cond_true, List.mem_cons] at h ⊢; rcases h with h | h | h <;> simp [h, ih]
    | false => rw [hq] at h; simp only [cond_false, List.mem_cons] at h ⊢; rcases h with h | h | h <;> simp [h, ih]
theorem sortsW (l : List Nat) (h2 : 2 ≤ l.length) (h7 : l.length ≤ 7) (h : ∀ x ∈ l, x < 3) : upW (runW l l.length) = true := by
  have key : ∀ m : List Nat, m.length = l.length → (∀ x ∈ m, x < 2) → upW (runW m l.length) = true := fun m e hm => by
    have := mem_allB m hm
    rw [e] at this
    have q : sortsB l.length = true := by
      obtain ⟨s2, s3, s4, s5, s6, s7⟩ := sorts_ok
      match l.length, h2, h7 with
      | 2, _, _ => exact s2
      | 3, _, _ => exact s3
      | 4, _, _ => exact s4
      | 5, _, _ => exact s5
      | 6, _, _ => exact s6
      | 7, _, _ => exact s7
    exact List.all_eq_true.mp q m this
  have k1 := key (l.map (thr 1)) (by simp) (by intro x hx; simp only [List.mem_map] at hx; obtain ⟨y, _, rfl⟩ := hx; exact thr_lt _ _)
  have k2 := key (l.map (thr 2)) (by simp) (by intro x hx; simp only [List.mem_map] at hx; obtain ⟨y, _, rfl⟩ := hx; exact thr_lt _ _)
  rw [map_runW] at k1 k2
  refine up_thr _ ?_ k1 k2
  have st : ∀ (b : Bool) (m : List Nat), (∀ x ∈ m, x < 3) → ∀ x ∈ stW b m, x < 3 := fun b m hm x hx => by
    cases b with
    | false => exact hm x (pW_mem _ _ hx)
    | true =>
      cases m with
      | nil => cases hx
      | cons a r =>
        simp only [stW, List.mem_cons] at hx
        rcases hx with rfl | hx
        · exact hm x (.head _)
        · exact hm x (.tail _ (pW_mem _ _ hx))
  have : ∀ t, ∀ x ∈ runW l t, x < 3 := fun t => by
    induction t with
    | zero => exact h
    | succ t ih => exact st _ _ ih
  exact this _
/-! sorted rows -/
noncomputable def Up (l : List UInt8) : Prop := l.Pairwise fun x y => wt x ≤ wt y
theorem up_of : ∀ l : List UInt8, upW (l.map wt) = true → Up l
  | [], _ => .nil
  | [_], _ => by unfold Up; simp
  | x :: y :: r, h => by
    simp only [List.map_cons] at h
    unfold upW at h
    rw [Bool.and_eq_true, Nat.ble_eq] at h
    have ih := up_of (y :: r) (by simpa using h.2)
    refine List.pairwise_cons.mpr ⟨fun z hz => ?_, ih⟩
    rcases List.mem_cons.mp hz with rfl | hz
    · exact h.1
    · exact Nat.le_trans h.1 ((List.pairwise_cons.mp ih).1 z hz)
theorem inv_up : ∀ l : List UInt8, Up l → inv l = 0
  | [], _ => rfl
  | x :: l, h => by
    obtain ⟨h1, h2⟩ := List.pairwise_cons.mp h
    rw [inv, inv_up l h2, Nat.add_zero, List.countP_eq_zero]
    intro y hy q
    have := h1 y hy
    simp at q; omega
noncomputable def byW (l : List UInt8) : List UInt8 := (List.range 3).flatMap fun v => l.filter fun x => wt x == v
theorem byW_eq (l : List UInt8) : byW l = l.filter (fun x => wt x == 0) ++ (l.filter (fun x => wt x == 1) ++ l.filter (fun x => wt x == 2)) := by
  unfold byW
  rw [show List.range 3 = [0, 1, 2] from rfl]
  simp
theorem up_byW : ∀ l : List UInt8, Up l → (∀ x ∈ l, wt x < 3) → byW l = l
  | [], _, _ => rfl
  | x :: l, h, hw => by
    obtain ⟨h1, h2⟩ := List.pairwise_cons.mp h
    have ih := up_byW l h2 fun y hy => hw y (.tail _ hy)
    have hx := hw x (.head _)
    rw [byW_eq] at ih ⊢
    have none : ∀ v, v < wt x → l.filter (fun y => wt y == v) = [] := fun v hv => by
      rw [List.filter_eq_nil_iff]
      intro y hy q
      have := h1 y hy
      simp at q; omega
    simp only [List.filter_cons]
    match e : wt x, hx with
    | 0, _ => simpa using ih
    | 1, _ =>
      have n0 := none 0 (by omega)
      rw [n0] at ih ⊢
      simpa using ih
    | 2, _ =>
      have n0 := none 0 (by omega)
      have n1 := none 1 (by omega)
      rw [n0, n1] at ih ⊢
      simpa using ih
/-- what the drawn row comes to -/
theorem run_law (l : List UInt8) (h2 : 2 ≤ l.length) (h7 : l.length ≤ 7) (hw : ∀ x ∈ l, wt x < 3) : runB l l.length = (byW l, inv l) := by
  obtain ⟨e, s⟩ := runB_len l (by omega) l.length
  have hm := map_runB l (by omega) l.length
  have hs := sortsW (l.map wt) (by simpa using h2) (by simpa using h7) (by intro x hx; simp only [List.mem_map] at hx; obtain ⟨y, hy, rfl⟩ := hx; exact hw y hy)
  rw [List.length_map, ← hm] at hs
  have hu := up_of _ hs
  have hb : byW (runB l l.length).1 = byW l := by rw [byW_eq, byW_eq, s.filt, s.filt, s.filt]
  have hmem : ∀ x ∈ (runB l l.length).1, wt x < 3 := fun x hx => by
    have : x ∈ l := by
      have : x ∈ (runB l l.length).1.filter (fun y => wt y == wt x) := List.mem_filter.mpr ⟨hx, by simp⟩
      rw [s.filt] at this
      exact (List.mem_filter.mp this).1
    exact hw x this
  rw [Prod.ext_iff]
  refine ⟨?_, ?_⟩
  · rw [← hb, up_byW _ hu hmem]
  · have := s.inv
    rw [inv_up _ hu] at this
    show _ = inv l
    omega
/-- the pairs as the law counts them -/
noncomputable def fallsL (l : List UInt8) : Nat := ((List.range l.length).flatMap fun j => (List.range j).filter fun i => decide (wt (l.getD j 0) < wt (l.getD i 0))).length
theorem filter_range_len (l : List UInt8) (x : UInt8) (y : UInt8) (j : Nat) : ((List.range (j + 1)).filter fun i => decide (wt y < wt ((x :: l).getD i 0))).length = (if wt y < wt x then 1 else 0) + ((List.range j).filter fun i => decide (wt y < wt (l.getD i 0))).length := by
  rw [List.range_succ_eq_map, List.filter_cons, List.filter_map, List.getD_cons_zero]
  by_cases h : wt y < wt x
  · simp only [h, decide_true, if_true, List.length_cons, List.length_map]
    rw [Nat.add_comm]; congr 2
  · simp only [h, decide_false, if_false, List.length_map, Nat.zero_add, Bool.false_eq_true]
    congr 1
theorem falls_sum (l : List UInt8) : fallsL l = ((List.range l.length).map fun j => ((List.range j).filter fun i => decide (wt (l.getD j 0) < wt (l.getD i 0))).length).sum := by
  unfold fallsL; rw [List.length_flatMap]
theorem countP_sum (l : List UInt8) (x : UInt8) : ((List.range l.length).map fun j => if wt (l.getD j 0) < wt x then 1 else 0).sum = l.countP fun y => wt y < wt x := by
  induction l with
  | nil => rfl
  | cons y l ih =>
    rw [List.length_cons, List.range_succ_eq_map, List.map_cons, List.sum_cons, List.map_map, List.countP_cons, ← ih, Nat.add_comm]
    simp only [List.getD_cons_zero, decide_eq_true_eq]
    congr 1
theorem sum_add (f g : Nat → Nat) : ∀ l : List Nat, (l.map fun i => f i + g i).sum = (l.map f).sum + (l.map g).sum
  | [] => rfl
  | x :: l => by simp only [List.map_cons, List.sum_cons, sum_add f g l]; omega
theorem falls_inv : ∀ l : List UInt8, fallsL l = inv l
  | [] => rfl
  | x :: l => by
    rw [falls_sum, List.length_cons, List.range_succ_eq_map, List.map_cons, List.sum_cons, List.map_map, inv, ← falls_inv l, falls_sum, ← countP_sum, ← sum_add]
    simp only [List.range_zero, List.filter_nil, List.length_nil, Nat.zero_add]
    congr 1
    refine List.map_congr_left fun j _ => ?_
    exact filter_range_len l x _ j
end Mine
end
noncomputable section
open PySem PySem.W PySem.W.X PyProof.Rows
set_option Elab.async false
set_option linter.unusedVariables false
set_option maxRecDepth 100000
namespace Mine
variable {prog : Program} {w : World} {G : Heap → Prop} {Z : Addr → Prop}
noncomputable def lawSt (P : Params) (i : Nat) : Stmt := ((lawBody P)[i]?).getD (.Pass default)
noncomputable abbrev lawEnv (P : Params) (L : Addr) : Env := callEnvC (lawFd P) L 77
theorem lawBody_eq (P : Params) : lawBody P = [lawSt P 0, lawSt P 1, lawSt P 2, lawSt P 3, lawSt P 4, lawSt P 5, lawSt P 6, lawSt P 7, lawSt P 8, lawSt P 9, lawSt P 10] := by kernel_rfl
/-- the eight numbers -/
noncomputable def filler : List Int := [29, 2, 0, 4, 5, 3, 1, 6]
noncomputable def nums (ns : List Int) : List Int := ns.take 8 ++ filler.drop (min 8 ns.length)
theorem nums_len (ns : List Int) : (nums ns).length = 8 := by
  unfold nums filler; simp; omega
theorem take_to {α : Type} (l : List α) (j : Nat) : cutL l none (some (j : Int)) = l.take j := by
  unfold cutL
  simp only [Option.elim, clipAt_nat, List.drop_zero, Nat.sub_zero]
  rcases Nat.le_total j l.length with h | h
  · rw [Nat.min_eq_left h]
  · rw [Nat.min_eq_right h, List.take_of_length_le (Nat.le_refl _), List.take_of_length_le h]
noncomputable def r0 (ns : List Int) : Rho := bindR ["script"] [.lst (ns.map D.int)] nil
noncomputable def r1 (ns : List Int) : Rho := upd (r0 ns) "numbers" (.lst ((nums ns).map D.int))
set_option maxHeartbeats 4000000 in
theorem law_st0 (W : Glob G Z) {P : Params} {L : Addr} {k : Nat} (hk : 10 ≤ k) (g1 : GV G "len" (.builtin "len")) {ns : List Int} (hz : ns.length ≤ 63) : ExS prog w G Z k (lawEnv P L) (r0 ns) (lawSt P 0) .next (r1 ns) := by
  conv in (lawSt _ _) => whnf
  have e1 : cutL (ns.map D.int) none (some 8) = (ns.take 8).map D.int := by rw [show (8 : Int) = ((8 : Nat) : Int) from rfl, take_to, List.map_take]
  have e2 : cutL (filler.map D.int) (some (((ns.take 8).map D.int).length : Int)) none = (filler.drop (min 8 ns.length)).map D.int := by
    rw [cut_from _ _ (by simp [filler]; omega), List.map_drop]; simp
  have e3 : (nums ns).map D.int = (ns.take 8).map D.int ++ (filler.drop (min 8 ns.length)).map D.int := by unfold nums; rw [List.map_append]
  unfold r1
  rw [e3]
  have h8 : ((ns.take 8).map D.int).length ≤ 8 := by simp; omega
  have cut1 : ∀ {p1 p2 p3 p4 c}, EvS prog w G Z k (lawEnv P L) (r0 ns) (.Subscript (.Name "script" p1) (.Slice none (some (.Constant (.int 8) c p2)) none p3) p4) (.lst ((ns.take 8).map D.int)) := fun {p1 p2 p3 p4 c} =>
    EvS.eq (ev_cut_list W (ev_local rfl) part_none (part_some ev_int) (by simp; omega)) (congrArg D.lst e1)
  refine ex_assign W (ev_bin W cut1 (EvS.eq (ev_cut_list (l := filler.map D.int) W (ev_list W (evs_cons W ev_int (evs_cons W ev_int (evs_cons W ev_int (evs_cons W ev_int (evs_cons W ev_int (evs_cons W ev_int (evs_cons W ev_int (evs_cons W ev_int evs_nil))))))))) (part_some (ev_call W (ev_global g1) (.inl ⟨_, rfl⟩) (evs_cons W cut1 evs_nil) (call_len_list (by omega)))) part_none (by decide)) (congrArg D.lst e2)) (bin_list ?_))
  simp [filler]; omega
noncomputable def num (ns : List Int) (i : Nat) : Int := (nums ns).getD i 0
theorem num_at (ns : List Int) {i : Nat} (h : i < 8) : ((nums ns).map D.int)[i]? = some (.int (num ns i)) := by
  have := nums_len ns
  unfold num
  rw [List.getElem?_map, List.getD_eq_getElem?_getD, List.getElem?_eq_getElem (by omega)]
  rfl
noncomputable def cN (ns : List Int) : Nat := ((num ns 0).fmod 6).toNat + 2
theorem fmod_nn (a : Int) (n : Nat) (h : 0 < n) : 0 ≤ a.fmod n ∧ a.fmod n < n := by
  rw [Int.fmod_eq_emod_of_nonneg _ (by omega)]
  exact ⟨Int.emod_nonneg _ (by omega), Int.emod_lt_of_pos _ (by omega)⟩
theorem cN_lo (ns : List Int) : 2 ≤ cN ns := by unfold cN; omega
theorem cN_hi (ns : List Int) : cN ns ≤ 7 := by
  unfold cN
  have := (fmod_nn (num ns 0) 6 (by decide)).2
  have e : ((6 : Nat) : Int) = 6 := rfl
  rw [e] at this
  omega
noncomputable def r2 (ns : List Int) : Rho := upd (r1 ns) "count" (.int (cN ns : Int))
set_option maxHeartbeats 4000000 in
theorem law_st1 (W : Glob G Z) {P : Params} {L : Addr} {k : Nat} (hk : 10 ≤ k) {ns : List Int} : ExS prog w G Z k (lawEnv P L) (r1 ns) (lawSt P 1) .next (r2 ns) := by
  conv in (lawSt _ _) => whnf
  have h := nums_len ns
  refine ex_assign W (EvS.int (ev_bin W (ev_bin W (ev_sub W (ev_cell rfl) ev_int (sub_list (by decide) (num_at ns (i := 0) (by decide)) (by rw [List.length_map]; omega))) ev_int (bin_mod (by decide))) ev_int bin_add) ?_)
  unfold cN
  have := (fmod_nn (num ns 0) 6 (by decide)).1
  have e : ((6 : Nat) : Int) = 6 := rfl
  rw [e] at this
  omega
noncomputable def bellI (ns : List Int) (k : Nat) : Int := 16 * (num ns (k + 1)).fmod 3 + k
noncomputable def bellsL (ns : List Int) : List UInt8 := ((List.range (cN ns)).map (bellI ns)).map fun n => n.toNat.toUInt8
theorem bell_in (ns : List Int) {k : Nat} (h : k < 7) : 0 ≤ bellI ns k ∧ bellI ns k < 48 := by
  unfold bellI
  have := fmod_nn (num ns (k + 1)) 3 (by decide)
  have e : ((3 : Nat) : Int) = 3 := rfl
  rw [e] at this
  omega
theorem bells_len (ns : List Int) : (bellsL ns).length = cN ns := by unfold bellsL; simp
noncomputable def r3 (ns : List Int) : Rho := upd (r2 ns) "bells" (.bytes (bellsL ns))
theorem range_at {n : Nat} {i : Nat} {e : D} (he : (items (.range 0 (n : Int) 1))[i]? = some e) : i < n ∧ e = .int (i : Int) := by
  rw [items_range0] at he
  simp only [List.getElem?_map, Option.map_eq_some_iff] at he
  obtain ⟨j', hj', rfl⟩ := he
  obtain ⟨hj, hj2⟩ := List.getElem?_eq_some_iff.mp hj'
  simp at hj hj2
  exact ⟨hj, by rw [hj2]⟩
theorem range_len {n : Nat} : (items (.range 0 (n : Int) 1)).length = n := by rw [items_range0]; simp
theorem flat_one {α β : Type} (f : α → β) : ∀ l : List α, l.flatMap (fun x => [f x]) = l.map f
  | [] => rfl
  | x :: l => by rw [List.flatMap_cons, flat_one f l]; rfl
theorem ne_loc {o : Option NameKind} {k : NameKind} (h : o = some k) (hk : (k == .local) = false) : o ≠ some .local := fun q => by
  rw [h] at q; cases q; cases hk
theorem comp_cell {l : List (Str × NameKind)} (h : l.all (fun y => y.2 != .cell) = true) : ∀ y ∈ l, y.2 ≠ .cell := fun y hy q => by
  have := List.all_eq_true.mp h y hy
  rw [q] at this; cases this
theorem comp_names {l : List (Str × NameKind)} (h : l.all (fun y => y.2 != .local || l.lookup y.1 == some .local) = true) : ∀ y ∈ l, y.2 = .local → l.lookup y.1 = some .local := fun y hy q => by
  have := List.all_eq_true.mp h y hy
  rw [q] at this
  exact eq_of_beq (by simpa using this)
set_option maxHeartbeats 4000000 in
theorem law_st2 (W : Glob G Z) {P : Params} {L : Addr} {k : Nat} (hk : 10 ≤ k) (g3 : GV G "range" (.type "range")) (g4 : GV G "bytes" (.type "bytes")) {ns : List Int} : ExS prog w G Z k (lawEnv P L) (r2 ns) (lawSt P 2) .next (r3 ns) := by
  conv in (lawSt _ _) => whnf
  have h := nums_len ns
  have h7 := cN_hi ns
  refine ex_assign W (ev_call W (ev_global g4) (.inr (.inl ⟨_, rfl⟩)) (evs_cons W (d := .lst (((List.range (cN ns)).map (bellI ns)).map D.int)) ?_ evs_nil) (call_bytes_list (ns := (List.range (cN ns)).map (bellI ns)) ?_ ?_))
  · refine ev_comp W (d := .range 0 (cN ns : Int) 1) (cl := [("numbers", L + 1)]) (ρc := upd nil "numbers" (.lst ((nums ns).map D.int))) (outs := fun i => [.int (bellI ns i)]) (b := fun _ => true) ⟨by kernel_rfl, comp_cell (by decide +kernel), rfl, comp_names (by decide +kernel), ⟨rfl, trivial⟩, ⟨(fun q => nomatch q), (fun q => nomatch q), (fun _ => rfl), trivial⟩, All.nil.upd ⟨rfl, ne_loc (k := .cell) rfl rfl, ne_loc (k := .cell) (by kernel_rfl) rfl, rfl⟩⟩ (ev_call W (ev_global g3) (.inr (.inl ⟨_, rfl⟩)) (evs_cons W (ev_local rfl) evs_nil) call_range1) (can_range1 (by omega) (by omega)) ?_ ?_ rfl ?_ (fun C i e he => tests_nil) (fun C i e he _ => ?_) (fun i q => nomatch q)
    · rw [range_len, flat_one (fun i => D.int (bellI ns i)), List.map_map]; rfl
    · simp; omega
    · kernel_rfl
    · obtain ⟨hi, rfl⟩ := range_at he
      refine .emit (EvS.int (ev_bin W (ev_bin W ev_int (ev_bin W (ev_sub W (ev_cell rfl) (ev_bin W (ev_local rfl) ev_int bin_add) (sub_list (i := (i : Int) + 1) (by omega) (num_at ns (i := i + 1) (by omega)) (by rw [List.length_map]; omega))) ev_int (bin_mod (by decide))) (bin_mul (.of_left (by decide)))) (ev_local rfl) bin_add) ?_)
      rfl
  · intro n hn
    simp only [List.mem_map, List.mem_range] at hn
    obtain ⟨k, hk, rfl⟩ := hn
    have := bell_in ns (k := k) (by omega)
    omega
  · simp; omega
end Mine
end
noncomputable section
open PySem PySem.W PySem.W.X PyProof.Rows
set_option Elab.async false
set_option linter.unusedVariables false
set_option maxRecDepth 100000
namespace Mine
variable {prog : Program} {w : World} {G : Heap → Prop} {Z : Addr → Prop}
noncomputable def rowsD (b : List UInt8) (i : Nat) : D := .lst (((List.range (i + 1)).map (huntN b)).map D.bytes)
theorem lam3_names {P : Params} {pm cd ct : Value} : (lamFd P 3 [] pm cd ct).scope.names = [(Str.ofString "told", .local), (Str.ofString "turn", .local), (Str.ofString "_law_hunt", .globalImplicit)] ∧ (lamFd P 3 [] pm cd ct).closure = [] ∧ (lamFd P 3 [] pm cd ct).scope.isCoroutine = false ∧ (lamFd P 3 [] pm cd ct).scope.isGenerator = false ∧ (lamFd P 3 [] pm cd ct).scope.kind = .function ∧ (lamFd P 3 [] pm cd ct).code = cd ∧ (lamFd P 3 [] pm cd ct).qualname = Str.ofString "law.<locals>.<lambda>" :=
  ⟨by kernel_rfl, by kernel_rfl, by kernel_rfl, by kernel_rfl, by kernel_rfl, by kernel_rfl, by kernel_rfl⟩
theorem lam3_bind {P : Params} {pm cd ct a b : Value} : bindArgs (lamFd P 3 [] pm cd ct) ⟨[a, b], []⟩ = pure ((["told", "turn"] : List Str).zip [a, b]) := by kernel_rfl
set_option maxHeartbeats 4000000 in
theorem lam3_call (W : Glob G Z) {P : Params} {a c : Addr} {pm ct : Value} (hf : ∀ h, G h → h.get? a = some (fnObj (lamFd P 3 [] pm (.ref c) ct)) ∧ CodeK h c (Str.ofString "law.<locals>.<lambda>"))
    (g1 : GV G "_law_hunt" (.ref 44)) (c1 : Callee G (.ref 44)) (Hh : ∀ {b : List UInt8} {t : Nat}, 1 ≤ b.length → b.length ≤ 1000 → t < 10000 → CallS prog w G 551 (.ref 44) [.bytes b, .int (t : Int)] (.bytes (huntL b t)))
    {b : List UInt8} (h1 : 1 ≤ b.length) (h2 : b.length ≤ 7) {i : Nat} (hi : i < 14) : CallS prog w G 561 (.ref a) [rowsD b i, .int (i : Int)] (rowsD b (i + 1)) := by
  have key : ∀ h, G h → ∃ o, h.get? a = some o ∧ o.data = .func (lamFd P 3 [] pm (.ref c) ct) ∧ h.CodeRec (lamFd P 3 [] pm (.ref c) ct).code (lamFd P 3 [] pm (.ref c) ct).qualname := fun h hg => by
    refine ⟨_, (hf h hg).1, rfl, ?_⟩
    rw [lam3_names.2.2.2.2.2.1, lam3_names.2.2.2.2.2.2]
    exact (hf h hg).2.cr
  obtain ⟨e1, e2, e3, e4, e5, -⟩ := @lam3_names P pm (.ref c) ct
  refine call_clo (k := 560) (ρ₀ := nil) (names := ["told", "turn"]) W ⟨key, (fun y d q => nomatch q), ?_⟩ ?_ ?_ ?_ (fun L hL => ?_) e3 e4 e5
  · intro x y c hx; rw [e2] at hx; cases hx
  · intro A s vs _ hv
    obtain ⟨a, b, rfl⟩ := len2 hv
    rw [lam3_bind]; exact wpAny_pure ⟨rfl, rfl⟩
  · intro x hx
    rw [e1]
    simp at hx
    rcases hx with rfl | rfl <;> rfl
  · intro x hx
    rw [e1] at hx
    simp at hx
    rcases hx with rfl | rfl | rfl <;> exact fun q => nomatch q
  conv in (lamFd _ _ _ _ _ _) => whnf
  conv in (lamFd _ _ _ _ _ _) => whnf
  have ll : (((List.range (i + 1)).map (huntN b)).map D.bytes).length = i + 1 := by simp
  have e : rowsD b (i + 1) = .lst (((List.range (i + 1)).map (huntN b)).map D.bytes ++ [.bytes (huntL (huntN b i) i)]) := by
    unfold rowsD
    rw [List.range_succ (n := i + 1), List.map_append, List.map_append]
    rfl
  rw [e]
  have hl := huntN_length b h1 i
  refine ev_bin W (ev_local rfl) (ev_list W (evs_cons W (ev_call W (ev_global g1) c1 (evs_cons W (ev_sub W (ev_local rfl) (ev_neg W ev_int) (sub_list_neg (d := .bytes (huntN b i)) (by decide) (by rw [ll]; omega) ?_ (by rw [ll]; omega))) (evs_cons W (ev_local rfl) evs_nil)) (Hh (by omega) (by omega) (by omega))) evs_nil)) (bin_list (by rw [ll]; simp; omega))
  rw [ll, show ((-1 : Int) + ((i + 1 : Nat) : Int)).toNat = i by omega]
  simp
end Mine
end
noncomputable section
open PySem PySem.W PySem.W.X PyProof.Rows
set_option Elab.async false
set_option linter.unusedVariables false
set_option maxRecDepth 100000
namespace Mine
variable {prog : Program} {w : World} {G : Heap → Prop} {Z : Addr → Prop}
noncomputable def FnOk (G : Heap → Prop) (a : Addr) (fd : FuncData) : Prop := ∀ h, G h → ∃ o, h.get? a = some o ∧ o.data = .func fd ∧ h.CodeRec fd.code fd.qualname
theorem FnOk.weaken {G' : Heap → Prop} {a fd} (x : FnOk G a fd) (hg : ∀ h, G' h → G h) : FnOk G' a fd := fun h q => x h (hg h q)
theorem FnOk.callee {a fd} (x : FnOk G a fd) : Callee G (.ref a) := .inr (.inr ⟨a, rfl, fun h hg => let ⟨o, e, d, _⟩ := x h hg; ⟨o, e, .inl ⟨_, d⟩⟩⟩)
theorem GV.weaken {G' : Heap → Prop} {x v} (q : GV G x v) (hg : ∀ h, G' h → G h) : GV G' x v := fun h e => q h (hg h e)
theorem TopOk.weaken {G' : Heap → Prop} {c p} (q : TopOk G c p) (hg : ∀ h, G' h → G h) : TopOk G' c p :=
  ⟨fun h e => q.main h (hg h e), fun h e => q.bcls h (hg h e), fun h e => q.stat h (hg h e), fun h e => q.code h (hg h e), q.nP, fun h e => q.sysm h (hg h e)⟩
/-- what the law of 02 knows of the top -/
structure Top02 (P : Params) (G : Heap → Prop) : Prop where
  f21 : FnOk G 21 (fnOf (hd02.heap_39 P) 21)
  f30 : FnOk G 30 (fnOf (hd02.heap_39 P) 30)
  f37 : FnOk G 37 (fnOf (hd02.heap_39 P) 37)
  f44 : FnOk G 44 (fnOf (hd02.heap_39 P) 44)
  f51 : FnOk G 51 (fnOf (hd02.heap_39 P) 51)
  f58 : FnOk G 58 (fnOf (hd02.heap_39 P) 58)
  f65 : FnOk G 65 (fnOf (hd02.heap_39 P) 65)
  f72 : FnOk G 72 (fnOf (hd02.heap_39 P) 72)
  f77 : FnOk G 77 (fnOf (hd02.heap_39 P) 77)
  g_len : GV G "len" (.builtin "len")
  g_iter : GV G "iter" (.builtin "iter")
  g_miss : GV G "_initial_missing" (.ref 22)
  g_ba : GV G "bytearray" (.type "bytearray")
  g_range : GV G "range" (.type "range")
  g_bytes : GV G "bytes" (.type "bytes")
  g_obj : GV G "object" (.type "object")
  g_swap : GV G "_byteswap" (.ref 37)
  g_hunt : GV G "_law_hunt" (.ref 44)
  g_seat : GV G "_law_seat" (.ref 51)
  g_rung : GV G "_law_rung" (.ref 58)
  g_heavy : GV G "_law_heavier" (.ref 65)
  g_part : GV G "_law_part" (.ref 72)
  g_red : GV G "reduce" (.ref 30)
  g_cmp : GV G "cmp_to_key" (.ref 21)
  miss : ∀ h, G h → ∃ o, h.get? 22 = some o ∧ o.cls = .type "object"
  dflt : ∀ h, G h → ∃ o dv n, h.get? 23 = some o ∧ o.data = .seq #[dv] n
  top1 : TopOk G 20 16
  top2 : TopOk G 76 74
  sub : ∀ h, G h → (kSub P).In h
theorem Top02.weaken {P : Params} {G' : Heap → Prop} (T : Top02 P G) (hg : ∀ h, G' h → G h) : Top02 P G' :=
  ⟨T.f21.weaken hg, T.f30.weaken hg, T.f37.weaken hg, T.f44.weaken hg, T.f51.weaken hg, T.f58.weaken hg, T.f65.weaken hg, T.f72.weaken hg, T.f77.weaken hg,
   T.g_len.weaken hg, T.g_iter.weaken hg, T.g_miss.weaken hg, T.g_ba.weaken hg, T.g_range.weaken hg, T.g_bytes.weaken hg, T.g_obj.weaken hg, T.g_swap.weaken hg, T.g_hunt.weaken hg, T.g_seat.weaken hg, T.g_rung.weaken hg, T.g_heavy.weaken hg, T.g_part.weaken hg, T.g_red.weaken hg, T.g_cmp.weaken hg,
   fun h e => T.miss h (hg h e), fun h e => T.dflt h (hg h e), T.top1.weaken hg, T.top2.weaken hg, fun h e => T.sub h (hg h e)⟩
section
variable {P : Params} (W : Glob G Z) (T : Top02 P G)
include W T
theorem Top02.swap {data : List UInt8} {wd m : Nat} (hw : 1 ≤ wd) (hw2 : wd ≤ 1000) (hm : data.length = m * wd) (hz : data.length ≤ 1000) : CallS prog w G 541 (.ref 37) [.bytes data, .int (wd : Int)] (.bytes (Bo wd data m).toList) :=
  byteswap_call W P T.f37 T.g_len T.g_ba T.g_range T.g_bytes hw hw2 hm hz
theorem Top02.swap2 {data : List UInt8} {m : Nat} (hm : data.length = m * 2) (hz : data.length ≤ 1000) : CallS prog w G 541 (.ref 37) [.bytes data, .int 2] (.bytes (Bo 2 data m).toList) :=
  T.swap W (wd := 2) (by decide) (by decide) hm hz
theorem Top02.hunt {b : List UInt8} {t : Nat} (h1 : 1 ≤ b.length) (h2 : b.length ≤ 1000) (ht : t < 10000) : CallS prog w G 551 (.ref 44) [.bytes b, .int (t : Int)] (.bytes (huntL b t)) :=
  hunt_call W P T.f44 T.g_len T.g_swap T.f37.callee (T.swap2 W) h1 h2 ht
theorem Top02.rung {b : List UInt8} {t : Nat} (hz : b.length ≤ 1000) : CallS prog w G 21 (.ref 58) [.bytes b, .int (t : Int)] (.bytes (rungL b t)) :=
  rung_call W P T.f58 T.g_len T.g_range T.g_bytes T.g_seat T.f51.callee (fun hi hc => seat_call W P T.f51 hi hc) hz
end
theorem red_params (P : Params) : (fnOf (hd02.heap_39 P) 30).defaults = .ref 23 ∧ ∃ p1 p2 p3 df, (fnOf (hd02.heap_39 P) 30).params = { posonlyargs := [], args := [argN "function" p1, argN "sequence" p2, argN "initial" p3], vararg := none, kwonlyargs := [], kw_defaults := [], kwarg := none, defaults := df } := ⟨by kernel_rfl, ⟨28, 11, 28, 19⟩, ⟨28, 21, 28, 29⟩, ⟨28, 31, 28, 38⟩, [.Name "_initial_missing" ⟨28, 39, 28, 55⟩], by kernel_rfl⟩
theorem Top02.red_bind {P : Params} (T : Top02 P G) (A : Around) (s : Shared) (vs : List Value) (hg : G s.heap) (hv : vs.length = 3) : wpAny (model prog w) A (bindArgs (fnOf (hd02.heap_39 P) 30) ⟨vs, []⟩) (fun b s' => b = (["function", "sequence", "initial"] : List Str).zip vs ∧ s' = s) noE s := by
  obtain ⟨hd, p1, p2, p3, df, hp⟩ := red_params P
  obtain ⟨o, dv, n, e, ho⟩ := T.dflt s.heap hg
  obtain ⟨a, b, c, rfl⟩ := len3 hv
  exact bind3 hp hd e ho ⟨rfl, rfl⟩
theorem Top02.reduce (W : Glob G Z) {P : Params} (T : Top02 P G) {f : Value} (cf : Callee G f) {d : D} {acc : Nat → D} {N k : Nat} (hc : CanIter d) (hN : (items d).length = N) (h0 : (∃ l, acc 0 = .lst l) ∨ (∃ l, acc 0 = .tup l) ∨ ∃ b, acc 0 = .bytes b)
    (hs : ∀ i e, (items d)[i]? = some e → CallS prog w G k f [acc i, e] (acc (i + 1))) : CallS prog w G (k + 5) (.ref 30) [.val f, d, acc 0] (acc N) :=
  reduce_call W P T.f30 (fun A s vs hg hv => T.red_bind A s vs hg hv) T.g_iter T.g_miss T.miss cf hc hN h0 hs
end Mine
end
noncomputable section
open PySem PySem.W PySem.W.X PyProof.Rows
set_option Elab.async false
set_option linter.unusedVariables false
set_option maxRecDepth 100000
namespace Mine
variable {prog : Program} {w : World} {G : Heap → Prop} {Z : Addr → Prop}
noncomputable def r4 (ns : List Int) : Rho := upd (r3 ns) "rows" (rowsD (bellsL ns) (2 * cN ns))
noncomputable def OO : Addr → Prop := fun b => b = 16 ∨ b = 74
theorem law_qual {P : Params} {L : Addr} : (lawEnv P L).qual ++ "<lambda>" = Str.ofString "law.<locals>.<lambda>" := by kernel_rfl
set_option maxHeartbeats 4000000 in
theorem law_st3 (W : Glob G Z) {P : Params} (T : Top02 P G) {L : Addr} {k : Nat} (hk : 570 ≤ k) {ns : List Int} (hpZ : ¬ Z 74) {Pq : Heap → Prop} (hP : ∀ h h', Grow (fun b => b = 74) h h' → Pq h → Pq h') (hP2 : Stab OO Pq) :
    ExO prog w G Z k (lawEnv P L) OO (fun h => TB 74 [] h ∧ Pq h) (r3 ns) (lawSt P 3) .next (r4 ns) (fun h => TB 74 [(84, 18)] h ∧ Pq h) := by
  conv in (lawSt _ _) => whnf
  have hb := bells_len ns
  have h2 := cN_lo ns
  have h7 := cN_hi ns
  refine exO_lam W (j := 566) (c := 76) (p := 74) (ds := [.range 0 ((2 * cN ns : Nat) : Int) 1, rowsD (bellsL ns) 0]) (clos := []) T.top2 (.inr rfl) hpZ (ev_global T.g_red) ⟨_, rfl, fun h hg => let ⟨o, e, d, _⟩ := T.f30 h hg; ⟨o, _, e, d⟩⟩ (by kernel_rfl) rfl (by kernel_rfl) rfl (by decide) ?_ hP hP2 ?_ (by omega) (.inl rfl) rfl rfl rfl rfl rfl
  · refine evs_cons W (ev_call W (ev_global T.g_range) (.inr (.inl ⟨_, rfl⟩)) (evs_cons W (EvS.int (ev_bin W ev_int (ev_local rfl) (bin_mul (.of_left (by decide)))) (by omega)) evs_nil) call_range1) (evs_cons W (ev_list W (evs_cons W (ev_cell rfl) evs_nil)) evs_nil)
  · intro h₂ X a pm c' ct F ha hc
    rw [law_qual] at hc
    have W' := W.freeze no h₂
    have T' := T.weaken (G' := fun h' => G h' ∧ Le h₂ h') fun h q => q.1
    have ha' : h₂.get? a = some (fnObj (lamFd P 3 [] pm (.ref c') ct)) := ha.trans (by kernel_rfl)
    have hf : ∀ h, G h ∧ Le h₂ h → h.get? a = some (fnObj (lamFd P 3 [] pm (.ref c') ct)) ∧ CodeK h c' (Str.ofString "law.<locals>.<lambda>") := fun h q => ⟨q.2.old _ _ (fun q => q) ha', hc.keeps fun b ob e => q.2.old _ _ (fun q => q) e⟩
    refine T'.reduce W' (acc := rowsD (bellsL ns)) (.inr (.inr ⟨a, rfl, fun h q => ⟨_, (hf h q).1, .inl ⟨_, rfl⟩⟩⟩)) (can_range1 (by omega) (by omega)) range_len (.inl ⟨_, rfl⟩) fun i e he => ?_
    obtain ⟨hi, rfl⟩ := range_at he
    exact lam3_call W' hf T'.g_hunt T'.f44.callee (T'.hunt W') (by omega) (by omega) (by omega)
theorem rows_law (b : List UInt8) (h2 : 2 ≤ b.length) (h7 : b.length ≤ 7) : ((List.range (2 * b.length + 1)).map (huntN b) != (List.range (2 * b.length + 1)).map (fun t => rungL b t)) = false ∧ (huntN b b.length != (Bo b.length b 1).toList) = false := by
  obtain ⟨h1, h3⟩ := rows_ok b h2 h7
  refine ⟨?_, ?_⟩
  · rw [h1, bne_eq_false_iff_eq]
    exact List.map_congr_left fun t _ => (rungL_eq b t).symm
  · rw [h3, bne_eq_false_iff_eq]
theorem rows_at {f : Nat → List UInt8} {n i : Nat} (h : i < n) : (((List.range n).map f).map D.bytes)[i]? = some (.bytes (f i)) := by
  rw [List.getElem?_map, List.getElem?_map, List.getElem?_range h]; rfl
set_option maxHeartbeats 4000000 in
theorem law_st4 (W : Glob G Z) {P : Params} (T : Top02 P G) {L : Addr} {k : Nat} (hk : 570 ≤ k) {ns : List Int} : ExS prog w G Z k (lawEnv P L) (r4 ns) (lawSt P 4) .next (r4 ns) := by
  conv in (lawSt _ _) => whnf
  have hb := bells_len ns
  have h2 := cN_lo ns
  have h7 := cN_hi ns
  obtain ⟨e1, e2⟩ := rows_law (bellsL ns) (by omega) (by omega)
  rw [hb] at e1 e2
  refine ex_if W (b := false) (test_or W (b := false) (c := false) (test_eq (test_cmp W (ev_local rfl) (ev_comp W (d := .range 0 ((2 * cN ns + 1 : Nat) : Int) 1) (cl := [("bells", L + 2)]) (ρc := upd nil "bells" (.bytes (bellsL ns))) (out := ((List.range (2 * cN ns + 1)).map (fun t => rungL (bellsL ns) t)).map D.bytes) (outs := fun i => [.bytes (rungL (bellsL ns) i)]) (b := fun _ => true) ⟨by kernel_rfl, comp_cell (by decide +kernel), rfl, comp_names (by decide +kernel), ⟨rfl, trivial⟩, ⟨(fun q => nomatch q), (fun q => nomatch q), (fun q => nomatch q), (fun _ => rfl), trivial⟩, All.nil.upd ⟨rfl, ne_loc (k := .cell) rfl rfl, ne_loc (k := .cell) (by kernel_rfl) rfl, rfl⟩⟩
    (ev_call W (ev_global T.g_range) (.inr (.inl ⟨_, rfl⟩)) (evs_cons W (EvS.int (ev_bin W (ev_bin W ev_int (ev_local rfl) (bin_mul (.of_left (by decide)))) ev_int bin_add) (by omega)) evs_nil) call_range1) (can_range1 (by omega) (by omega)) ?_ ?_ rfl (by kernel_rfl) (fun C i e he => tests_nil) (fun C i e he _ => ?_) (fun i q => nomatch q)) cmp_ne_rows) e1)
    (fun _ => test_eq (test_cmp W (ev_sub W (ev_local rfl) (ev_local rfl) (sub_list (d := .bytes (huntN (bellsL ns) (cN ns))) (by omega) ?_ ?_)) (ev_call W (ev_global T.g_swap) T.f37.callee (evs_cons W (ev_cell rfl) (evs_cons W (ev_local rfl) evs_nil)) (T.swap W (m := 1) (by omega) (by omega) (by omega) (by omega))) cmp_ne_bytes) e2)) (fun q => nomatch q) (fun _ => exs_nil)
  · rw [range_len, flat_one (fun i => D.bytes (rungL (bellsL ns) i)), List.map_map]; rfl
  · simp; omega
  · obtain ⟨hi, rfl⟩ := range_at he
    exact .emit (ev_call W (ev_global T.g_rung) T.f58.callee (evs_cons W (ev_cell rfl) (evs_cons W (ev_local rfl) evs_nil)) (T.rung W (by omega)))
  · rw [show ((cN ns : Nat) : Int).toNat = cN ns by omega]
    exact rows_at (by omega)
  · simp; omega
noncomputable def dI (ns : List Int) : Nat := (((num ns 0).fdiv 6).fmod ((2 * cN ns + 1 : Nat) : Int)).toNat
theorem dI_lt (ns : List Int) : dI ns < 2 * cN ns + 1 ∧ (dI ns : Int) = ((num ns 0).fdiv 6).fmod ((2 * cN ns + 1 : Nat) : Int) := by
  have := fmod_nn ((num ns 0).fdiv 6) (2 * cN ns + 1) (by omega)
  unfold dI
  omega
noncomputable def drawnL (ns : List Int) : List UInt8 := huntN (bellsL ns) (dI ns)
noncomputable def r5 (ns : List Int) : Rho := upd (r4 ns) "drawn" (.bytes (drawnL ns))
set_option maxHeartbeats 4000000 in
theorem law_st5 (W : Glob G Z) {P : Params} (T : Top02 P G) {L : Addr} {k : Nat} (hk : 570 ≤ k) {ns : List Int} : ExS prog w G Z k (lawEnv P L) (r4 ns) (lawSt P 5) .next (r5 ns) := by
  conv in (lawSt _ _) => whnf
  have h := nums_len ns
  have h7 := cN_hi ns
  obtain ⟨h1, h2⟩ := dI_lt ns
  refine ex_assign W (ev_sub W (ev_local rfl) (EvS.int (j := (dI ns : Int)) (ev_bin W (ev_bin W (ev_sub W (ev_cell rfl) ev_int (sub_list (by decide) (num_at ns (i := 0) (by decide)) (by rw [List.length_map]; omega))) ev_int (bin_div (by decide) (by decide))) (EvS.int (j := ((2 * cN ns + 1 : Nat) : Int)) (ev_bin W (ev_bin W ev_int (ev_local rfl) (bin_mul (.of_left (by decide)))) ev_int bin_add) (by omega)) (bin_mod (by omega))) h2.symm) (sub_list (d := .bytes (drawnL ns)) (by omega) ?_ (by simp; omega)))
  rw [show ((dI ns : Nat) : Int).toNat = dI ns by omega]
  exact rows_at (by omega)
end Mine
end
noncomputable section
open PySem PySem.W PySem.W.X PyProof.Rows
set_option Elab.async false
set_option linter.unusedVariables false
set_option maxRecDepth 100000
namespace Mine
variable {prog : Program} {w : World} {G : Heap → Prop} {Z : Addr → Prop}
/-- the keys at hand: all that is known once the class is made and all is frozen -/
theorem keys_at (W : Glob G Z) (T : Top02 w.params G) {h₀ : Heap} {C f c : Addr} {pm ct : Value} (fr : ∀ h, G h → Le h₀ h) (K : KC w.params h₀ C (.ref f)) (ha : h₀.get? f = some (fnObj (lamFd w.params 6 [] pm (.ref c) ct))) (hc : CodeK h₀ c (Str.ofString "law.<locals>.<lambda>")) :
    Callee G (.ref C) ∧ (∀ {d : D}, CallS prog w G 49 (.ref C) [d] (.key C d)) ∧ ∀ {x y how : Int}, CallS prog w G 61 (.ref 65) [.key C (.int x), .key C (.int y), .int how] (.bool (decide (y.fdiv 16 < x.fdiv 16))) := by
  have hf : ∀ h, G h → h.get? f = some (fnObj (lamFd w.params 6 [] pm (.ref c) ct)) ∧ CodeK h c (Str.ofString "law.<locals>.<lambda>") := fun h q => ⟨(fr h q).old _ _ (fun q => q) ha, hc.keeps fun b ob e => (fr h q).old _ _ (fun q => q) e⟩
  have cf : Callee G (.ref f) := .inr (.inr ⟨f, rfl, fun h q => ⟨_, (hf h q).1, .inl ⟨_, rfl⟩⟩⟩)
  have cC : Callee G (.ref C) := .inr (.inr ⟨C, rfl, fun h q => by
    obtain ⟨N, D, cel, bT, sl, st, hs, ts, fs, cs, pm, k1, k2, t0, t1, t2, t3, hC, -⟩ := K
    exact ⟨_, (fr h q).old _ _ (fun q => q) hC, .inr ⟨_, rfl, rfl⟩⟩⟩)
  refine ⟨cC, fun {d} => key_new fr K T.top1.stat, fun {x y how} => ?_⟩
  have hi : ∀ (x : Int) h X v, Rep h X (.int x) v → handedOut v = pure v := by rintro x h X v ⟨t, rfl⟩; rfl
  have cmp : ∀ i, (i = 5 ∨ i = 6 ∨ i = 8 ∨ i = 9) → ∀ x y : Int, CmpK prog w G 56 (opOf i) (.key C (.int x)) (.key C (.int y)) (saysOf i (3 * (x.fdiv 16 - y.fdiv 16))) := fun i hi' x y => key_cmp W fr K cf hi' (lam6_call W hf) (hi x) (hi y)
  have e6 : saysOf 6 (3 * (x.fdiv 16 - y.fdiv 16)) = decide (y.fdiv 16 < x.fdiv 16) := by show decide _ = _; rw [decide_eq_decide]; omega
  have e5 : saysOf 5 (3 * (y.fdiv 16 - x.fdiv 16)) = decide (y.fdiv 16 < x.fdiv 16) := by show decide _ = _; rw [decide_eq_decide]; omega
  have e8 : saysOf 8 (3 * (x.fdiv 16 - y.fdiv 16)) = !decide (y.fdiv 16 < x.fdiv 16) := by show decide _ = _; rw [← decide_not, decide_eq_decide]; omega
  have e9 : saysOf 9 (3 * (y.fdiv 16 - x.fdiv 16)) = !decide (y.fdiv 16 < x.fdiv 16) := by show decide _ = _; rw [← decide_not, decide_eq_decide]; omega
  refine heavier_call W w.params T.f65 (j := 56) ?_ ?_ ?_ ?_
  · exact e6 ▸ cmp 6 (by decide) x y
  · exact e5 ▸ cmp 5 (by decide) y x
  · exact e8 ▸ cmp 8 (by decide) x y
  · exact e9 ▸ cmp 9 (by decide) y x
theorem lam7_names {P : Params} {cl : List (Str × Addr)} {pm cd ct : Value} : (lamFd P 7 cl pm cd ct).scope.names = [(Str.ofString "told", .local), (Str.ofString "turn", .local), (Str.ofString "key", .free), (Str.ofString "_law_part", .globalImplicit)] ∧ (lamFd P 7 cl pm cd ct).closure = cl ∧ (lamFd P 7 cl pm cd ct).scope.isCoroutine = false ∧ (lamFd P 7 cl pm cd ct).scope.isGenerator = false ∧ (lamFd P 7 cl pm cd ct).scope.kind = .function ∧ (lamFd P 7 cl pm cd ct).code = cd ∧ (lamFd P 7 cl pm cd ct).qualname = Str.ofString "law.<locals>.<lambda>" :=
  ⟨by kernel_rfl, by kernel_rfl, by kernel_rfl, by kernel_rfl, by kernel_rfl, by kernel_rfl, by kernel_rfl⟩
theorem lam7_bind {P : Params} {cl : List (Str × Addr)} {pm cd ct a b : Value} : bindArgs (lamFd P 7 cl pm cd ct) ⟨[a, b], []⟩ = pure ((["told", "turn"] : List Str).zip [a, b]) := by kernel_rfl
noncomputable def partD (l : List UInt8) (i : Nat) : D := .tup [.bytes (runB l i).1, .int ((runB l i).2 : Int)]
set_option maxHeartbeats 4000000 in
theorem lam7_call (W : Glob G Z) {P : Params} {a c C K : Addr} {pm ct : Value} (hf : ∀ h, G h → h.get? a = some (fnObj (lamFd P 7 [("key", K)] pm (.ref c) ct)) ∧ CodeK h c (Str.ofString "law.<locals>.<lambda>"))
    (hK : ∀ h, G h → h.IsCell K (some (.ref C)))
    (g1 : GV G "_law_part" (.ref 72)) (c1 : Callee G (.ref 72)) (Hp : ∀ {row : List UInt8} {m : Int} {t : Nat}, 2 ≤ row.length → row.length ≤ 1000 → CallS prog w G 571 (.ref 72) [.tup [.bytes row, .int m], .int (t : Int), .val (.ref C)] (.tup [.bytes (partL row t), .int (m + (partC row t : Int))]))
    {l : List UInt8} (h1 : 2 ≤ l.length) (h2 : l.length ≤ 7) {i : Nat} : CallS prog w G 581 (.ref a) [partD l i, .int (i : Int)] (partD l (i + 1)) := by
  have key : ∀ h, G h → ∃ o, h.get? a = some o ∧ o.data = .func (lamFd P 7 [("key", K)] pm (.ref c) ct) ∧ h.CodeRec (lamFd P 7 [("key", K)] pm (.ref c) ct).code (lamFd P 7 [("key", K)] pm (.ref c) ct).qualname := fun h hg => by
    refine ⟨_, (hf h hg).1, rfl, ?_⟩
    rw [lam7_names.2.2.2.2.2.1, lam7_names.2.2.2.2.2.2]
    exact (hf h hg).2.cr
  obtain ⟨e1, e2, e3, e4, e5, -⟩ := @lam7_names P [("key", K)] pm (.ref c) ct
  refine call_clo (k := 580) (ρ₀ := upd nil "key" (.val (.ref C))) (names := ["told", "turn"]) W ⟨key, ?_, ?_⟩ ?_ ?_ ?_ (fun L hL => ?_) e3 e4 e5
  · refine All.nil.upd ⟨?_, K, ?_, fun h X hg _ => ⟨_, hK h hg, rfl⟩⟩
    · rw [e1]; exact fun q => nomatch q
    · rw [e2]; rfl
  · intro x y c hx hy
    rw [e2, List.lookup_cons] at hx hy
    cases h1 : x == "key" with
    | false => rw [h1] at hx; cases hx
    | true =>
      cases h2 : y == "key" with
      | false => rw [h2] at hy; cases hy
      | true => rw [eq_of_beq h1, eq_of_beq h2]
  · intro A s vs _ hv
    obtain ⟨a, b, rfl⟩ := len2 hv
    rw [lam7_bind]; exact wpAny_pure ⟨rfl, rfl⟩
  · intro x hx
    rw [e1]
    simp at hx
    rcases hx with rfl | rfl <;> rfl
  · intro x hx
    rw [e1] at hx
    simp at hx
    rcases hx with rfl | rfl | rfl | rfl <;> exact fun q => nomatch q
  conv in (lamFd _ _ _ _ _ _) => whnf
  conv in (lamFd _ _ _ _ _ _) => whnf
  obtain ⟨hl, -⟩ := runB_len l (by omega) i
  exact ev_call W (ev_global g1) c1 (evs_cons W (ev_local rfl) (evs_cons W (ev_local rfl) (evs_cons W (ev_free rfl) evs_nil))) (Hp (by omega) (by omega))
end Mine
end
noncomputable section
open PySem PySem.W PySem.W.X PyProof.Rows
set_option Elab.async false
set_option linter.unusedVariables false
set_option maxRecDepth 100000
namespace Mine
variable {prog : Program} {w : World} {G : Heap → Prop} {Z : Addr → Prop}
noncomputable def r6 (ns : List Int) (C : Addr) : Rho := upd (r5 ns) "key" (.val (.ref C))
noncomputable def r7 (ns : List Int) (C : Addr) : Rho := upd (r6 ns C) "came" (partD (drawnL ns) (cN ns))
theorem drawn_len (ns : List Int) : (drawnL ns).length = cN ns := by
  unfold drawnL
  rw [huntN_length _ (by rw [bells_len]; have := cN_lo ns; omega), bells_len]
set_option maxHeartbeats 4000000 in
theorem law_st7 (W : Glob G Z) (T : Top02 w.params G) {L : Addr} {k : Nat} (hk : 591 ≤ k) {ns : List Int} {C f c : Addr} {pm ct : Value} {h₂ : Heap} (ha : h₂.get? f = some (fnObj (lamFd w.params 6 [] pm (.ref c) ct))) (hc : CodeK h₂ c (Str.ofString "law.<locals>.<lambda>"))
    (K : KCz (EO (lawEnv w.params L) OO) w.params h₂ C (.ref f)) (S : Soft h₂ (EO (lawEnv w.params L) OO)) (hpZ : ¬ Z 74) {Pq : Heap → Prop} (hP : ∀ h h', Grow (fun b => b = 74) h h' → Pq h → Pq h') (hP2 : Stab OO Pq) :
    ExO prog w (Gz G (lawEnv w.params L) OO h₂) (Zz Z (lawEnv w.params L) OO h₂) k (lawEnv w.params L) OO (fun h => TB 74 [(88, 21), (84, 18)] h ∧ Pq h) (r6 ns C) (lawSt w.params 7) .next (r7 ns C) (fun h => TB 74 [(89, 18), (88, 21), (84, 18)] h ∧ Pq h) := by
  conv in (lawSt _ _) => whnf
  have hb := drawn_len ns
  have h2 := cN_lo ns
  have h7 := cN_hi ns
  have W1 : Glob (Gz G (lawEnv w.params L) OO h₂) (Zz Z (lawEnv w.params L) OO h₂) := W.freeze (EO (lawEnv w.params L) OO) h₂
  have T1 := T.weaken (G' := Gz G (lawEnv w.params L) OO h₂) fun h q => q.1
  refine exO_lam W1 (j := 586) (c := 76) (p := 74) (ds := [.range 0 (cN ns : Int) 1, partD (drawnL ns) 0]) (clos := [("key", L + 4)]) T1.top2 (.inr rfl) (fun q => q.elim hpZ fun q => q.2 (.inr (.inr rfl))) (ev_global T1.g_red) ⟨_, rfl, fun h hg => let ⟨o, e, d, _⟩ := T1.f30 h hg; ⟨o, _, e, d⟩⟩ (by kernel_rfl) rfl (by kernel_rfl) rfl (by decide) ?_ hP hP2 ?_ (by omega) (.inl rfl) rfl rfl rfl rfl rfl
  · refine evs_cons W1 (ev_call W1 (ev_global T1.g_range) (.inr (.inl ⟨_, rfl⟩)) (evs_cons W1 (ev_local rfl) evs_nil) call_range1) (evs_cons W1 (EvS.eq (ev_tuple W1 (evs_cons W1 (ev_cell rfl) (evs_cons W1 ev_int evs_nil))) rfl) evs_nil)
  · intro h₃ X a pm' c' ct' F ha3 hc3
    rw [law_qual] at hc3
    have W' := W1.freeze no h₃
    have T' := T1.weaken (G' := fun h' => Gz G (lawEnv w.params L) OO h₂ h' ∧ Le h₃ h') fun h q => q.1
    have ha' : h₃.get? a = some (fnObj (lamFd w.params 7 [("key", L + 4)] pm' (.ref c') ct')) := ha3.trans (by kernel_rfl)
    have hf : ∀ h, Gz G (lawEnv w.params L) OO h₂ h ∧ Le h₃ h → h.get? a = some (fnObj (lamFd w.params 7 [("key", L + 4)] pm' (.ref c') ct')) ∧ CodeK h c' (Str.ofString "law.<locals>.<lambda>") := fun h q => ⟨q.2.old _ _ (fun q => q) ha', hc3.keeps fun b ob e => q.2.old _ _ (fun q => q) e⟩
    have gz := F.g.2
    have K3 : KC w.params h₃ C (.ref f) := (K.grow gz (fun b s => .inl s) fun b s _ => S b s).kc
    have hf3 : h₃.get? f = some (fnObj (lamFd w.params 6 [] pm (.ref c) ct)) := S.keep gz ha (fun _ _ q => nomatch q) (fun _ q => nomatch q) (fun q => nomatch q)
    have hc3' : CodeK h₃ c (Str.ofString "law.<locals>.<lambda>") := S.code gz hc
    obtain ⟨cC, Hk, Hh⟩ := keys_at W' T' (fun h q => q.2) K3 hf3 hc3' (prog := prog)
    obtain ⟨cc, vv, hlk, hcell, hrep⟩ := F.cel (Str.ofString "key") (.val (.ref C)) rfl (ne_loc (k := .cell) rfl rfl)
    cases hrep
    have hcc : cc = L + 4 := by
      have : (lawEnv w.params L).cells.lookup (Str.ofString "key") = some (L + 4) := rfl
      rw [this] at hlk; cases hlk; rfl
    subst hcc
    refine T'.reduce W' (acc := partD (drawnL ns)) (.inr (.inr ⟨a, rfl, fun h q => ⟨_, (hf h q).1, .inl ⟨_, rfl⟩⟩⟩)) (can_range1 (by omega) (by omega)) range_len (.inr (.inl ⟨_, rfl⟩)) fun i e he => ?_
    obtain ⟨hi, rfl⟩ := range_at he
    exact lam7_call W' hf (fun h q => q.2.cell (fun q => q) hcell) T'.g_part T'.f72.callee (fun hr1 hr2 => part_call W' w.params T'.f72 T'.g_len T'.g_range T'.g_swap T'.f37.callee T'.g_heavy T'.f65.callee cC (T'.swap2 W') Hk Hh hr1 hr2) (by omega) (by omega)
end Mine
end
noncomputable section
open PySem PySem.W PySem.W.X PyProof.Rows
set_option Elab.async false
set_option linter.unusedVariables false
set_option maxRecDepth 100000
namespace Mine
variable {prog : Program} {w : World} {G : Heap → Prop} {Z : Addr → Prop}
theorem Cl.eq {k env elt gs} {ρ : Rho} {o o' : List D} (h : Cl prog w G Z k env elt gs ρ o) (e : o = o') : Cl prog w G Z k env elt gs ρ o' := e ▸ h
noncomputable def intOf (c : UInt8) : Int := (c.toNat : Int)
theorem flat_filter {α β : Type} [Inhabited α] (d : α) (p : α → Bool) (f : α → β) : ∀ l : List α, (List.range l.length).flatMap (fun i => if p (l.getD i d) then [f (l.getD i d)] else []) = (l.filter p).map f
  | [] => rfl
  | x :: l => by
    rw [List.length_cons, List.range_succ_eq_map, List.flatMap_cons, List.flatMap_map]
    have ih := flat_filter d p f l
    have e : (List.range l.length).flatMap (fun a => if p ((x :: l).getD a.succ d) then [f ((x :: l).getD a.succ d)] else []) = (l.filter p).map f := by
      rw [← ih]; rfl
    rw [e, List.filter_cons]
    simp only [List.getD_cons_zero]
    cases p x <;> rfl
theorem flat_if {α β : Type} (p : α → Bool) (f : α → β) : ∀ l : List α, l.flatMap (fun i => if p i then [f i] else []) = (l.filter p).map f
  | [] => rfl
  | x :: l => by
    rw [List.flatMap_cons, flat_if p f l, List.filter_cons]
    cases p x <;> rfl
theorem byte_items (l : List UInt8) : (items (.bytes l)).length = l.length := by simp [items_bytes]
theorem byte_at {l : List UInt8} {i : Nat} {e : D} (he : (items (.bytes l))[i]? = some e) : i < l.length ∧ e = .int (intOf (l.getD i 0)) := by
  simp only [items_bytes, List.getElem?_map, Option.map_eq_some_iff] at he
  obtain ⟨c, hc, rfl⟩ := he
  obtain ⟨h1, h2⟩ := List.getElem?_eq_some_iff.mp hc
  refine ⟨h1, ?_⟩
  rw [List.getD_eq_getElem?_getD, hc]
  rfl
theorem wt_int (c : UInt8) : (intOf c).fdiv 16 = (wt c : Int) := by
  unfold intOf wt
  rw [show (16 : Int) = ((16 : Nat) : Int) from rfl, fdiv_nat]
noncomputable def r8 (ns : List Int) (C : Addr) : Rho := upd (r7 ns C) "sorted_out" (.bytes (byW (drawnL ns)))
noncomputable def r9 (ns : List Int) (C : Addr) : Rho := upd (r8 ns C) "falls" (.int (fallsL (drawnL ns) : Int))
set_option maxHeartbeats 4000000 in
theorem law_st8 (W : Glob G Z) {P : Params} (T : Top02 P G) {L : Addr} {k : Nat} (hk : 10 ≤ k) {ns : List Int} {C : Addr} : ExS prog w G Z k (lawEnv P L) (r7 ns C) (lawSt P 8) .next (r8 ns C) := by
  conv in (lawSt _ _) => whnf
  have hb := drawn_len ns
  have h7 := cN_hi ns
  have e1 : (List.range (items (.range 0 ((3 : Nat) : Int) 1)).length).flatMap (fun v => ((drawnL ns).filter fun x => wt x == v).map fun c => D.int (intOf c)) = ((byW (drawnL ns)).map intOf).map D.int := by
    rw [range_len]; unfold byW; rw [List.map_map, List.map_flatMap]; rfl
  have lb : (byW (drawnL ns)).length ≤ 21 := by
    rw [byW_eq, List.length_append, List.length_append]
    have f := fun v => List.length_filter_le (fun x => wt x == v) (drawnL ns)
    have := f 0; have := f 1; have := f 2
    omega
  have e2 : ((byW (drawnL ns)).map intOf).map (fun n => n.toNat.toUInt8) = byW (drawnL ns) := by
    rw [List.map_map]
    conv => rhs; rw [← List.map_id (byW (drawnL ns))]
    refine List.map_congr_left fun c _ => ?_
    simp [intOf]
  refine ex_assign W (EvS.eq (ev_call W (ev_global T.g_bytes) (.inr (.inl ⟨_, rfl⟩)) (evs_cons W (d := .lst (((byW (drawnL ns)).map intOf).map D.int)) ?_ evs_nil) (call_bytes_list (ns := (byW (drawnL ns)).map intOf) ?_ ?_)) (congrArg D.bytes e2))
  · refine ev_comp W (d := .range 0 ((3 : Nat) : Int) 1) (cl := [("drawn", L + 3)]) (ρc := upd nil "drawn" (.bytes (drawnL ns))) (outs := fun v => ((drawnL ns).filter fun x => wt x == v).map fun c => D.int (intOf c)) (b := fun _ => true) ⟨by kernel_rfl, comp_cell (by decide +kernel), rfl, comp_names (by decide +kernel), ⟨rfl, trivial⟩, ⟨(fun q => nomatch q), (fun q => nomatch q), (fun q => nomatch q), (fun _ => rfl), trivial⟩, All.nil.upd ⟨rfl, ne_loc (k := .cell) rfl rfl, ne_loc (k := .cell) (by kernel_rfl) rfl, rfl⟩⟩
      (ev_call W (ev_global T.g_range) (.inr (.inl ⟨_, rfl⟩)) (evs_cons W ev_int evs_nil) call_range1) (can_range1 (by omega) (by omega)) e1 (by simp; omega) rfl (by kernel_rfl) (fun C i e he => tests_nil) (fun C i e he _ => ?_) (fun i q => nomatch q)
    obtain ⟨hi, rfl⟩ := range_at he
    have hfl := flat_filter (0 : UInt8) (fun x => wt x == i) (fun c => D.int (intOf c)) (drawnL ns)
    rw [← hfl, ← byte_items]
    refine .clause (d := .bytes (drawnL ns)) (fun j => if wt ((drawnL ns).getD j 0) == i then [.int (intOf ((drawnL ns).getD j 0))] else []) (fun j => wt ((drawnL ns).getD j 0) == i) (ev_cell rfl) trivial rfl (by kernel_rfl) (by intro _; rfl) (fun j e he => ?_) (fun j e he hb => ?_) (fun j hj => ?_)
    · obtain ⟨hj, rfl⟩ := byte_at he
      refine tests_one (test_eq (test_cmp W (ev_bin W (ev_local rfl) ev_int (bin_div (by decide) (by decide))) (ev_local rfl) cmp_eq) ?_)
      rw [wt_int, Bool.eq_iff_iff, beq_iff_eq, beq_iff_eq]
      omega
    · obtain ⟨hj, rfl⟩ := byte_at he
      simp only [hb, if_true]
      exact .emit (ev_local rfl)
    · simp only [hj]; rfl
  · intro n hn
    simp only [List.mem_map] at hn
    obtain ⟨c, _, rfl⟩ := hn
    have := c.toNat_lt
    unfold intOf
    omega
  · simp; omega
theorem byte_sub {l : List UInt8} {i : Nat} (h : i < l.length) : l[((i : Nat) : Int).toNat]? = some (l.getD i 0) := by
  rw [show ((i : Nat) : Int).toNat = i by omega, List.getD_eq_getElem?_getD, List.getElem?_eq_getElem h]
  rfl
set_option maxHeartbeats 4000000 in
theorem law_st9 (W : Glob G Z) {P : Params} (T : Top02 P G) {L : Addr} {k : Nat} (hk : 10 ≤ k) {ns : List Int} {C : Addr} : ExS prog w G Z k (lawEnv P L) (r8 ns C) (lawSt P 9) .next (r9 ns C) := by
  conv in (lawSt _ _) => whnf
  have hb := drawn_len ns
  have h7 := cN_hi ns
  generalize hl : drawnL ns = l at *
  have e1 : (List.range (items (.range 0 (cN ns : Int) 1)).length).flatMap (fun j => ((List.range j).filter fun i => decide (wt (l.getD j 0) < wt (l.getD i 0))).map fun (i : Nat) => D.int (i : Int)) = ((List.range l.length).flatMap fun j => (List.range j).filter fun i => decide (wt (l.getD j 0) < wt (l.getD i 0))).map fun (i : Nat) => D.int (i : Int) := by
    rw [range_len, hb, List.map_flatMap]
  have lb : fallsL l ≤ 100 := by
    rw [falls_sum, hb]
    have : ∀ c, c ≤ 7 → ((List.range c).map fun j => ((List.range j).filter fun i => decide (wt (l.getD j 0) < wt (l.getD i 0))).length).sum ≤ c * 7 := by
      intro c
      induction c with
      | zero => intro _; simp
      | succ c ih =>
        intro hc
        rw [List.range_succ, List.map_append, List.sum_append]
        have := ih (by omega)
        have q := List.length_filter_le (fun i => decide (wt (l.getD c 0) < wt (l.getD i 0))) (List.range c)
        rw [List.length_range] at q
        simp only [List.map_cons, List.map_nil, List.sum_cons, List.sum_nil]
        omega
    have := this (cN ns) h7
    omega
  have ll : (((List.range l.length).flatMap fun j => (List.range j).filter fun i => decide (wt (l.getD j 0) < wt (l.getD i 0))).map fun (i : Nat) => D.int (i : Int)).length = fallsL l := by rw [List.length_map]; rfl
  have r8e : r8 ns C "drawn" = some (.bytes l) := by rw [← hl]; rfl
  have r9e : r9 ns C = upd (r8 ns C) "falls" (.int (fallsL l : Int)) := by unfold r9; rw [hl]
  rw [r9e]
  refine ex_assign W (EvS.int (ev_call W (ev_global T.g_len) (.inl ⟨_, rfl⟩) (evs_cons W (d := .lst (((List.range l.length).flatMap fun j => (List.range j).filter fun i => decide (wt (l.getD j 0) < wt (l.getD i 0))).map fun (i : Nat) => D.int (i : Int))) ?_ evs_nil) (call_len_list (by rw [ll]; omega))) (by rw [ll]))
  refine ev_comp W (d := .range 0 (cN ns : Int) 1) (cl := [("drawn", L + 3)]) (ρc := upd nil "drawn" (.bytes l)) (outs := fun j => ((List.range j).filter fun i => decide (wt (l.getD j 0) < wt (l.getD i 0))).map fun (i : Nat) => D.int (i : Int)) (b := fun _ => true) ⟨by kernel_rfl, comp_cell (by decide +kernel), rfl, comp_names (by decide +kernel), ⟨rfl, trivial⟩, ⟨(fun q => nomatch q), (fun q => nomatch q), (fun q => nomatch q), (fun q => nomatch q), (fun _ => rfl), trivial⟩, All.nil.upd ⟨r8e, ne_loc (k := .cell) rfl rfl, ne_loc (k := .cell) (by kernel_rfl) rfl, rfl⟩⟩
      (ev_call W (ev_global T.g_range) (.inr (.inl ⟨_, rfl⟩)) (evs_cons W (ev_local rfl) evs_nil) call_range1) (can_range1 (by omega) (by omega)) e1 (by rw [ll]; omega) rfl (by kernel_rfl) (fun C i e he => tests_nil) (fun C i e he _ => ?_) (fun i q => nomatch q)
  obtain ⟨hi, rfl⟩ := range_at he
  refine Cl.eq (Cl.clause (d := .range 0 (i : Int) 1) (fun j => if decide (wt (l.getD i 0) < wt (l.getD j 0)) then [.int (j : Int)] else []) (fun j => decide (wt (l.getD i 0) < wt (l.getD j 0))) ?_ (can_range1 (by omega) (by omega)) ?_ ?_ ?_ (fun j e he => ?_) (fun j e he hb => ?_) (fun j hj => ?_)) (by rw [range_len, flat_if])
  rotate_left
  · rfl
  · kernel_rfl
  · intro _; rfl
  rotate_right
  · exact ev_call W (ev_global T.g_range) (.inr (.inl ⟨_, rfl⟩)) (evs_cons W (ev_local rfl) evs_nil) call_range1
  · obtain ⟨hj, rfl⟩ := range_at he
    refine tests_one (test_eq (test_cmp W (ev_bin W (ev_sub W (ev_cell rfl) (ev_local rfl) (sub_bytes (by omega) (byte_sub (by omega)) (by omega))) ev_int (bin_div (by decide) (by decide))) (ev_bin W (ev_sub W (ev_cell rfl) (ev_local rfl) (sub_bytes (by omega) (byte_sub (by omega)) (by omega))) ev_int (bin_div (by decide) (by decide))) cmp_gt) ?_)
    exact heavy_int _ _
  · obtain ⟨hj, rfl⟩ := range_at he
    simp only [hb, if_true]
    exact .emit (ev_local rfl)
  · simp only [hj]; rfl
/-! the drawn row's weights -/
theorem rungU_mem (b : List UInt8) (t : Nat) : ∀ i, ∀ x ∈ rungU b t i, x = 0 ∨ x ∈ b
  | 0, x, h => .inl (List.eq_of_mem_replicate h)
  | i + 1, x, h => by
    rw [rungU] at h
    rcases List.mem_or_eq_of_mem_set h with h | h
    · exact rungU_mem b t i x h
    · rw [h, List.getD_eq_getElem?_getD]
      cases e : b[i]? with
      | none => exact .inl rfl
      | some y => exact .inr (List.mem_of_getElem? e)
theorem bells_wt (ns : List Int) : ∀ x ∈ bellsL ns, wt x < 3 := by
  intro x hx
  unfold bellsL at hx
  simp only [List.mem_map, List.mem_range] at hx
  obtain ⟨n, ⟨k, hk, rfl⟩, rfl⟩ := hx
  have := bell_in ns (k := k) (by have := cN_hi ns; omega)
  unfold wt
  simp only [UInt8.toNat_ofNat', Nat.toUInt8]
  omega
theorem drawn_wt (ns : List Int) : ∀ x ∈ drawnL ns, wt x < 3 := by
  intro x hx
  have hb := bells_len ns
  have h2 := cN_lo ns
  have h7 := cN_hi ns
  have hd := dI_lt ns
  obtain ⟨h1, -⟩ := rows_ok (bellsL ns) (by omega) (by omega)
  rw [hb] at h1
  have e := congrArg (fun l => l[dI ns]?) h1
  simp only [List.getElem?_map, List.getElem?_range hd.1, Option.map_some, Option.some.injEq] at e
  have hx' : x ∈ huntN (bellsL ns) (dI ns) := hx
  rw [e] at hx'
  rcases rungU_mem _ _ _ _ hx' with rfl | h
  · decide
  · exact bells_wt ns x h
set_option maxHeartbeats 4000000 in
theorem law_st10 (W : Glob G Z) {P : Params} (T : Top02 P G) {L : Addr} {k : Nat} (hk : 10 ≤ k) {ns : List Int} {C : Addr} : ExS prog w G Z k (lawEnv P L) (r9 ns C) (lawSt P 10) (.ret (.bool true)) (r9 ns C) := by
  conv in (lawSt _ _) => whnf
  have hb := drawn_len ns
  have h2 := cN_lo ns
  have h7 := cN_hi ns
  have e := run_law (drawnL ns) (by omega) (by omega) (drawn_wt ns)
  rw [hb] at e
  have e' : partD (drawnL ns) (cN ns) = .tup [.bytes (byW (drawnL ns)), .int (fallsL (drawnL ns) : Int)] := by unfold partD; rw [e, falls_inv]
  have ec : r9 ns C "came" = some (.tup [.bytes (byW (drawnL ns)), .int (fallsL (drawnL ns) : Int)]) := by rw [← e']; rfl
  refine ex_return W (EvS.eq (ev_cmp W (ev_local ec) (ev_tuple W (evs_cons W (ev_local rfl) (evs_cons W (ev_local rfl) evs_nil))) cmp_eq_pair) ?_)
  simp
end Mine
end
noncomputable section
open PySem PySem.W PySem.W.X PyProof.Rows
set_option Elab.async false
set_option linter.unusedVariables false
set_option maxRecDepth 100000
namespace Mine
variable {prog : Program} {w : World} {G : Heap → Prop} {Z : Addr → Prop}
theorem stab_TB {L : List (Nat × Nat)} : Stab OO (TB 74 L) := fun S h h' g hS ⟨ps, e, r⟩ => ⟨ps, g.old 74 _ (fun s => hS 74 s (.inr rfl)) e, r⟩
theorem stab_16 {o : Obj} : Stab OO (fun h => h.get? 16 = some o) := fun S h h' g hS e => g.old 16 _ (fun s => hS 16 s (.inl rfl)) e
theorem stab_16' : Stab OO (fun h => ∃ cK, h.get? 16 = some (tabObj #[rawInt 4, rawInt 4, .ref cK])) := fun S h h' g hS ⟨cK, e⟩ => ⟨cK, g.old 16 _ (fun s => hS 16 s (.inl rfl)) e⟩
theorem Stab.and {O : Addr → Prop} {P Q : Heap → Prop} (a : Stab O P) (b : Stab O Q) : Stab O (fun h => P h ∧ Q h) := fun S h h' g hS q => ⟨a S h h' g hS q.1, b S h h' g hS q.2⟩
/-- the tables at the law's end -/
noncomputable def LawEnd (h : Heap) : Prop := TB 74 [(89, 18), (88, 21), (84, 18)] h ∧ ∃ cK, h.get? 16 = some (tabObj #[rawInt 4, rawInt 4, .ref cK])
set_option maxHeartbeats 4000000 in
theorem law_cls (W : Glob G Z) (T : Top02 w.params G) {L : Addr} {k : Nat} (hk : 591 ≤ k) {ns : List Int} (h74 : ¬ Z 74) (h16 : ¬ Z 16) :
    ∃ ρ', ExsO prog w G Z k (lawEnv w.params L) OO (fun h => TB 74 [(84, 18)] h ∧ h.get? 16 = some (tabObj #[])) (r5 ns) [lawSt w.params 6, lawSt w.params 7, lawSt w.params 8, lawSt w.params 9, lawSt w.params 10] (.ret (.bool true)) ρ' LawEnd := by
  conv in (lawSt _ 6) => whnf
  refine ⟨nil, exsO_cls W (c := 76) (p := 74) (L := [(84, 18)]) (clos := []) (PP := w.params) T.top2 (fun b q => q) (.inr rfl) (.inl rfl) h74 h16 (by decide) (ev_global T.g_cmp) (fun h hg => let ⟨o, e, d, _⟩ := T.f21 h hg; ⟨o, _, e, d⟩) (by kernel_rfl) rfl (by kernel_rfl) rfl (by decide)
    (fun f => cmp_new W w.params T.f21 T.top1 T.g_obj) ?_ (by omega) (.inr rfl) rfl rfl rfl⟩
  intro h₂ a pm c' ct C hg ha hc K S
  rw [law_qual] at hc
  have ha' : h₂.get? a = some (fnObj (lamFd w.params 6 [] pm (.ref c') ct)) := ha.trans (by kernel_rfl)
  have W1 : Glob (Gz G (lawEnv w.params L) OO h₂) (Zz Z (lawEnv w.params L) OO h₂) := W.freeze (EO (lawEnv w.params L) OO) h₂
  have T1 := T.weaken (G' := Gz G (lawEnv w.params L) OO h₂) fun h q => q.1
  refine TrO.sub (ρ' := r9 ns C) ?_ (fun _ _ e => nomatch e)
  refine exsO_cons (law_st7 W T hk (C := C) ha' hc K S h74 (Pq := fun h => ∃ cK, h.get? 16 = some (tabObj #[rawInt 4, rawInt 4, .ref cK])) (fun h h' g ⟨cK, e⟩ => ⟨cK, g.old 16 _ (by decide) e⟩) stab_16') ?_
  have sP : Stab OO (fun h => TB 74 [(89, 18), (88, 21), (84, 18)] h ∧ ∃ cK, h.get? 16 = some (tabObj #[rawInt 4, rawInt 4, .ref cK])) := stab_TB.and stab_16'
  refine exsO_cons (TrO.of sP (law_st8 W1 T1 (by omega))) (exsO_cons (TrO.of sP (law_st9 W1 T1 (by omega))) ?_)
  intro A hA X h g dr tk o hO F hP
  refine (TrO.of sP (exs_ret (rest := []) (law_st10 W1 T1 (by omega)))).use hA hO F hP fun h' t' r gr r1 r2 r3 => ⟨h', t', rfl, gr, r1, r2, r3⟩
set_option maxHeartbeats 4000000 in
theorem law_body (W : Glob G Z) (T : Top02 w.params G) {L : Addr} {k : Nat} (hk : 591 ≤ k) {ns : List Int} (hz : ns.length ≤ 63) (h74 : ¬ Z 74) (h16 : ¬ Z 16) :
    ∃ ρ', ExsO prog w G Z k (lawEnv w.params L) OO (fun h => TB 74 [] h ∧ h.get? 16 = some (tabObj #[])) (r0 ns) (lawBody w.params) (.ret (.bool true)) ρ' LawEnd := by
  obtain ⟨ρ', H⟩ := law_cls (prog := prog) W T (L := L) hk (ns := ns) h74 h16
  refine ⟨ρ', ?_⟩
  rw [lawBody_eq]
  have s0 : Stab OO (fun h => TB 74 [] h ∧ h.get? 16 = some (tabObj #[])) := stab_TB.and stab_16
  have s1 : Stab OO (fun h => TB 74 [(84, 18)] h ∧ h.get? 16 = some (tabObj #[])) := stab_TB.and stab_16
  refine exsO_cons (TrO.of s0 (law_st0 W (by omega) T.g_len hz)) (exsO_cons (TrO.of s0 (law_st1 W (by omega))) (exsO_cons (TrO.of s0 (law_st2 W (by omega) T.g_range T.g_bytes)) ?_))
  refine exsO_cons (law_st3 W T (by omega) h74 (Pq := fun h => h.get? 16 = some (tabObj #[])) (fun h h' g e => g.old 16 _ (by decide) e) stab_16) ?_
  exact exsO_cons (TrO.of s1 (law_st4 W T (by omega))) (exsO_cons (TrO.of s1 (law_st5 W T (by omega))) H)
theorem law_fd {P : Params} : (lawFd P).body = .stmts (lawBody P) ∧ (lawFd P).closure = [] ∧ (lawFd P).scope.isCoroutine = false ∧ (lawFd P).scope.isGenerator = false ∧ (lawFd P).scope.kind = .function ∧ (lawFd P).scope.names.lookup (Str.ofString "script") = some .local:=
  ⟨by kernel_rfl, by kernel_rfl, by kernel_rfl, by kernel_rfl, by kernel_rfl, by kernel_rfl⟩
theorem law_bind {P : Params} {a : Value} : bindArgs (lawFd P) ⟨[a], []⟩ = pure ((["script"] : List Str).zip [a]) := by kernel_rfl
/-- the law's call -/
theorem law_call (W : Glob G Z) (T : Top02 w.params G) {ns : List Int} (hz : ns.length ≤ 63) (h74 : ¬ Z 74) (h16 : ¬ Z 16) :
    CallO prog w G 601 OO (fun h => TB 74 [] h ∧ h.get? 16 = some (tabObj #[])) (.ref 77) [.lst (ns.map D.int)] (fun X h' v => v = .bool true ∧ LawEnd h') := by
  obtain ⟨e1, e2, e3, e4, e5, e6⟩ := @law_fd w.params
  refine call_fnO (k := 600) W (names := ["script"]) (fun h h' g q => ⟨let ⟨ps, e, r⟩ := q.1; ⟨ps, g.old _ _ (fun q => q) e, r⟩, g.old _ _ (fun q => q) q.2⟩) T.f77 e1 e2 ?_ ?_ (fun L hL A hA X h g dr tk o hO hXM F hP => ?_) e3 e4 e5
  · intro vs hv
    obtain ⟨a, rfl⟩ := len1 hv
    exact law_bind
  · intro x hx
    simp at hx
    subst hx
    exact .inl e6
  obtain ⟨ρ', H⟩ := law_body (prog := prog) W T (L := L) (k := 600) (by decide) hz h74 h16
  exact H.use hA hO F hP fun h' t' r gr ⟨v, e, rv⟩ _ le => ⟨h', t', rfl, gr, v, e, rv, le⟩
end Mine
end
noncomputable section
open PySem PySem.W PySem.W.X PyProof.Rows
set_option Elab.async false
set_option linter.unusedVariables false
set_option maxRecDepth 100000
namespace Mine
noncomputable def dictB (K : Frag) (a : Addr) : Bool := match K.lookup a with
  | some ⟨_, _, .dict es _, _⟩ => es.all fun e => match e.key with | .str _ _ => true | _ => false
  | _ => false
noncomputable def nsOf (K : Frag) (a : Addr) : Str → Option Value := match K.lookup a with
  | some ⟨_, _, .dict es _, _⟩ => nsFind es
  | _ => fun _ => none
theorem ns_of {K : Frag} {h : Heap} {a : Addr} (X : K.In h) (e : dictB K a = true) : h.Ns a (nsOf K a) := by
  unfold dictB at e
  unfold nsOf
  split at e
  · rename_i c d es n sl hk
    refine ⟨_, es, n, X _ _ hk, rfl, fun x hx => ?_, fun _ => rfl⟩
    rw [Array.all_eq_true_iff_forall_mem] at e
    have := e x hx
    split at this
    · rename_i s t hq; exact ⟨s, t, hq⟩
    · cases this
  · cases e
noncomputable def fnB (K : Frag) (a : Addr) : Bool := match K.lookup a with
  | some ⟨_, _, .func fd, _⟩ => (match fd.code with
    | .ref c => (match K.lookup c with
      | some ⟨_, _, .fields vs, _⟩ => (match (vs[1]? : Option Value) with
        | some (.str q _) => q == fd.qualname
        | _ => false)
      | _ => false)
    | _ => false)
  | _ => false
theorem fn_of {K : Frag} {h : Heap} {a : Addr} (X : K.In h) (e : fnB K a = true) : ∃ o, h.get? a = some o ∧ o.data = .func (fnOf K a) ∧ h.CodeRec (fnOf K a).code (fnOf K a).qualname := by
  unfold fnB at e
  split at e
  · rename_i c d fd sl hk
    have hf : fnOf K a = fd := by unfold fnOf; rw [hk]
    rw [hf]
    refine ⟨_, X _ _ hk, rfl, ?_⟩
    split at e
    · rename_i cc hc
      split at e
      · rename_i c2 d2 vs sl2 hk2
        split at e
        · rename_i q t hq
          exact ⟨cc, _, vs, t, hc, X _ _ hk2, rfl, by rw [hq, eq_of_beq e]⟩
        · cases e
      · cases e
    · cases e
  · cases e
/-- all of a heap but the tables stays -/
noncomputable def GH (O : Addr → Prop) (H : Heap) : Heap → Prop := fun h => Grow O H h
noncomputable def ZH (O : Addr → Prop) (H : Heap) : Addr → Prop := fun b => (∃ o, H.get? b = some o) ∧ ¬ O b
theorem glob_H {O : Addr → Prop} {H : Heap} (hS : ¬ O cStatics) (hl : H.NoLimit) : Glob (GH O H) (ZH O H) where
  grow := fun S h h' hz g hg => ⟨fun b o nb e => g.old b o (fun s => hz b s ⟨⟨o, e⟩, nb⟩) (hg.old b o nb e)⟩
  lim := fun h hg => let ⟨mc, n, e⟩ := hl; ⟨mc, hg.ns hS n, e⟩
  fresh := fun h hg a hle q => by
    obtain ⟨o, e⟩ := hg.alive q.2 q.1
    have := alt e
    omega
theorem In.keep {K : Frag} {O : Addr → Prop} {H h : Heap} (X : K.In H) (hO : ∀ a, O a → K.lookup a = none) (g : GH O H h) : K.In h := fun a o e =>
  g.old a o (fun q => by rw [hO a q] at e; cases e) (X a o e)
/-- what the start-up leaves -/
structure Boots (H : Heap) : Prop where
  blt : ∃ mb, H.Ns builtinsNs mb ∧ ∀ x : Str, x ≠ "__name__" → mb x = bootBuiltins x
  mod : ∃ ob, H.get? 4 = some ob ∧ ob.cls = .type "module" ∧ ob.dict = some builtinsNs ∧ ob.data = .plain
  sys : ∃ o, H.get? sysModules = some o
theorem Boots.keep {O : Addr → Prop} {H h : Heap} (B : Boots H) (h0 : ¬ O builtinsNs) (h4 : ¬ O 4) (h1 : ¬ O sysModules) (g : GH O H h) : Boots h :=
  ⟨let ⟨mb, n, e⟩ := B.blt; ⟨mb, g.ns h0 n, e⟩, let ⟨ob, e, r⟩ := B.mod; ⟨ob, g.old _ _ h4 e, r⟩, let ⟨o, e⟩ := B.sys; ⟨o, g.old _ _ h1 e⟩⟩
set_option maxHeartbeats 4000000 in
theorem sub_facts (P : Params) : (dictB (kSub P) 3 && fnB (kSub P) 21 && fnB (kSub P) 30 && fnB (kSub P) 37 && fnB (kSub P) 44 && fnB (kSub P) 51 && fnB (kSub P) 58 && fnB (kSub P) 65 && fnB (kSub P) 72 && fnB (kSub P) 77 && codeHdIn (kSub P) 20 16 && codeHdIn (kSub P) 76 74) = true := by kernel_rfl
theorem boot_names : bootBuiltins "len" = some (.builtin "len") ∧ bootBuiltins "iter" = some (.builtin "iter") ∧ bootBuiltins "bytearray" = some (.type "bytearray") ∧ bootBuiltins "range" = some (.type "range") ∧ bootBuiltins "bytes" = some (.type "bytes") ∧ bootBuiltins "object" = some (.type "object") ∧ bootBuiltins "__build_class__" = some (.builtin "__build_class__") := by
  refine ⟨?_, ?_, ?_, ?_, ?_, ?_, ?_⟩ <;> kernel_rfl
set_option maxHeartbeats 4000000 in
theorem top_02 {P : Params} {G : Heap → Prop} (X : ∀ h, G h → (kSub P).In h) (B : ∀ h, G h → Boots h) : Top02 P G := by
  have F := sub_facts P
  simp only [Bool.and_eq_true] at F
  obtain ⟨⟨⟨⟨⟨⟨⟨⟨⟨⟨⟨d3, f21⟩, f30⟩, f37⟩, f44⟩, f51⟩, f58⟩, f65⟩, f72⟩, f77⟩, c20⟩, c76⟩ := F
  obtain ⟨b1, b2, b3, b4, b5, b6, b7⟩ := boot_names
  have fn : ∀ a, fnB (kSub P) a = true → fnOf (kSub P) a = fnOf (hd02.heap_39 P) a → FnOk G a (fnOf (hd02.heap_39 P) a) := fun a e q h hg => q ▸ fn_of (X h hg) e
  have gm : ∀ x v, nsOf (kSub P) 3 x = some v → GV G x v := fun x v e h hg => .inl ⟨_, ns_of (X h hg) d3, e⟩
  have gb : ∀ x v, nsOf (kSub P) 3 x = none → x ≠ "__name__" → bootBuiltins x = some v → GV G x v := fun x v e1 hx e2 h hg => let ⟨mb, n, e⟩ := (B h hg).blt; .inr ⟨_, mb, ns_of (X h hg) d3, e1, n, (e x hx).trans e2⟩
  have top : ∀ c p, codeHdIn (kSub P) c p = true → mainGlobals ≠ p ∧ cStatics ≠ p → 4 ≠ p → TopOk G c p := fun c p hc hp h4 =>
    ⟨fun h hg => let ⟨ob, e, r⟩ := (B h hg).mod; ⟨_, ns_of (X h hg) d3, ⟨_, _, (by kernel_rfl : nsOf (kSub P) 3 "__name__" = some (.str "law_mr0067_02" 224))⟩, 4, ob, (by kernel_rfl), (by decide), (by decide), h4, e, r⟩,
     fun h hg => let ⟨mb, n, e⟩ := (B h hg).blt; ⟨mb, n, (e _ (by decide)).trans b7⟩, fun h hg => X h hg _ _ (by kernel_rfl), fun h hg => codeHd_of_K (X h hg) hc, hp, fun h hg => (B h hg).sys⟩
  exact {
    f21 := fn 21 f21 (by kernel_rfl), f30 := fn 30 f30 (by kernel_rfl), f37 := fn 37 f37 (by kernel_rfl), f44 := fn 44 f44 (by kernel_rfl), f51 := fn 51 f51 (by kernel_rfl), f58 := fn 58 f58 (by kernel_rfl), f65 := fn 65 f65 (by kernel_rfl), f72 := fn 72 f72 (by kernel_rfl), f77 := fn 77 f77 (by kernel_rfl)
    g_len := gb _ _ (by kernel_rfl) (by decide) b1, g_iter := gb _ _ (by kernel_rfl) (by decide) b2, g_miss := gm _ _ (by kernel_rfl), g_ba := gb _ _ (by kernel_rfl) (by decide) b3, g_range := gb _ _ (by kernel_rfl) (by decide) b4, g_bytes := gb _ _ (by kernel_rfl) (by decide) b5, g_obj := gb _ _ (by kernel_rfl) (by decide) b6
    g_swap := gm _ _ (by kernel_rfl), g_hunt := gm _ _ (by kernel_rfl), g_seat := gm _ _ (by kernel_rfl), g_rung := gm _ _ (by kernel_rfl), g_heavy := gm _ _ (by kernel_rfl), g_part := gm _ _ (by kernel_rfl), g_red := gm _ _ (by kernel_rfl), g_cmp := gm _ _ (by kernel_rfl)
    miss := fun h hg => ⟨⟨.type "object", none, .plain, #[]⟩, X h hg _ _ (by kernel_rfl), rfl⟩
    dflt := fun h hg => ⟨⟨.type "tuple", none, .seq #[.ref 22] 0, #[]⟩, .ref 22, 0, X h hg _ _ (by kernel_rfl), rfl⟩
    top1 := top 20 16 c20 (by decide) (by decide), top2 := top 76 74 c76 (by decide) (by decide), sub := X }
end Mine
end
noncomputable section
open PySem PySem.W PySem.W.X PyProof.Rows
set_option Elab.async false
set_option linter.unusedVariables false
set_option maxRecDepth 100000
namespace Mine
theorem Ns.det {h : Heap} {a : Addr} {m m' : Str → Option Value} (n : h.Ns a m) (n' : h.Ns a m') (x : Str) : m x = m' x := by
  obtain ⟨o, es, ep, ho, hd, -, f⟩ := n
  obtain ⟨o', es', ep', ho', hd', -, f'⟩ := n'
  rw [ho] at ho'; cases ho'
  rw [hd] at hd'; cases hd'
  rw [← f, ← f']
theorem bud_caller : Bud 601 callerA := ⟨rfl, by decide, by decide, rfl⟩
/-- old objects, but for code tables that were empty -/
theorem oldK_of {O : Addr → Prop} {h h' : Heap} (g : Grow O h h') (hO : ∀ b, O b → isCodeTable h b ∧ h.get? b = some (tabObj #[]) ∧ ∃ ps, h'.get? b = some (tabObj ps)) : OldK h h' where
  old := fun b o e => by
    by_cases q : O b
    · obtain ⟨a, e1, ps, e2⟩ := hO b q
      rw [e1] at e; cases e
      exact .inr (.inl ⟨a, rfl, #[], ps, rfl, by simpa using e2⟩)
    · exact .inl (g.old b o q e)
  there := fun b o e => by
    by_cases q : O b
    · obtain ⟨a, e1, ps, e2⟩ := hO b q; exact ⟨_, e2⟩
    · exact ⟨o, g.old b o q e⟩
theorem table_of {h : Heap} {c p : Addr} (x : CodeHd h c p) : isCodeTable h p := by
  obtain ⟨o, vs, file, tf, flags, tg, inF, text, tt, e, h1, h2, h3, -⟩ := x
  exact ⟨c, o, vs, e, h1, h2, h3⟩
set_option maxHeartbeats 4000000 in
theorem law02_holds : PySem.Challenge.rw_mr0067_02.Holds := by
  refine hd02 ?_
  intro w s₀ s₁ mg mb G Y fa o pm cd doc dV kV ho hd hcd hD hmg hg args vals as hpre hlay hrd hwl hlo
  have KX := km_in_of Y
  have KT := km_tabs_of Y
  have hmg' : mg (Str.ofString "law") = some (.ref fa) := hmg
  have hns := G.T.g
  have hmain := G.T.bmain
  have hblt : ∃ mb, s₁.heap.Ns builtinsNs mb ∧ ∀ x : Str, x ≠ "__name__" → mb x = bootBuiltins x := ⟨_, G.T.b, G.T.builtins⟩
  have hsee : ∃ o, s₁.heap.get? sysModules = some o := let ⟨m, ⟨o, _, _, e, _⟩, _⟩ := (G.T.seer (by kernel_rfl)).2; ⟨o, e⟩
  clear Y
  clear hd hD hcd hmg G ho
  wrow_args hpre hlay hrd hwl hlo
  rename_i ns hs hl0 hL1 hrr hl2 as1 as2 a vsl as3 hL ra wl r0 hI hr2 hz1 hz2
  have hz : ns.length ≤ 63 := by omega
  clear hs hl0 hL1 hrr hl2 ra wl r0 hr2 hz1 hz2
  obtain ⟨h₁, g, dr, tk, os⟩ := s₁
  dsimp only at hg KX KT hns hmain hblt hsee hL ⊢
  have e77 : fa = 77 := by
    have e1 : mg (Str.ofString "law") = some (.ref 77) := (Ns.det hns (ns_of KX (by kernel_rfl)) _).trans (by kernel_rfl)
    rw [hmg'] at e1; cases e1; rfl
  subst e77
  have e16 : h₁.get? 16 = some (tabObj #[]) := KT 16 (.head _)
  have e74 : h₁.get? 74 = some (tabObj #[]) := KT 74 (.tail _ (.head _))
  have hB : Boots h₁ := by
    refine ⟨hblt, ?_, hsee⟩
    obtain ⟨bm, ob, e1, -, e2, r⟩ := hmain
    have e3 : mg (Str.ofString "__builtins__") = some (.ref 4) := (Ns.det hns (ns_of KX (by kernel_rfl)) _).trans (by kernel_rfl)
    have e4 : (some (Value.ref bm) : Option Value) = some (.ref 4) := e1.symm.trans e3
    cases e4
    exact ⟨ob, e2, r⟩
  have t16 : isCodeTable h₁ 16 := table_of (codeHd_of_K (c := 20) KX (by kernel_rfl))
  have t74 : isCodeTable h₁ 74 := table_of (codeHd_of_K (c := 76) KX (by kernel_rfl))
  have hl : h₁.NoLimit := ⟨_, ns_of KX (by kernel_rfl), by kernel_rfl⟩
  have W := glob_H (O := OO) (H := h₁) (fun q => by rcases q with q | q <;> cases q) hl
  have T : Top02 w.params (GH OO h₁) := top_02 (fun h hg => In.keep KX (fun a q => by rcases q with rfl | rfl <;> kernel_rfl) hg) (fun h hg => hB.keep (fun q => by rcases q with q | q <;> cases q) (fun q => by rcases q with q | q <;> cases q) (fun q => by rcases q with q | q <;> cases q) hg)
  have nO : ¬ OO a := fun q => by
    obtain ⟨o', eo, ec, _⟩ := hL
    rcases q with rfl | rfl
    · rw [e16] at eo; cases eo; cases ec
    · rw [e74] at eo; cases eo; cases ec
  refine wpJ_mono (law_call (prog := PySem.Challenge.rw_mr0067_02.row.prog) W T hz (fun q => q.2 (.inr rfl)) (fun q => q.2 (.inl rfl)) callerA bud_caller OO h₁ g dr tk os _ (.refl _ _) ?_ (fun b q => q) ⟨.nil e74, e16⟩ ⟨_, _, rfl, ⟨a, vsl, rfl, nO, hL, .of_ints hI⟩, rfl⟩) fun v s' hv => ?_
  · intro b q
    rcases q with rfl | rfl
    · exact ⟨_, e16⟩
    · exact ⟨_, e74⟩
  · obtain ⟨h', t', rfl, gr, rfl, ⟨ps, e74', -⟩, cK, e16'⟩ := hv
    refine ⟨.inl ⟨.bool true, .bool true, [], rfl, fun cls => ?_, .bool _, ?_, fun _ => ⟨.nil, fun _ q => nomatch q⟩⟩, oldK_of gr fun b q => ?_, rfl, .of_eq hg⟩
    · rfl
    · wrow_post
    · rcases q with rfl | rfl
      · exact ⟨t16, e16, _, e16'⟩
      · exact ⟨t74, e74, _, e74'⟩
end Mine
end
set_option maxRecDepth 100000 in
theorem PySem.Challenge.cw_mr0067_02_holds : PySem.Challenge.rw_mr0067_02.Holds :=
  Mine.law02_holds
