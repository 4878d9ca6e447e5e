import PyProof.Rows.All
import Wide.All
import OpenK.AllK
import Wide.FinOn
import Lean
import PySem.Challenge.RW_ef5003_01
open PySem PySem.W PyProof.Rows PySem.Calls
set_option Elab.async false
set_option maxRecDepth 100000
set_option maxHeartbeats 8000000
set_option linter.unusedVariables false
namespace FbTop

/-- the caller's own context -/
abbrev ctx0 : Ctx := ⟨.builtin "claim.caller" {}, none, none, [], none⟩

def wpTop {α : Type} (M : Model) (t : Sem α) (Q : α → Shared → Prop) (E : Value → Shared → Prop) (s : Shared) : Prop :=
  ∀ p, Sem.wp M ctx0 t (fun a _ s' => Q a s') (fun e _ s' => E e s') p s

section
variable {α β : Type} {M : Model} {E : Value → Shared → Prop} {s : Shared}
theorem wpTop_of_any {t : Sem α} {Q : α → Shared → Prop} (h : wpAny M callerA t Q E s) : wpTop M t Q E s := fun p => h _ p caller_in
theorem wpTop_mono {t : Sem α} {Q Q' : α → Shared → Prop} {E' : Value → Shared → Prop} (h : wpTop M t Q E s) (hQ : ∀ a s, Q a s → Q' a s) (hE : ∀ e s, E e s → E' e s) : wpTop M t Q' E' s :=
  fun p => Sem.wp_mono M _ t (fun a _ s => hQ a s) (fun e _ s => hE e s) p s (h p)
theorem wpTop_pure {a : α} {Q : α → Shared → Prop} (h : Q a s) : wpTop M (pure a) Q E s := fun _ => h
theorem wpTop_bind {m : Sem α} {f : α → Sem β} {Q : β → Shared → Prop} (h : wpTop M m (fun a s' => wpTop M (f a) Q E s') E s) : wpTop M (m >>= f) Q E s := fun p => by
  rw [Sem.wp_bind']
  exact Sem.wp_mono M _ m (fun a p' s' h' => h' p') (fun _ _ _ h' => h') p s (h p)
end

theorem ends_both {prog : Program} {w : World} {t : Sem Fin} {s : Shared} {R : Result → Shared → Prop} (hreg : s.asleep)
    (h : wpTop (model prog w) t (fun fin s' => ∃ f, fin = .done f ∧ (R (.ok f) s' ∧ leftWithCleanup s'.gens = false)) (fun e s' => R (.error e) s' ∧ leftWithCleanup s'.gens = false) s) :
    ∃ n r s' s'', runN (denote table) prog w n s ⟨t, .builtin "claim.caller" {}, default, []⟩ = .halted (outcomeOf r) s' ∧
      schedN (denote table) prog w n (.single s ⟨t, .builtin "claim.caller" {}, default, []⟩) = .halted (outcomeOf r) s' ∧ s'.forget = s''.forget ∧ R r s'' := by
  have h' := Sem.wp_mono (model prog w) ctx0 t (fun fin p' s' (x : ∃ f, fin = Fin.done f ∧ (R (.ok f) s' ∧ leftWithCleanup s'.gens = false)) =>
    (show Sem.finPost (model prog w) ctx0 (fun r s' => R r s' ∧ leftWithCleanup s'.gens = false) fin p' s' by obtain ⟨f, rfl, hf⟩ := x; exact hf))
    (fun _ _ _ x => x) default s (h default)
  obtain ⟨n, r, s₁, s₂, hs, hn, hfo, hR⟩ := wp_halts_full (M := model prog w) (R := R) hreg h'
  exact ⟨n, r, s₂, s₁, hn, hs, hfo, hR⟩

theorem callFrom_of {c : ClaimW} {tree : List Value → Sem Fin} {w : World} {s : Shared} {free : Addr → Prop} {gens : Prop} {kept : Heap → Prop} (hz : s.asleep) (hgens : s.gens = #[])
    (hspec : ∀ args, c.pre args = true → WData.layableAll args = true →
      ∀ ord : List DictEntry → List DictEntry, (∀ l, (ord l).Perm l) →
      ∃ vs s₁, layAllW c.records (classAt s.heap) w.params ord args s = some (vs, s₁) ∧
        wpTop (model c.prog w) (tree vs) (fun fin s' => ∃ f, fin = .done f ∧ (c.Ends s args vs s₁ (.ok f) s' ∧ s'.os = s.os ∧ AllBare s'.gens ∧ kept s'.heap))
          (fun e s' => c.Ends s args vs s₁ (.error e) s' ∧ s'.os = s.os ∧ AllBare s'.gens ∧ kept s'.heap) s₁) :
    c.CallFrom (fun vs => ⟨tree vs, .builtin "claim.caller" {}, default, []⟩) w free gens kept s := by
  intro args hpre hlay ord hord
  obtain ⟨vs, s₁, hlaid, hcode⟩ := hspec args hpre hlay ord hord
  have hal := layAllW_rest _ _ _ hlaid
  obtain ⟨k, r, s', s'', hrun, hsched, hfo, hcase, hos, hkp⟩ := ends_both (prog := c.prog) (w := w) (t := tree vs) (s := s₁)
    (R := fun r s' => c.Ends s args vs s₁ r s' ∧ s'.os = s.os ∧ kept s'.heap)
    (Shared.asleep_of_life hal.2.2.2 hz)
    (wpTop_mono hcode (fun fin s' ⟨f, e, h1, h2, h3, h4⟩ => ⟨f, e, ⟨h1, h2, h4⟩, leftWithCleanup_false_of_bare h3⟩)
      (fun e s' ⟨h1, h2, h3, h4⟩ => ⟨⟨h1, h2, h4⟩, leftWithCleanup_false_of_bare h3⟩))
  obtain ⟨eh, _, _, eo, _⟩ := Shared.forget_eq hfo
  have hcase := hcase.congr eh
  have hkp : kept s'.heap := by first | exact eh ▸ hkp | (rw [eh] at hkp; exact hkp) | (rw [← eh] at hkp; exact hkp)
  rw [← eo] at hos
  have hlife : s'.heap.life = s.heap.life := (runN_life _ _ _ hrun).trans hal.2.2.2
  refine ⟨vs, s₁, hlaid, k, _, s', hsched, ?_, (fun _ i x hx => by rw [hgens] at hx; simp at hx), hkp, by rw [hlife], Shared.rest_eq hos⟩
  rcases hcase with ⟨v, rfl, d1, d2, d3, d4, d5⟩ | ⟨e, ob, cls, rfl, d1, d2, d3, d4, d5⟩
  · exact .inl ⟨v, rfl, d1, d2, d3, fun b o y _ => d4 b o y, d5⟩
  · exact .inr ⟨e, ob, cls, rfl, d1, d2, d3, d4, fun b o y _ => d5 b o y⟩

/-- the statements that stand, by their marks -/
def pickS : List Stmt → List Bool → List Stmt
  | s :: l, true :: r => s :: pickS l r
  | _ :: l, false :: r => pickS l r
  | _, _ => []
/-- the view, said by the program's own text -/
def myView : Program := { PySem.Challenge.pw_ef5003_01 with main := { PySem.Challenge.pw_ef5003_01.main with body := pickS PySem.Challenge.pw_ef5003_01.main.body [true, true, false, true, true, true, true, true, true, false, true, true, true, true, true, true, true, true, false, true, true, true, true, false, true, false, true, true, true, true, true, true, true, true, false, false, false, false, true, true, true, true, true, true, true, true, true, true, true, true, true, true, true] } }

/-- what is asked of the walk: the call, from the caller's own context -/
abbrev WalkT (q : Program) (loose : List Str) (XP : (Str → Option Value) → Heap → Prop) (YP : World → Heap → Prop) (r : RowW) (d : DefRec) (kwd : List (Str × Expr)) : Prop :=
  ∀ (w : World) (s₀ s₁ : Shared) (mg mb : Str → Option Value), Ground q loose r.records XP w s₀ mg mb s₁.heap → YP w s₁.heap → ∀ (a : Addr) (o : Obj) (pm cd doc dV kV : Value), s₁.heap.get? a = some o →
    o.data = .func { docDef d.name d.params d.body d.scope pm cd doc with defaults := dV, kwdefaults := kV } → s₁.heap.CodeRec cd d.name → Dflts mg s₁.heap d.params kwd dV kV → mg d.name = some (.ref a) → s₁.gens = #[] →
    ∀ (args : List WData) (vals : List Value) (as : List Addr), r.claim.pre args = true → WData.layableAll args = true → ReadsAllW r.records (classAt s₀.heap) s₁.heap vals args as → WellAll w.params s₁.heap vals args → (∀ a ∈ as, (a == sysModules) = false) →
      wpTop (model r.prog w) (PySem.call (.ref a) vals) (fun v s' => GoodWG r.claim (classAt s₀.heap) (ExcName.means s₀.heap) args s₁ (.ok (.ret v)) s')
        (fun e s' => GoodWG r.claim (classAt s₀.heap) (ExcName.means s₀.heap) args s₁ (.error e) s') s₁

theorem PySem.W.holds_open {r : OpenRow} {q : Program} {loose : List Str} {Xt : Shared → Bool} {XP : (Str → Option Value) → Heap → Prop} {α : Type} {Yf : Shared → α} {Ya : World → α} {YP : World → Heap → Prop} {d : DefRec} {kwd : List (Str × Expr)} {N : Nat}
    (left : LeftO r.prog myView loose (fun s => xlAt myView [] s && recOk (RowW.records r.toRowW) s) Yf Ya N) (hY : ∀ w s, Yf s = Ya w → YP w s.heap) (hYk : ∀ w h h', YP w h → (∀ b o, h.get? b = some o → h'.get? b = some o) → YP w h')
    (hX : ∀ s, Xt s = true → XP (s.heap.nsMap mainGlobals) s.heap) (hXk : ∀ mg h h', XP mg h → (∀ b o, h.get? b = some o → h'.get? b = some o) → XP mg h')
    (hdef : defOf q r.name = some (d, kwd)) (hp : r.prog.theDef r.name = some (d.params, d.body, d.scope)) (hk : kwWritten? d.params.kwonlyargs d.params.kw_defaults = some kwd) (hRf : ∀ s, Xt s = true → RecFacts r.records s.heap) (hwr : (!r.writes || r.records.isEmpty) = true)
    (k1 : r.wellSaid = true) (ok : (chainsOk q && opensWell r.prog && (frees r.toRowW && r.within.isEmpty)) = true) (hb : r.prog.bare) (hw : r.toRowW.promised)
    (call : WalkT myView loose (XL myView []) YP r.toRowW d kwd) (hq : q = myView := by kernel_rfl) : r.Holds := by
  subst hq
  clear hX hXk hRf
  have hX : ∀ s, (xlAt myView [] s && recOk (RowW.records r.toRowW) s) = true → XL myView [] (s.heap.nsMap mainGlobals) s.heap := fun s e => xl_of s (Bool.and_eq_true_iff.mp e).1
  have hXk : ∀ mg h h', XL myView [] mg h → (∀ b o, h.get? b = some o → h'.get? b = some o) → XL myView [] mg h' := XL.keeps
  have hRf : ∀ s, (xlAt myView [] s && recOk (RowW.records r.toRowW) s) = true → RecFacts r.toRowW.records s.heap := fun s e => recFacts_of (Bool.and_eq_true_iff.mp e).2
  refine ⟨k1, hw, ?_⟩
  obtain ⟨ok, k5⟩ := Bool.and_eq_true_iff.mp ok
  obtain ⟨hch, o1⟩ := Bool.and_eq_true_iff.mp ok
  obtain ⟨k5, k6⟩ := Bool.and_eq_true_iff.mp k5
  obtain ⟨hsame, hu, ha, hap, hm⟩ := frees_parts k5
  refine ⟨⟨hb, o1, by show r.makers.map _ = []; rw [hm]; rfl⟩, hw.witness, fun w => ⟨(left.behind hX hch w).1, fun s' hs' => ?_⟩⟩
  obtain ⟨s₀, hf, hg0, s, hT, hz, hgens, hg, G00, y⟩ := (left.behind (XP := fun mg h => XL myView [] mg h ∧ RecFacts r.records h) (fun s hs => ⟨hX s hs, hRf s hs⟩) hch w).2 s' hs'
  have G0 : Ground myView loose [] (XL myView []) w s (s.heap.nsMap mainGlobals) (s.heap.nsMap builtinsNs) s.heap := ⟨G00.T, G00.B, G00.D, G00.TE, G00.TD, G00.W, G00.X.1, G00.cls, G00.has, G00.apart, G00.once, G00.K⟩
  have RF := G00.X.2
  have hT' := hT
  refine ⟨s₀, hf, hg0, s, hT, (fun n hn => ?_), RF.1, RF.2.1, ?_⟩
  · obtain rfl : n = r.name := by split at hn <;> simp_all
    exact pinned_of_view hg G0 hdef hp hk
  have hgens : s.gens = #[] := Array.eq_empty_of_size_eq_zero (beq_iff_eq.mp hgens)
  have G : Ground myView loose r.records (XL myView []) w s _ _ s.heap := RF.ground G0
  refine callFrom_of (c := r.toRowW.claim) (tree := fun vs => do match ← nsGet mainNs r.name with
      | some f => do ret (← PySem.call f vs)
      | none => unsupported "claim.caller:no-such-global") hz hgens fun args hpre hlay ord hord => ?_
  obtain ⟨⟨vs, s₁⟩, hlaid⟩ := Option.isSome_iff_exists.mp (layAllW_isSome (P := w.params) (ord := ord) G.has args r.args s (pre_splitW hpre).1)
  have keeps := layAllW_keeps _ _ _ hlaid
  have hal := layAllW_rest _ _ _ hlaid
  obtain ⟨as, hrd, hin, hold⟩ := reads_layAllW hord _ _ _ hlaid hlay s₁.heap (fun _ _ e => e)
  have L : Laid r.records w s s₁ args vs as := ⟨⟨ord, hord, hlaid⟩, hrd, hin, hold, keeps, hal.1.trans hgens, hal.2.2.1⟩
  have G₁ := G.keeps hXk keeps
  obtain ⟨a, o, pm, cd, doc, dV, kV, h1, h2, h3, h4, h5⟩ := G₁.fn hdef
  have h := call w s s₁ _ _ G₁ (hYk _ _ _ (hY w s y) keeps) a o pm cd doc dV kV h2 h3 h4 h5 (defOf_name hdef ▸ h1) L.gens args vs as hpre hlay L.reads L.well (L.low G.low)
  have hi := ident_freeW hu ha hap
  have hwi : r.claim.within = [] := List.isEmpty_iff.mp k6
  refine ⟨vs, s₁, hlaid, wpTop_bind (wpTop_of_any (wpAny_nsGet G₁.T.g ?_))⟩
  rw [h1]
  refine wpTop_bind (wpTop_mono h (fun v s' g => wpTop_pure ?_) fun e s' g => ?_)
  · exact ⟨_, rfl, have z := g.laid (c := r.claim) hsame hwi hi L; ⟨z.1, z.2.1, z.2.2, fun q => ⟨namesKept_of hT' hg r.keeps keeps g.2.1.old, noTable hwr q⟩⟩⟩
  · exact (have z := g.laid (c := r.claim) hsame hwi hi L; ⟨z.1, z.2.1, z.2.2, fun q => ⟨namesKept_of hT' hg r.keeps keeps g.2.1.old, noTable hwr q⟩⟩)

end FbTop

/-! F1 -/
namespace Fb
/-! ## contexts that bear no frame which lends a bytearray -/
def badIds : List String := Builtin.Bytes.decodersThatHold ++ ["bytearray.__contains__", "bytearray.__mod__", "bytearray.__rmod__", "bytearray.find.held", "_struct.pack_into.held"]
def calmC : Code → Bool
  | .builtin id _ => !badIds.contains id
  | _ => true
def Calm (Γ : Ctx) : Prop := calmC Γ.code = true ∧ ∀ x ∈ Γ.below, calmC x.1 = true

def wpP {α : Type} (M : Model) (A : Around) (t : Sem α) (Q : α → Shared → Prop) (s : Shared) : Prop :=
  ∀ Γ p, Γ.In A → Calm Γ → Sem.wp M Γ t (fun a _ s' => Q a s') (fun _ _ _ => False) p s
def codeP (M : Model) (A : Around) (c : Code) (R : Flow → Shared → Prop) (s : Shared) : Prop :=
  ∀ Γ p, Γ.code = c → Γ.Below A → (∀ x ∈ Γ.below, calmC x.1 = true) → wpCode M Γ (fun r s' => match r with | .ok f => R f s' | .error _ => False) p s

section
variable {α β : Type} {M : Model} {A : Around} {s : Shared}
theorem wpP_of_any {t : Sem α} {Q : α → Shared → Prop} (h : wpAny M A t Q (fun _ _ => False) s) : wpP M A t Q s := fun Γ p hΓ _ => h Γ p hΓ
theorem wpP_pure {a : α} {Q : α → Shared → Prop} (h : Q a s) : wpP M A (pure a) Q s := fun _ _ _ _ => h
theorem wpP_mono {t : Sem α} {Q Q' : α → Shared → Prop} (h : wpP M A t Q s) (hQ : ∀ a s, Q a s → Q' a s) : wpP M A t Q' s :=
  fun Γ p hΓ hc => Sem.wp_mono M Γ t (fun a _ s => hQ a s) (fun _ _ _ h => h) p s (h Γ p hΓ hc)
theorem wpP_bind {m : Sem α} {f : α → Sem β} {Q : β → Shared → Prop} (h : wpP M A m (fun a s' => wpP M A (f a) Q s') s) : wpP M A (m >>= f) Q s := fun Γ p hΓ hc => by
  rw [Sem.wp_bind']
  exact Sem.wp_mono M Γ m (fun a p' s' h' => h' Γ p' hΓ hc) (fun _ _ _ h' => h') p s (h Γ p hΓ hc)
theorem wpP_holding {vs : List Value} {m : Sem α} {Q : α → Shared → Prop} (h : wpP M A m Q s) : wpP M A (holding vs m) Q s := fun Γ p hΓ hc => by
  rw [Sem.wp_holding]; exact h Γ p hΓ hc
theorem wpP_standAt {pos : Pos} {Q : Unit → Shared → Prop} (h : Q () s) : wpP M A (standAt pos) Q s := fun _ _ _ _ => h
theorem wpP_rule {tag : String} {Q : Unit → Shared → Prop} (h : Q () s) : wpP M A (rule tag) Q s := fun _ _ _ _ => h
theorem wpP_point {Q : Unit → Shared → Prop} (h : Q () s) : wpP M A point Q s := fun _ _ _ _ => h
theorem wpP_operate {vs : List Value} {m : Sem Value} {Q : Value → Shared → Prop} (h : wpP M A m Q s) : wpP M A (operate vs m) Q s := fun Γ p hΓ hc => by
  rw [Sem.wp_operate]; exact h Γ p hΓ hc
theorem wpP_release {vs keep : List Value} {Q : Unit → Shared → Prop} (h : Q () s) : wpP M A (release vs keep) Q s := fun Γ p hΓ hc => by
  rw [Sem.wp_release]; exact h
theorem wpP_onRaise {m : Sem α} {k : Value → Sem Unit} {Q : α → Shared → Prop} (h : wpP M A m Q s) : wpP M A (m.onRaise k) Q s := fun Γ p hΓ hc => by
  rw [Sem.wp_onRaise]
  exact Sem.wp_mono M Γ m (fun _ _ _ h' => h') (fun _ _ _ h' => h'.elim) p s (h Γ p hΓ hc)
theorem wpP_tryCatch {m : Sem α} {k : Value → Sem α} {Q : α → Shared → Prop} (h : wpP M A m Q s) : wpP M A (tryCatch m k) Q s := fun Γ p hΓ hc => by
  rw [Sem.wp_tryCatch']
  exact Sem.wp_mono M Γ m (fun _ _ _ h' => h') (fun _ _ _ h' => h'.elim) p s (h Γ p hΓ hc)
theorem wpP_attempt {m : Sem α} {Q : Except Value α → Shared → Prop} (h : wpP M A m (fun a s' => Q (.ok a) s') s) : wpP M A m.attempt Q s := fun Γ p hΓ hc => by
  rw [Sem.wp_attempt]
  exact Sem.wp_mono M Γ m (fun _ _ _ h' => h') (fun _ _ _ h' => h'.elim) p s (h Γ p hΓ hc)
theorem wpP_load {a : Addr} {o : Obj} {Q : Obj → Shared → Prop} (ho : s.heap.get? a = some o) (h : Q o s) : wpP M A (load a) Q s := fun Γ p _ _ => (Sem.wp_load_of M Γ _ p s ho _).mpr h
theorem wpP_stackAny {f : Code × Pos → Bool} {Q : Bool → Shared → Prop} (hf : ∀ c p, calmC c = true → f (c, p) = false) (h : Q false s) : wpP M A (do return (← stack).any f) Q s := fun Γ p _ hc => by
  show Q (((Γ.code, p) :: Γ.below).any f) s
  have : ((Γ.code, p) :: Γ.below).any f = false := by
    rw [List.any_eq_false]
    intro x hx
    rcases List.mem_cons.mp hx with rfl | hx
    · simp [hf _ p hc.1]
    · obtain ⟨c, q⟩ := x
      simp [hf c q (hc.2 _ hx)]
  rw [this]; exact h
theorem wpP_run {c : Code} {Q : Flow → Shared → Prop} (h : codeP M A c Q s) : wpP M A (run c) Q s := fun Γ p hΓ hc => by
  rw [Sem.wp_run]
  have hb := hΓ.enter c none p (by intro x; cases x)
  refine wpCode_mono (fun r s' hr => ?_) (h _ p rfl hb fun x hx => ?_)
  · cases r with
    | ok f => exact hr
    | error e => exact hr
  · rcases List.mem_cons.mp hx with rfl | hx
    · exact hc.1
    · exact hc.2 x hx
theorem wpP_runOwn {c : Code} {env : Env} {Q : Flow → Shared → Prop} (h : codeP M A c Q s) : wpP M A (runOwn c env) Q s := wpP_onRaise (wpP_run h)
theorem wpP_runValue {c : Code} {Q : Value → Shared → Prop} (h : codeP M A c (fun f s' => match f with | .ret v => Q v s' | _ => False) s) : wpP M A (runValue c) Q s :=
  wpP_bind (wpP_mono (wpP_run h) fun f s' hf => by
    cases f with
    | ret v => exact wpP_pure hf
    | _ => exact hf.elim)
theorem wpP_call {f : Value} {pos : List Value} {kw : List (Str × Value)} {Q : Value → Shared → Prop} (h : codeP M A (.call f ⟨pos, kw⟩) (fun f s' => match f with | .ret v => Q v s' | _ => False) s) : wpP M A (call f pos kw) Q s := wpP_runValue h
theorem codeP_mono {c : Code} {R R' : Flow → Shared → Prop} (h : codeP M A c R s) (hR : ∀ f s, R f s → R' f s) : codeP M A c R' s :=
  fun Γ p hc hΓ hb => wpCode_mono (fun r s' hr => by cases r with | ok f => exact hR f s' hr | error e => exact hr) (h Γ p hc hΓ hb)
theorem codeP_of_any {c : Code} {R : Flow → Shared → Prop} (h : codeAny M A c (fun r s' => match r with | .ok f => R f s' | .error _ => False) s) : codeP M A c R s :=
  fun Γ p hc hΓ _ => h Γ p hc hΓ
theorem codeP_of_tree {c : Code} {R : Flow → Shared → Prop} (hcm : calmC c = true)
    (h : wpP M (A.under c) (M.den c) (fun fin s' => match fin with | .done f => R f s' | .again c' => c'.quiet = true ∧ codeP M A c' R s') s) : codeP M A c R s := fun Γ p hc hΓ hb => by
  rw [wpCode_iff_wp, hc]
  refine Sem.wp_mono M Γ _ (fun fin p' s' h' => ?_) (fun _ _ _ h' => h') p s (h Γ p (hc ▸ hΓ.in) ⟨by rw [hc]; exact hcm, hb⟩)
  cases fin with
  | done f => exact h'
  | again c' => exact ⟨h'.1, h'.2 (Γ.goto c') p' rfl (hΓ.goto c') hb⟩
end

/-! ## the state of a frame -/
abbrev Led := List (Addr × Obj)
abbrev Loc := List (Str × Option Value)
structure Cx where
  prog : Program
  w : World
  K : Frag
  A : Around
  g : Heap
  env : Env
  names : List Str
  n : Nat
  G : Array GenState
  D : Drawn
  O : OsState
def vfun (loc : Loc) : Str → Option Value := fun x => (loc.lookup x).join
structure Cx.Ok (C : Cx) : Prop where
  X : C.K.In C.g
  T : ∃ p loose mg mb, TopRead p loose mg mb C.g
  hd : C.A.handled = none
  kf : C.env.scope.kind = .function
  gl : C.env.globals = mainGlobals
  bl : C.env.builtins = builtinsNs
  nd : C.names.Nodup
  kl : ∀ x ∈ C.names, C.env.kindOf x = some .local
  sn : (C.env.scope.names.map (·.1)).Nodup
  nb : ∀ x ∈ C.names, (x == ("__debug__" : Str)) = false
  dp : C.A.depth + 8 * C.n ≤ 900
  un : C.A.units + 40 * C.n ≤ 9000
structure St (C : Cx) (loc : Loc) (led : Led) (s : Shared) : Prop where
  nm : loc.map (·.1) = C.names
  fr : Fr C.g C.env.locals s.heap (vfun loc)
  nw : News C.g C.env.locals s.heap led
  nd : (led.map (·.1)).Nodup
  gens : s.gens = C.G
  dr : s.drawn = C.D
  os : s.os = C.O
def Run {α : Type} (C : Cx) (t : Sem α) (loc : Loc) (led : Led) (Q : α → Loc → Led → Prop) : Prop :=
  C.Ok → ∀ s, St C loc led s → wpP (model C.prog C.w) C.A t (fun a s' => ∃ loc' led', St C loc' led' s' ∧ Q a loc' led') s

section
variable {α β : Type} {C : Cx} {loc : Loc} {led : Led}
theorem Run.pure {a : α} {Q : α → Loc → Led → Prop} (h : Q a loc led) : Run C (pure a) loc led Q := fun _ _ hs => wpP_pure ⟨_, _, hs, h⟩
theorem Run.bind {m : Sem α} {f : α → Sem β} {Q : β → Loc → Led → Prop} (h : Run C m loc led (fun a loc led => Run C (f a) loc led Q)) : Run C (m >>= f) loc led Q :=
  fun ok s hs => wpP_bind (wpP_mono (h ok s hs) fun a s' ⟨_, _, hs', hq⟩ => hq ok s' hs')
theorem Run.mono {t : Sem α} {Q Q' : α → Loc → Led → Prop} (h : Run C t loc led Q) (hQ : ∀ a loc led, Q a loc led → Q' a loc led) : Run C t loc led Q' :=
  fun ok s hs => wpP_mono (h ok s hs) fun a s' ⟨l, d, hs', hq⟩ => ⟨l, d, hs', hQ a l d hq⟩
theorem Run.eq {t t' : Sem α} {Q : α → Loc → Led → Prop} (e : t = t') (h : Run C t' loc led Q) : Run C t loc led Q := e ▸ h
theorem Run.any {t : Sem α} {Q : α → Loc → Led → Prop} (h : C.Ok → ∀ s, St C loc led s → wpAny (model C.prog C.w) C.A t (fun a s' => ∃ loc' led', St C loc' led' s' ∧ Q a loc' led') (fun _ _ => False) s) : Run C t loc led Q :=
  fun ok s hs => wpP_of_any (h ok s hs)
theorem Run.holding {vs : List Value} {m : Sem α} {Q : α → Loc → Led → Prop} (h : Run C m loc led Q) : Run C (holding vs m) loc led Q := fun ok s hs => wpP_holding (h ok s hs)
theorem Run.operate {vs : List Value} {m : Sem Value} {Q : Value → Loc → Led → Prop} (h : Run C m loc led Q) : Run C (operate vs m) loc led Q := fun ok s hs => wpP_operate (h ok s hs)
theorem Run.release {vs k : List Value} {Q : Unit → Loc → Led → Prop} (h : Q () loc led) : Run C (release vs k) loc led Q := fun _ _ hs => wpP_release ⟨_, _, hs, h⟩
theorem Run.standAt {p : Pos} {Q : Unit → Loc → Led → Prop} (h : Q () loc led) : Run C (standAt p) loc led Q := fun _ _ hs => wpP_standAt ⟨_, _, hs, h⟩
theorem Run.rule {t : String} {Q : Unit → Loc → Led → Prop} (h : Q () loc led) : Run C (rule t) loc led Q := fun _ _ hs => wpP_rule ⟨_, _, hs, h⟩
theorem Run.point {Q : Unit → Loc → Led → Prop} (h : Q () loc led) : Run C point loc led Q := fun _ _ hs => wpP_point ⟨_, _, hs, h⟩
theorem Run.onRaise {m : Sem α} {k : Value → Sem Unit} {Q : α → Loc → Led → Prop} (h : Run C m loc led Q) : Run C (m.onRaise k) loc led Q := fun ok s hs => wpP_onRaise (h ok s hs)
theorem Run.tryCatch {m : Sem α} {k : Value → Sem α} {Q : α → Loc → Led → Prop} (h : Run C m loc led Q) : Run C (tryCatch m k) loc led Q := fun ok s hs => wpP_tryCatch (h ok s hs)
theorem Run.letS {m : Sem Unit} {t : Sem α} {Q : α → Loc → Led → Prop} (hm : ∀ Q' : Unit → Loc → Led → Prop, Q' () loc led → Run C m loc led Q') (h : Run C t loc led Q) : Run C (m >>= fun _ => t) loc led Q := Run.bind (hm _ h)
theorem Run.at_ {p : Pos} {t : Sem α} {Q : α → Loc → Led → Prop} (h : Run C t loc led Q) : Run C (PySem.standAt p >>= fun _ => t) loc led Q := Run.bind (Run.standAt h)
theorem St.toks {s : Shared} (h : St C loc led s) (k : Nat) : St C loc led { s with toks := k } := ⟨h.nm, h.fr, h.nw, h.nd, h.gens, h.dr, h.os⟩
theorem St.fresh {s : Shared} (h : St C loc led s) : ∀ p ∈ led, p.1 ≠ s.heap.objs.size := fun p hp => Nat.ne_of_lt (Heap.lt_size (h.nw p hp).1)
theorem St.push {s : Shared} (h : St C loc led s) (o : Obj) (hf : o.isFreed = false := by rfl) : St C loc ((s.heap.objs.size, o) :: led) { s with heap := s.heap.push o } :=
  ⟨h.nm, h.fr.push o, h.nw.push h.fr o hf, List.nodup_cons.mpr ⟨fun hm => by obtain ⟨p, hp, e⟩ := List.mem_map.mp hm; exact h.fresh p hp e, h.nd⟩, h.gens, h.dr, h.os⟩
/-- a state whose heap is told by F and N -/
theorem St.of {s : Shared} {h' : Heap} {loc' : Loc} {led' : Led} {k : Nat} (h : St C loc led s) (hl : loc'.map (·.1) = C.names) (F : Fr C.g C.env.locals h' (vfun loc')) (N : News C.g C.env.locals h' led') (hn : (led'.map (·.1)).Nodup) :
    St C loc' led' { s with heap := h', toks := k } := ⟨hl, F, N, hn, h.gens, h.dr, h.os⟩
theorem St.sub {s : Shared} {led' : Led} (h : St C loc led s) (hs : ∀ p ∈ led', p ∈ led) (hn : (led'.map (·.1)).Nodup) : St C loc led' s :=
  ⟨h.nm, h.fr, fun p hp => h.nw p (hs p hp), hn, h.gens, h.dr, h.os⟩

/-! the ledger: its places -/
inductive Put (a : Addr) (o o' : Obj) : Led → Led → Prop
  | here {l} : Put a o o' ((a, o) :: l) ((a, o') :: l)
  | there {p l l'} : Put a o o' l l' → Put a o o' (p :: l) (p :: l')
theorem Put.keys {a : Addr} {o o' : Obj} {l l' : Led} (h : Put a o o' l l') : l'.map (·.1) = l.map (·.1) := by
  induction h with
  | here => rfl
  | there _ ih => rw [List.map_cons, List.map_cons, ih]
theorem Put.mem {a : Addr} {o o' : Obj} {l l' : Led} (h : Put a o o' l l') : (a, o) ∈ l := by
  induction h with
  | here => exact .head _
  | there _ ih => exact .tail _ ih
theorem Put.upd {a : Addr} {o o' : Obj} {l l' : Led} (h : Put a o o' l l') (hn : (l.map (·.1)).Nodup) : Upd a o o' l l' := by
  induction h with
  | here => exact .head fun p hp e => (List.nodup_cons.mp hn).1 (by have := List.mem_map_of_mem (f := (·.1)) hp; rw [e] at this; exact this)
  | there h ih =>
    rw [List.map_cons, List.nodup_cons] at hn
    exact .tail (fun e => hn.1 (by rw [e]; exact List.mem_map_of_mem (f := (·.1)) h.mem)) (ih hn.2)
inductive SetL (x : Str) (v : Value) : Loc → Loc → Prop
  | here {o l} : SetL x v ((x, o) :: l) ((x, some v) :: l)
  | there {p l l'} : SetL x v l l' → SetL x v (p :: l) (p :: l')
theorem SetL.keys {x : Str} {v : Value} {l l' : Loc} (h : SetL x v l l') : l'.map (·.1) = l.map (·.1) := by
  induction h with
  | here => rfl
  | there _ ih => rw [List.map_cons, List.map_cons, ih]
theorem SetL.mem {x : Str} {v : Value} {l l' : Loc} (h : SetL x v l l') : x ∈ l.map (·.1) := by
  induction h with
  | here => exact .head _
  | there _ ih => exact .tail _ ih
theorem SetL.fn {x : Str} {v : Value} {l l' : Loc} (h : SetL x v l l') (hn : (l.map (·.1)).Nodup) : vfun l' = fun y => if y = x then some v else vfun l y := by
  induction h with
  | @here o l =>
    funext y
    unfold vfun
    rw [List.lookup_cons, List.lookup_cons]
    by_cases e : y = x
    · subst e; simp
    · have : (y == x) = false := by simpa using e
      simp [this, e]
  | @there p l l' h ih =>
    rw [List.map_cons, List.nodup_cons] at hn
    funext y
    unfold vfun
    obtain ⟨z, o⟩ := p
    rw [List.lookup_cons, List.lookup_cons]
    by_cases e : y = z
    · subst e
      have : y ≠ x := fun e => hn.1 (e ▸ h.mem)
      simp [this]
    · have hz : (y == z) = false := by simpa using e
      simp only [hz]
      exact congrFun (ih hn.2) y
inductive Lk (x : Str) (v : Value) : Loc → Prop
  | here {l} : Lk x v ((x, some v) :: l)
  | there {p l} : Lk x v l → Lk x v (p :: l)
theorem Lk.mem {x : Str} {v : Value} {l : Loc} (h : Lk x v l) : (x, some v) ∈ l := by
  induction h with
  | here => exact .head _
  | there _ ih => exact .tail _ ih
theorem Lk.fn {x : Str} {v : Value} {l : Loc} (h : Lk x v l) (hn : (l.map (·.1)).Nodup) : vfun l x = some v := by
  induction h with
  | here => unfold vfun; rw [List.lookup_cons]; simp
  | @there p l h ih =>
    rw [List.map_cons, List.nodup_cons] at hn
    unfold vfun
    obtain ⟨z, o⟩ := p
    have : (x == z) = false := by
      have : x ≠ z := fun e => hn.1 (by have := List.mem_map_of_mem (f := (·.1)) h.mem; rw [e] at this; exact this)
      simpa using this
    rw [List.lookup_cons, this]
    exact ih hn.2
theorem St.ndl {s : Shared} (ok : C.Ok) (h : St C loc led s) : (loc.map (·.1)).Nodup := by rw [h.nm]; exact ok.nd
theorem St.setL {s : Shared} {h' : Heap} {loc' : Loc} {x : Str} {v : Value} (ok : C.Ok) (h : St C loc led s) (hl : SetL x v loc loc') (F : Fr C.g C.env.locals h' (fun y => if y = x then some v else vfun loc y)) (N : News C.g C.env.locals h' led) {k : Nat} :
    St C loc' led { s with heap := h', toks := k } := h.of (hl.keys.trans h.nm) (by rw [hl.fn (h.ndl ok)]; exact F) N h.nd

/-! names -/
theorem run_local {x : Str} {pos : Pos} {v : Value} {Q : Value → Loc → Led → Prop} (hv : Lk x v loc) (h : Q v loc led) : Run C (eval (.Name x pos) C.env) loc led Q := Run.any fun ok s hs => by
  have hx : x ∈ C.names := hs.nm ▸ List.mem_map_of_mem hv.mem
  exact wpAny_Name (wpAny_loadName_local ok.kf (ok.kl x hx) hs.fr.ns (hv.fn (hs.ndl ok)) ⟨_, _, hs, h⟩) (ok.nb x hx)
theorem run_loadLocal {x : Str} {v : Value} {Q : Value → Loc → Led → Prop} (hv : Lk x v loc) (h : Q v loc led) : Run C (loadName C.env x) loc led Q := Run.any fun ok s hs => by
  have hx : x ∈ C.names := hs.nm ▸ List.mem_map_of_mem hv.mem
  exact wpAny_loadName_local ok.kf (ok.kl x hx) hs.fr.ns (hv.fn (hs.ndl ok)) ⟨_, _, hs, h⟩
theorem run_bindName {x : Str} {v : Value} {loc' : Loc} {Q : Unit → Loc → Led → Prop} (hl : SetL x v loc loc') (h : Q () loc' led) : Run C (bindName C.env x v) loc led Q := Run.any fun ok s hs => by
  have hx : x ∈ C.names := hs.nm ▸ hl.mem
  refine wpAny_bindName (wpAny_storeName_local (ok.kl x hx) hs.fr.ns (fun h' hn hs' => ⟨_, _, hs.setL ok hl (hs.fr.set hn hs') (hs.nw.set hs'), h⟩) ?_)
  rw [ok.kf]; rfl

end
end Fb

/-! F2 -/
namespace Fb
/-! ## calls -/
abbrev Ext (g h : Heap) : Prop := ∀ b o, g.get? b = some o → h.get? b = some o
structure Owns (g h : Heap) (l : Led) : Prop where
  at_ : ∀ p ∈ l, h.get? p.1 = some p.2 ∧ g.get? p.1 = none
  nd : (l.map (·.1)).Nodup
def retV : Flow → Value
  | .ret v => v
  | _ => .none
def CallP (prog : Program) (w : World) (K : Frag) (fv : Value) (args : List Value) (kw : List (Str × Value)) (n : Nat) (pre : Led) (Q : Value → Led → Prop) : Prop :=
  ∀ (A : Around) (g : Heap) (s : Shared), A.handled = none → A.depth + 8 * n ≤ 900 → A.units + 40 * n ≤ 9000 → K.In g → (∃ p loose mg mb, TopRead p loose mg mb g) → g.objs.size ≤ s.heap.objs.size →
    Ext g s.heap → Owns g s.heap pre → codeP (model prog w) A (.call fv ⟨args, kw⟩)
      (fun f s' => ∃ v led', f = .ret v ∧ Ext g s'.heap ∧ Owns g s'.heap led' ∧ s'.gens = s.gens ∧ s'.drawn = s.drawn ∧ s'.os = s.os ∧ Q v led') s

/-- the facts of a frame that are written out -/
structure Cx.Is (C : Cx) (prog : Program) (w : World) (K : Frag) (n : Nat) (sc : List (Str × NameKind)) : Prop where
  prog : C.prog = prog
  w : C.w = w
  K : C.K = K
  n : C.n = n
  sc : C.env.scope.names = sc

inductive Rem (e : Addr × Obj) : Led → Led → Prop
  | here {l} : Rem e (e :: l) l
  | there {x l l'} : Rem e l l' → Rem e (x :: l) (x :: l')
theorem Rem.perm {e : Addr × Obj} {l l' : Led} (h : Rem e l l') : l.Perm (e :: l') := by
  induction h with
  | here => exact .refl _
  | there _ ih => exact (ih.cons _).trans (.swap ..)
inductive Pick : Led → Led → Led → Prop
  | nil {l} : Pick l [] l
  | cons {l e l' fp rest} : Rem e l l' → Pick l' fp rest → Pick l (e :: fp) rest
theorem Pick.perm {l fp rest : Led} (h : Pick l fp rest) : l.Perm (fp ++ rest) := by
  induction h with
  | nil => exact .refl _
  | cons hr _ ih => exact hr.perm.trans (ih.cons _)

section
variable {α : Type} {C : Cx} {loc : Loc} {led : Led}
theorem Run.drop {t : Sem α} {Q : α → Loc → Led → Prop} {keep rest : Led} (hp : Pick led keep rest) (h : Run C t loc keep Q) : Run C t loc led Q := fun ok s hs =>
  h ok s (hs.sub (fun p hm => hp.perm.mem_iff.mpr (List.mem_append_left _ hm)) (by
    have := (hp.perm.map (·.1)).nodup_iff.mp hs.nd
    rw [List.map_append] at this
    exact (List.nodup_append.mp this).1))
/-- the ledger in another order -/
theorem Run.perm {t : Sem α} {Q : α → Loc → Led → Prop} {led' : Led} (hp : led.Perm led') (h : Run C t loc led' Q) : Run C t loc led Q := fun ok s hs =>
  h ok s (hs.sub (fun p hm => hp.mem_iff.mpr hm) ((hp.map (·.1)).nodup_iff.mp hs.nd))

theorem Run.call {prog : Program} {w : World} {K : Frag} {m n : Nat} {sc : List (Str × NameKind)} {fv : Value} {args : List Value} {kw : List (Str × Value)} {fp rest : Led} {Q' : Value → Led → Prop} {Q : Value → Loc → Led → Prop}
    (hC : C.Is prog w K m sc) (hs : CallP prog w K fv args kw n fp Q') (hn : Nat.ble n m = true) (hp : Pick led fp rest) (h : ∀ v led', Q' v led' → Q v loc (led' ++ rest)) : Run C (call fv args kw) loc led Q := fun ok s st => by
  obtain ⟨e1, e2, e3, e4, _⟩ := hC
  have hn' : n ≤ C.n := by rw [e4]; exact Nat.le_of_ble_eq_true hn
  have hd := hp.perm
  have nd : ((fp ++ rest).map (·.1)).Nodup := (hd.map (·.1)).nodup_iff.mp st.nd
  rw [List.map_append] at nd
  have nd' := List.nodup_append.mp nd
  have nw : News C.g C.env.locals s.heap (fp ++ rest) := fun p hm => st.nw p (hd.mem_iff.mpr hm)
  have kg : Ext C.g (hideAll s.heap (fp.map (·.1))) := fun b o e => hideAll_get _ (st.fr.keep b o e) fun hm => by
    obtain ⟨p, hp, rfl⟩ := List.mem_map.mp hm
    have := (nw p (List.mem_append_left _ hp)).2.2
    rw [e] at this; cases this
  have hL : C.env.locals ∉ fp.map (·.1) := fun hm => by
    obtain ⟨p, hp, e⟩ := List.mem_map.mp hm
    exact (nw p (List.mem_append_left _ hp)).2.1 e
  obtain ⟨p0, l0, mg, mb, T⟩ := ok.T
  subst e1 e2 e3
  have X2 := ok.X.keeps kg
  have T2 := T.keeps kg
  have own2 : Owns (hideAll s.heap (fp.map (·.1))) s.heap fp := ⟨fun p hm => ⟨(nw p (List.mem_append_left _ hm)).1, hideAll_none _ (List.mem_map_of_mem (f := (·.1)) hm)⟩, nd'.1⟩
  have key := hs C.A (hideAll s.heap (fp.map (·.1))) s ok.hd (by have := ok.dp; omega) (by have := ok.un; omega) X2 ⟨p0, l0, mg, mb, T2⟩
    (Nat.le_of_eq (hideAll_size _ _)) (fun b o e => of_hideAll _ e) own2
  refine wpP_call (codeP_mono key fun f s' hf => ?_)
  obtain ⟨v, led', rfl, hx, ho, h1, h2, h3, hq⟩ := hf
  refine ⟨loc, led' ++ rest, ⟨st.nm, ?_, ?_, ?_, h1.trans st.gens, h2.trans st.dr, h3.trans st.os⟩, h v led' hq⟩
  · obtain ⟨oL, es, ep, a1, a2⟩ := st.fr.ns
    exact ⟨⟨oL, es, ep, hx _ _ (hideAll_get _ a1 hL), a2⟩, fun b o e => hx b o (kg b o e), st.fr.above⟩
  · intro p hm
    rcases List.mem_append.mp hm with hm | hm
    · have q := ho.at_ p hm
      refine ⟨q.1, fun e => ?_, ?_⟩
      · obtain ⟨oL, es, ep, a1, a2⟩ := st.fr.ns
        have := hideAll_get (fp.map (·.1)) a1 hL
        rw [← e, q.2] at this; cases this
      · cases e : C.g.get? p.1 with
        | none => rfl
        | some o => have := kg _ _ e; rw [q.2] at this; cases this
    · have q := nw p (List.mem_append_right _ hm)
      refine ⟨hx _ _ (hideAll_get _ q.1 fun hm' => ?_), q.2⟩
      exact nd'.2.2 _ hm' _ (List.mem_map_of_mem hm) rfl
  · rw [List.map_append]
    refine List.nodup_append.mpr ⟨ho.nd, nd'.2.1, fun a ha b hb e => ?_⟩
    obtain ⟨p, hp', rfl⟩ := List.mem_map.mp ha
    obtain ⟨q, hq', rfl⟩ := List.mem_map.mp hb
    have x1 := (ho.at_ p hp').2
    have x2 := hideAll_get (fp.map (·.1)) (nw q (List.mem_append_right _ hq')).1 fun hm' => nd'.2.2 _ hm' _ (List.mem_map_of_mem hq') rfl
    rw [e, x2] at x1; cases x1
end

/-! a frame is entered -/
theorem codeP_func {prog : Program} {w : World} {A : Around} {s : Shared} {body : List Stmt} {env : Env} {R : Flow → Shared → Prop}
    (h : wpP (model prog w) (A.deeper env) (execs body env) (fun f s' => R (.ret (retV f)) s') s) : codeP (model prog w) A (.func body env) R s := by
  refine codeP_of_tree rfl ?_
  show wpP _ (A.deeper env) (do point; match ← (execs body env).onRaise (leaving env) with | .ret v => ret v | _ => ret .none) _ s
  refine wpP_bind (wpP_point (wpP_bind (wpP_onRaise (wpP_mono h fun f s' h' => ?_))))
  cases f <;> exact wpP_pure h'
theorem codeP_call_function {prog : Program} {w : World} {A : Around} {s : Shared} {R : Flow → Shared → Prop} {a : Addr} {args : Args} {o : Obj} {fd : FuncData} {body : List Stmt} (hroom : A.depth < recursionLimit)
    (ho : s.heap.get? a = some o) (hd' : o.data = .func fd) (hco : fd.scope.isCoroutine = false) (hgen : fd.scope.isGenerator = false) (hbody : fd.body = .stmts body) (hcd : s.heap.CodeRec fd.code fd.qualname)
    (h : wpP (model prog w) A.in1 (bindArgs fd args) (fun binds s₁ =>
      wpP (model prog w) A.in1 (newFunctionEnv fd.scope fd.globals fd.closure binds (fd.qualname ++ ".<locals>.") (some a) fd.code none fd.builtins)
        (fun env s₂ => s₂.heap.NoLimit ∧ codeP (model prog w) A (.func body env) R s₂) s₁) s) : codeP (model prog w) A (.call (.ref a) args) R s := by
  refine codeP_of_tree rfl ?_
  show wpP _ A.in1 (callAny (.ref a) args) _ s
  simp only [callAny]
  refine wpP_bind (wpP_load ho ?_)
  obtain ⟨c, oc, vs, tq, hc, hoc, hdc, hq⟩ := hcd
  simp only [hd', callFunction, hco, hgen, hbody, hc]
  rw [hc] at h
  refine wpP_bind (m := field (.ref c) 1) (wpP_of_any (wpAny_field hoc hdc hq (wpP_bind (wpP_pure ?_))))
  exact wpP_bind (wpP_mono h fun binds s₁ h₁ => wpP_bind (wpP_mono h₁ fun env s₂ h₂ => wpP_bind (wpP_of_any (wpAny_enterFrame h₂.1 hroom (wpP_pure (And.intro rfl h₂.2))))))

inductive Binds (sc : List (Str × NameKind)) : List (Str × Value) → Loc → Loc → Prop
  | nil {l} : Binds sc [] l l
  | loc {x v r l l₁ l₂} : (x, NameKind.local) ∈ sc → SetL x v l l₁ → Binds sc r l₁ l₂ → Binds sc ((x, v) :: r) l l₂
  | cel {x v r l l₂} : (x, NameKind.cell) ∈ sc → Binds sc r l l₂ → Binds sc ((x, v) :: r) l l₂
inductive BindsC (sc : List (Str × NameKind)) : List (Str × Value) → Loc → Loc → Prop
  | nil {l} : BindsC sc [] l l
  | loc {x v r l l₂} : (x, NameKind.local) ∈ sc → BindsC sc r l l₂ → BindsC sc ((x, v) :: r) l l₂
  | cel {x v r l l₁ l₂} : (x, NameKind.cell) ∈ sc → SetL x v l l₁ → BindsC sc r l₁ l₂ → BindsC sc ((x, v) :: r) l l₂
theorem lookup_kind {sc : List (Str × NameKind)} {x : Str} {k : NameKind} (hn : (sc.map (·.1)).Nodup) (h : (x, k) ∈ sc) : sc.lookup x = some k := by
  induction sc with
  | nil => cases h
  | cons p r ih =>
    obtain ⟨y, k'⟩ := p
    rw [List.map_cons, List.nodup_cons] at hn
    rcases List.mem_cons.mp h with e | h
    · cases e; simp
    · have : x ≠ y := fun e => hn.1 (by have := List.mem_map_of_mem (f := (·.1)) h; rw [e] at this; exact this)
      rw [List.lookup_cons, beq_eq_false_iff_ne.mpr this]
      exact ih hn.2 h
theorem Binds.keys {sc : List (Str × NameKind)} {b : List (Str × Value)} {l l' : Loc} (h : Binds sc b l l') : l'.map (·.1) = l.map (·.1) := by
  induction h with
  | nil => rfl
  | loc _ hs _ ih => exact ih.trans hs.keys
  | cel _ _ ih => exact ih
theorem BindsC.keys {sc : List (Str × NameKind)} {b : List (Str × Value)} {l l' : Loc} (h : BindsC sc b l l') : l'.map (·.1) = l.map (·.1) := by
  induction h with
  | nil => rfl
  | loc _ _ ih => exact ih
  | cel _ hs _ ih => exact ih.trans hs.keys
theorem Binds.fn {sc : List (Str × NameKind)} {kd : Str → Option NameKind} (hk : ∀ x k, (x, k) ∈ sc → kd x = some k) {b : List (Str × Value)} {l l' : Loc} (h : Binds sc b l l') (hn : (l.map (·.1)).Nodup) : bindL kd b (vfun l) = vfun l' := by
  induction h with
  | nil => rfl
  | @loc x v r l l₁ l₂ hm hs _ ih =>
    unfold bindL
    rw [if_pos (hk _ _ hm), ← hs.fn hn]
    exact ih (hs.keys ▸ hn)
  | @cel x v r l l₂ hm _ ih =>
    unfold bindL
    rw [if_neg (by rw [hk _ _ hm]; intro e; cases e)]
    exact ih hn
theorem BindsC.fn {sc : List (Str × NameKind)} {kd : Str → Option NameKind} (hk : ∀ x k, (x, k) ∈ sc → kd x = some k) {b : List (Str × Value)} {l l' : Loc} (h : BindsC sc b l l') (hn : (l.map (·.1)).Nodup) : bindC kd b (vfun l) = vfun l' := by
  induction h with
  | nil => rfl
  | @loc x v r l l₂ hm _ ih =>
    unfold bindC
    rw [if_pos (hk _ _ hm)]
    exact ih hn
  | @cel x v r l l₁ l₂ hm hs _ ih =>
    unfold bindC
    rw [if_neg (by rw [hk _ _ hm]; intro e; cases e), ← hs.fn hn]
    exact ih (hs.keys ▸ hn)
theorem Binds.kind {sc : List (Str × NameKind)} {b : List (Str × Value)} {l l' : Loc} (h : Binds sc b l l') : ∀ x ∈ b, (x.1, NameKind.local) ∈ sc ∨ (x.1, NameKind.cell) ∈ sc := by
  induction h with
  | nil => intro x hx; cases hx
  | loc hm _ _ ih => intro x hx; rcases List.mem_cons.mp hx with rfl | hx; exact .inl hm; exact ih x hx
  | cel hm _ ih => intro x hx; rcases List.mem_cons.mp hx with rfl | hx; exact .inr hm; exact ih x hx
theorem keys_none (l : List Str) : (l.map fun x => ((x, none) : Str × Option Value)).map (·.1) = l := by
  induction l with
  | nil => rfl
  | cons x r ih => rw [List.map_cons, List.map_cons, ih]
theorem vfun_none (l : List Str) : vfun (l.map fun x => (x, none)) = fun _ => none := by
  funext y
  unfold vfun
  induction l with
  | nil => rfl
  | cons x r ih =>
    rw [List.map_cons, List.lookup_cons]
    cases y == x with
    | true => rfl
    | false => exact ih

/-- the cells of a frame, as its ledger has them -/
inductive CellLed (C : Cx) : Loc → Led → Prop
  | nil : CellLed C [] []
  | cons {x v c o l led} : C.env.cells.lookup x = some c → o.data = .cell v → CellLed C l led → CellLed C ((x, v) :: l) ((c, o) :: led)

theorem cellsFrom_some' {x : Str} (sc : List (Str × NameKind)) (n : Nat) (h : (x, NameKind.cell) ∈ sc) (hn : (sc.map (·.1)).Nodup) : ((cellsFrom n sc []).lookup x).isSome = true :=
  cellsFrom_some _ _ _ (.inl (lookup_kind hn h))

theorem cellLed_of {C : Cx} {cm : Str → Option Value} {cloc : Loc} : ∀ {cs : List (Str × Addr)} {cells : Led}, CellsAre cm cs cells → (∀ x c, (x, c) ∈ cs → C.env.cells.lookup x = some c) → cloc.map (·.1) = cs.map (·.1) → (∀ p ∈ cloc, cm p.1 = p.2) → CellLed C cloc cells := by
  intro cs cells h
  induction h generalizing cloc with
  | nil =>
    intro _ e _
    cases cloc with
    | nil => exact .nil
    | cons _ _ => cases e
  | @cons n c o cs cells hd _ ih =>
    intro hl e hv
    cases cloc with
    | nil => cases e
    | cons p r =>
      obtain ⟨x, v⟩ := p
      rw [List.map_cons, List.map_cons, List.cons.injEq] at e
      obtain ⟨e1, e2⟩ := e
      dsimp only at e1
      subst e1
      refine .cons (hl _ _ (.head _)) ?_ (ih (fun x c hm => hl x c (.tail _ hm)) e2 fun p hp => hv p (.tail _ hp))
      rw [hd, hv (x, v) (.head _)]
theorem cellsAre_keys {cm : Str → Option Value} {cs : List (Str × Addr)} {cells : Led} (h : CellsAre cm cs cells) : cells.map (·.1) = cs.map (·.2) := by
  induction h with
  | nil => rfl
  | cons _ _ ih => rw [List.map_cons, List.map_cons, ih]

theorem CallP.fn {prog : Program} {w : World} {K : Frag} {f : Addr} {oc : Value} {od : Option Addr} {osl : Array (Option Value)} {name qual : Str} {params : Arguments} {body : List Stmt} {scope : Scope} {dV kV doc pm cdv ct : Value} {an : Option Addr}
    {args : List Value} {kw : List (Str × Value)} {n : Nat} {pre : Led} {Q : Value → Led → Prop} {binds : List (Str × Value)} {names : List Str} {loc cloc : Loc}
    (ho : K.lookup f = some ⟨oc, od, .func (fnOf name qual params body scope dV kV doc pm an cdv ct), osl⟩) (hcd : codeIn K cdv qual = true)
    (hbind : ∀ s : Shared, K.In s.heap → BindsTo s (fnOf name qual params body scope dV kV doc pm an cdv ct) ⟨args, kw⟩ binds)
    (hsn : (scope.names.map (·.1)).Nodup) (hnl : ∀ x ∈ names, (x, NameKind.local) ∈ scope.names) (hnn : names.Nodup) (hnb : ∀ x ∈ names, (x == ("__debug__" : Str)) = false)
    (hb : Binds scope.names binds (names.map fun x => (x, none)) loc) (hbc : BindsC scope.names binds ((cloc.map (·.1)).map fun x => (x, none)) cloc)
    (hcn : cloc.map (·.1) = (cellsFrom 0 scope.names []).map (·.1)) (hcnd : (cloc.map (·.1)).Nodup)
    (hco : scope.isCoroutine = false) (hgen : scope.isGenerator = false) (hk : scope.kind = .function)
    (h : ∀ (C : Cx) (cells : Led), C.Is prog w K n scope.names → CellLed C cloc cells → Run C (execs body C.env) loc (cells ++ pre) (fun fl _ led => Q (retV fl) led)) :
    CallP prog w K (.ref f) args kw (n + 1) pre Q := by
  intro A g s hh hd hu X T hsz hext hown
  obtain ⟨p0, l0, mg, mb, T⟩ := T
  have X' : K.In s.heap := X.keeps hext
  have hlim : s.heap.NoLimit := T.nolimit.keeps hext
  have kinds : ∀ x k, (x, k) ∈ scope.names → scope.names.lookup x = some k := fun x k hm => lookup_kind hsn hm
  refine codeP_call_function (fd := fnOf name qual params body scope dV kV doc pm an cdv ct) (by show A.depth < 1000; omega) (X' _ _ ho) rfl hco hgen rfl (codeRec_of X' hcd) (wpP_of_any (hbind s X' _ _ _ _ ?_))
  refine wpP_of_any (wpAny_newFunctionEnv_cells hk (fun x hx => ?_) fun env' he s' x => ?_)
  · rcases hb.kind x hx with q | q
    · exact .inl (kinds _ _ q)
    · exact .inr ⟨kinds _ _ q, cellsFrom_some' _ _ q hsn⟩
  subst he
  refine ⟨hlim.keeps x.toInCall.keep, codeP_func ?_⟩
  obtain ⟨h₁, tk, rfl, _⟩ := x.done
  have hk₁ := x.toInCall.keep
  have hcf : (cellsFrom (s.heap.objs.size + 1) scope.names []).map (·.1) = cloc.map (·.1) := (cellsFrom_names scope.names _ 0 [] [] rfl).trans hcn.symm
  have hcl : ∀ n c, (n, c) ∈ cellsFrom (s.heap.objs.size + 1) scope.names [] → (cellsFrom (s.heap.objs.size + 1) scope.names []).lookup n = some c := fun n c hm => lookup_of_mem_nodup (hcf ▸ hcnd) hm
  obtain ⟨cells, NC, Y⟩ := Cl.news (h₀ := s.heap) (Nat.le_refl _) fun n c hm => ⟨x.cell n c (hcl n c hm), x.above n c hm⟩
  let env' : Env := newEnv scope s.heap.objs.size mainGlobals (cellsFrom (s.heap.objs.size + 1) scope.names []) (qual ++ ".<locals>.") (some f) cdv none builtinsNs
  let C : Cx := ⟨prog, w, K, A.deeper env', g, env', names, n, s.gens, s.drawn, s.os⟩
  have hfr := hb.fn (kd := env'.kindOf) kinds (by rw [keys_none]; exact hnn)
  have hfc := hbc.fn (kd := env'.kindOf) kinds (by rw [keys_none]; exact hcnd)
  rw [vfun_none] at hfr hfc
  have ok : C.Ok := ⟨X, ⟨p0, l0, mg, mb, T⟩, hh, hk, rfl, rfl, hnn, fun x hx => kinds _ _ (hnl x hx), hsn, hnb,
    by show A.depth + 1 + 8 * n ≤ 900; omega, by show A.units + 3 + 40 * n ≤ 9000; omega⟩
  have gnone : ∀ b, s.heap.get? b = none → g.get? b = none := fun b e => by
    cases q : g.get? b with
    | none => rfl
    | some o => have := hext _ _ q; rw [e] at this; cases this
  have st : St C loc (cells ++ pre) { s with heap := h₁, toks := tk } := by
    refine ⟨?_, ⟨?_, fun b o e => hk₁ b o (hext b o e), hsz⟩, ?_, ?_, rfl, rfl, rfl⟩
    · rw [hb.keys]; exact keys_none names
    · rw [← hfr]; exact x.toInCall.ns
    · intro p hm
      rcases List.mem_append.mp hm with hm | hm
      · exact ⟨(NC p hm).1, (NC p hm).2.1, gnone _ (NC p hm).2.2⟩
      · exact ⟨hk₁ _ _ (hown.at_ p hm).1, Nat.ne_of_lt (Heap.lt_size (hown.at_ p hm).1), (hown.at_ p hm).2⟩
    · rw [List.map_append, cellsAre_keys Y]
      refine List.nodup_append.mpr ⟨?_, hown.nd, fun a ha b hb e => ?_⟩
      · exact (List.pairwise_map.mpr x.apart)
      · obtain ⟨q, hq, rfl⟩ := List.mem_map.mp ha
        obtain ⟨p, hp, rfl⟩ := List.mem_map.mp hb
        have l1 := x.above q.1 q.2 hq
        have l2 := Heap.lt_size (hown.at_ p hp).1
        have l1' : s.heap.objs.size < q.2 := l1
        have e' : q.2 = p.1 := e
        rw [e'] at l1'
        exact Nat.lt_irrefl _ (Nat.lt_trans l1' l2)
  have hcm : ∀ p ∈ cloc, bindC env'.kindOf binds (fun _ => none) p.1 = p.2 := fun p hp => by
    rw [hfc]
    obtain ⟨x, v⟩ := p
    unfold vfun
    have : cloc.lookup x = some v := by
      clear hfc hcn hbc hcf h
      induction cloc with
      | nil => cases hp
      | cons q r ih =>
        obtain ⟨y, u⟩ := q
        rw [List.map_cons, List.nodup_cons] at hcnd
        rcases List.mem_cons.mp hp with e | hp
        · cases e; simp
        · have : x ≠ y := fun e => hcnd.1 (by have := List.mem_map_of_mem (f := (·.1)) hp; rw [e] at this; exact this)
          rw [List.lookup_cons, beq_eq_false_iff_ne.mpr this]
          exact ih hcnd.2 hp
    rw [this]; rfl
  have hcells : CellLed C cloc cells := cellLed_of Y hcl hcf.symm hcm
  refine wpP_mono (h C cells ⟨rfl, rfl, rfl, rfl, rfl⟩ hcells ok _ st) fun fl s' hq => ?_
  obtain ⟨loc', led', st', hq⟩ := hq
  exact ⟨retV fl, led', rfl, st'.fr.keep, ⟨fun p hp => ⟨(st'.nw p hp).1, (st'.nw p hp).2.2⟩, st'.nd⟩, st'.gens, st'.dr, st'.os, hq⟩
end Fb

/-! F3 -/
namespace Fb
section
variable {α β : Type} {C : Cx} {loc : Loc} {led : Led} {prog : Program} {w : World} {K : Frag} {n : Nat} {sc : List (Str × NameKind)}

/-! ## names, literals -/
theorem Cx.Is.kind {C : Cx} (hC : C.Is prog w K n sc) (ok : C.Ok) {x : Str} {k : NameKind} (hm : (x, k) ∈ sc) : C.env.kindOf x = some k := lookup_kind ok.sn (hC.sc ▸ hm)
theorem run_cell {x : Str} {pos : Pos} {c : Addr} {o : Obj} {v : Value} {Q : Value → Loc → Led → Prop} (hC : C.Is prog w K n sc) (hk : (x, NameKind.cell) ∈ sc) (hc : C.env.cells.lookup x = some c) (hm : (c, o) ∈ led) (hd : o.data = .cell (some v))
    (h : Q v loc led) (hb : (x == ("__debug__" : Str)) = false := by decide +kernel) : Run C (eval (.Name x pos) C.env) loc led Q := Run.any fun ok s hs =>
  wpAny_Name (wpAny_loadName_cell ok.kf (hC.kind ok hk) hc ⟨o, hs.nw.get hm, hd⟩ ⟨_, _, hs, h⟩) hb
theorem run_global {x : Str} {pos : Pos} {v : Value} {Q : Value → Loc → Led → Prop} (hC : C.Is prog w K n sc) (hk : (x, NameKind.globalImplicit) ∈ sc) (e : nsIn K mainGlobals x = some (some v) ∧ (x == ("__debug__" : Str)) = false) (h : Q v loc led) :
    Run C (eval (.Name x pos) C.env) loc led Q := Run.any fun ok s hs => by
  obtain ⟨p0, l0, mg, mb, T⟩ := ok.T
  have X := ok.X
  rw [hC.K] at X
  refine Name_function_global ok.kf (hC.kind ok hk) (loadGlobal_global (mg := mg) ?_ (mg_of X T.g e.1) ⟨_, _, hs, h⟩) e.2
  rw [ok.gl]; exact T.g.keeps hs.fr.keep
theorem run_builtin {x : Str} {pos : Pos} {v : Value} {Q : Value → Loc → Led → Prop} (hC : C.Is prog w K n sc) (hk : (x, NameKind.globalImplicit) ∈ sc) (e : nsIn K mainGlobals x = some none ∧ bootBuiltins x = some v ∧ x ≠ "__name__" ∧ (x == ("__debug__" : Str)) = false) (h : Q v loc led) :
    Run C (eval (.Name x pos) C.env) loc led Q := Run.any fun ok s hs => by
  obtain ⟨p0, l0, mg, mb, T⟩ := ok.T
  have X := ok.X
  rw [hC.K] at X
  refine Name_function_global ok.kf (hC.kind ok hk) (loadGlobal_builtin (mg := mg) (mb := mb) ?_ (mg_none_of X T.g e.1) ?_ ((T.builtins x e.2.2.1).trans e.2.1) ⟨_, _, hs, h⟩) e.2.2.2
  · rw [ok.gl]; exact T.g.keeps hs.fr.keep
  · rw [ok.bl]; exact T.b.keeps hs.fr.keep
theorem run_int {env : Env} {i : Int} {k pos} {Q : Value → Loc → Led → Prop} (h : ∀ t, Q (.int i t) loc led) : Run C (eval (.Constant (.int i) k pos) env) loc led Q :=
  Run.any fun _ s hs => wpAny_Constant_int ⟨_, _, hs.toks _, h _⟩
theorem run_none {env : Env} {k pos} {Q : Value → Loc → Led → Prop} (h : Q .none loc led) : Run C (eval (.Constant .none k pos) env) loc led Q := Run.pure h
theorem run_bool {env : Env} {b : Bool} {k pos} {Q : Value → Loc → Led → Prop} (h : Q (.bool b) loc led) : Run C (eval (.Constant (.bool b) k pos) env) loc led Q := Run.pure h
theorem run_bytes {env : Env} {b : List UInt8} {k pos} {Q : Value → Loc → Led → Prop} (h : ∀ t, Q (.bytes b.toArray t) loc led) : Run C (eval (.Constant (.bytes b) k pos) env) loc led Q :=
  fun _ s hs _ _ _ _ => ⟨_, _, hs.toks _, h _⟩
theorem run_str {env : Env} {b : Str} {k pos} {Q : Value → Loc → Led → Prop} (h : ∀ t, Q (.str b t) loc led) : Run C (eval (.Constant (.str b) k pos) env) loc led Q :=
  fun _ s hs _ _ _ _ => ⟨_, _, hs.toks _, h _⟩

/-! ## expressions -/
theorem run_BinOp {env : Env} {l op r pos} {Q : Value → Loc → Led → Prop} (h : Run C (eval l env) loc led (fun a loc led => Run C (eval r env) loc led (fun b loc led => Run C (binaryOp op a b) loc led Q))) :
    Run C (eval (.BinOp l op r pos) env) loc led Q := by
  rw [eval_BinOp]
  exact Run.bind (h.mono fun a _ _ h => Run.bind (Run.holding (h.mono fun b _ _ h => Run.at_ (Run.operate h))))
theorem run_Unary {env : Env} {op x pos} {Q : Value → Loc → Led → Prop} (h : Run C (eval x env) loc led (fun a loc led => Run C (unaryOp op a) loc led Q)) : Run C (eval (.UnaryOp op x pos) env) loc led Q := by
  show Run C (do let v ← eval x env; standAt pos; holding [v] (unaryOp op v)) loc led Q
  exact Run.bind (h.mono fun a _ _ h => Run.at_ (Run.holding h))
theorem run_Cmp1 {env : Env} {l op r pos} {Q : Value → Loc → Led → Prop} (h : Run C (eval l env) loc led (fun a loc led => Run C (eval r env) loc led (fun b loc led => Run C (compareOp op a b) loc led Q)))
    (hm : behindInMarks op r = false := by with_unfolding_all rfl) : Run C (eval (.Compare l [op] [r] pos) env) loc led Q := by
  rw [eval_Compare1, markedBehindIn_of_false hm]
  exact Run.bind (h.mono fun a _ _ h => Run.bind (Run.holding (h.mono fun b _ _ h => Run.at_ (Run.operate h))))
theorem run_isCmp1 {env : Env} {l op r pos whole} {Q : Bool → Loc → Led → Prop} (h : Run C (eval l env) loc led (fun a loc led => Run C (eval r env) loc led (fun b loc led => Run C (compareOp op a b) loc led (fun c loc led => Run C (truthy c) loc led Q))))
    (hm : behindInMarks op r = false := by with_unfolding_all rfl) : Run C (isTrue (.Compare l [op] [r] pos) env whole) loc led Q := by
  rw [isTrue_Compare1, markedBehindIn_of_false hm]
  exact Run.bind (h.mono fun a _ _ h => Run.bind (Run.holding (h.mono fun b _ _ h => Run.at_ (Run.bind (Run.operate (h.mono fun c _ _ h => Run.holding h))))))
/-- a chain of two comparisons, its middle read once -/
theorem run_isCmp2 {env : Env} {l o1 o2 r1 r2 pos whole} {Q : Bool → Loc → Led → Prop}
    (h : Run C (eval l env) loc led (fun a loc led => Run C (eval r1 env) loc led (fun b loc led => Run C (compareOp o1 a b) loc led (fun c loc led => Run C (truthy c) loc led (fun t loc led =>
      if t = true then Run C (eval r2 env) loc led (fun d loc led => Run C (compareOp o2 b d) loc led (fun e loc led => Run C (truthy e) loc led Q)) else Q false loc led)))))
    (hm : lastMarks [o1, o2] [r1, r2] = false := by with_unfolding_all rfl) : Run C (isTrue (.Compare l [o1, o2] [r1, r2] pos) env whole) loc led Q := by
  show Run C (do testChain pos (← eval l env) [o1, o2] (markedEach [o1, o2] [r1, r2] (evalEach [r1, r2] env))) loc led Q
  rw [markedEach_of_false _ _ _ hm]
  refine Run.bind (h.mono fun a _ _ h => ?_)
  show Run C (do
    let rv ← holding [a] (eval r1 env)
    standAt pos
    let c ← holding [a, rv] (compareOp o1 a rv)
    release [a, rv] [c]
    if ← holding [c, rv] (truthy c) then testChain pos rv [o2] [eval r2 env] else pure false) _ _ Q
  refine Run.bind (Run.holding (h.mono fun b _ _ h => Run.at_ (Run.bind (Run.holding (h.mono fun c _ _ h => Run.bind (Run.release (Run.bind (Run.holding (h.mono fun t _ _ h => ?_)))))))))
  cases t with
  | true =>
    rw [if_pos rfl] at h ⊢
    show Run C (do
      let rv ← holding [b] (eval r2 env)
      standAt pos
      let c ← operate [b, rv] (compareOp o2 b rv)
      holding [c] (truthy c)) _ _ Q
    exact Run.bind (Run.holding (h.mono fun d _ _ h => Run.at_ (Run.bind (Run.operate (h.mono fun e _ _ h => Run.holding h)))))
  | false =>
    rw [if_neg (by decide)] at h ⊢
    exact Run.pure h
theorem run_truthy_bool {b : Bool} {Q : Bool → Loc → Led → Prop} (h : Q b loc led) : Run C (truthy (.bool b)) loc led Q := Run.any fun _ s hs => wpAny_truthy_bool ⟨_, _, hs, h⟩
theorem run_truthy_none {Q : Bool → Loc → Led → Prop} (h : Q false loc led) : Run C (truthy .none) loc led Q := Run.any fun _ s hs => truthy_none ⟨_, _, hs, h⟩
theorem run_truthy_int {a t} {Q : Bool → Loc → Led → Prop} (h : Q (a != 0) loc led) : Run C (truthy (.int a t)) loc led Q := Run.any fun _ s hs => PySem.P.truthy_int ⟨_, _, hs, h⟩
theorem run_isNot {env : Env} {x pos whole} {Q : Bool → Loc → Led → Prop} (h : Run C (isTrue x env (eval x env)) loc led (fun c loc led => Q (!c) loc led)) : Run C (isTrue (.UnaryOp .Not x pos) env whole) loc led Q := by
  show Run C (do return !(← isTrue x env (eval x env))) loc led Q
  exact Run.bind (h.mono fun c _ _ h => Run.pure h)
theorem run_isAnd {env : Env} {x rest pos whole} {Q : Bool → Loc → Led → Prop} (h : Run C (isTrue x env (eval x env)) loc led (fun c loc led => if c = true then Run C (isTrue (.BoolOp .And rest pos) env whole) loc led Q else Q false loc led)) :
    Run C (isTrue (.BoolOp .And (x :: rest) pos) env whole) loc led Q := by
  show Run C (do
    match BoolOp.And, ← isTrue x env (eval x env) with
    | .And, false => pure false
    | .Or, true => pure true
    | _, _ => allTrue .And rest env) loc led Q
  refine Run.bind (h.mono fun c _ _ h => ?_)
  cases c with
  | true => exact h
  | false => exact Run.pure h
theorem run_isAnd0 {env : Env} {pos whole} {Q : Bool → Loc → Led → Prop} (h : Q true loc led) : Run C (isTrue (.BoolOp .And [] pos) env whole) loc led Q := Run.pure (a := true) h
theorem run_isOr {env : Env} {x rest pos whole} {Q : Bool → Loc → Led → Prop} (h : Run C (isTrue x env (eval x env)) loc led (fun c loc led => if c = true then Q true loc led else Run C (isTrue (.BoolOp .Or rest pos) env whole) loc led Q)) :
    Run C (isTrue (.BoolOp .Or (x :: rest) pos) env whole) loc led Q := by
  show Run C (do
    match BoolOp.Or, ← isTrue x env (eval x env) with
    | .And, false => pure false
    | .Or, true => pure true
    | _, _ => allTrue .Or rest env) loc led Q
  refine Run.bind (h.mono fun c _ _ h => ?_)
  cases c with
  | true => exact Run.pure h
  | false => exact h
theorem run_isOr0 {env : Env} {pos whole} {Q : Bool → Loc → Led → Prop} (h : Q false loc led) : Run C (isTrue (.BoolOp .Or [] pos) env whole) loc led Q := Run.pure (a := false) h
theorem run_isPlain {env : Env} {e : Expr} {Q : Bool → Loc → Led → Prop} (h : Run C (eval e env) loc led (fun v loc led => Run C (truthy v) loc led Q))
    (he : ∀ whole, isTrue e env whole = (do let v ← whole; standAt e.pos; holding [v] (truthy v)) := by intro _; with_unfolding_all rfl) : Run C (isTrue e env (eval e env)) loc led Q := by
  rw [he]
  exact Run.bind (h.mono fun v _ _ h => Run.at_ (Run.holding h))
/-- x and y, as a value -/
theorem run_And2 {env : Env} {x y pos} {Q : Value → Loc → Led → Prop} (h : Run C (eval x env) loc led (fun v loc led => Run C (truthy v) loc led (fun t loc led => if t = true then Run C (eval y env) loc led Q else Q v loc led))) :
    Run C (eval (.BoolOp .And [x, y] pos) env) loc led Q := by
  show Run C (do
    let v ← eval x env
    standAt pos
    let t ← holding [v] (truthy v)
    match BoolOp.And, t with
    | .And, false | .Or, true => pure v
    | _, _ => eval y env) loc led Q
  refine Run.bind (h.mono fun v _ _ h => Run.at_ (Run.bind (Run.holding (h.mono fun t _ _ h => ?_))))
  cases t with
  | true => exact h
  | false => exact Run.pure h
theorem run_IfExp {env : Env} {t b o pos} {Q : Value → Loc → Led → Prop} (h : Run C (isTrue t env (eval t env)) loc led (fun c loc led => if c = true then Run C (eval b env) loc led Q else Run C (eval o env) loc led Q)) : Run C (eval (.IfExp t b o pos) env) loc led Q := by
  show Run C (do if ← isTrue t env (eval t env) then eval b env else eval o env) loc led Q
  refine Run.bind (h.mono fun c _ _ h => ?_)
  cases c <;> exact h
theorem run_letTemporaryGo {base : Expr} {o r : Value} {Q : Unit → Loc → Led → Prop} (h : Q () loc led) : Run C (letTemporaryGo base o r) loc led Q := Run.any fun _ s hs => wpAny_letTemporaryGo ⟨_, _, hs, h⟩
theorem run_Attr {env : Env} {o : Expr} {a : Str} {pos : Pos} {Q : Value → Loc → Led → Prop} (h : Run C (eval o env) loc led (fun v loc led => Run C (getAttr v a true) loc led Q)) (hb : ∀ whole, attributeBase o a env whole = whole := by intro _; with_unfolding_all rfl) :
    Run C (eval (.Attribute o a pos) env) loc led Q := by
  show Run C (do
    let v ← attributeBase o a env (eval o env)
    standAt pos.atName
    let r ← holding [v] (getAttr v a true)
    letTemporaryGo o v r
    pure r) loc led Q
  rw [hb]
  exact Run.bind (h.mono fun v _ _ h => Run.at_ (Run.bind (Run.holding (h.mono fun r _ _ h => Run.bind (run_letTemporaryGo (Run.pure h))))))
theorem run_sub {env : Env} {o i : Expr} {pos : Pos} {Q : Value → Loc → Led → Prop} (h : Run C (eval o env) loc led (fun v loc led => Run C (eval i env) loc led (fun iv loc led =>
      Run C (getitemInPython v) loc led (fun b loc led => b = false ∧ Run C (getItem v iv) loc led Q)))) : Run C (eval (.Subscript o i pos) env) loc led Q := by
  show Run C (do
    let v ← eval o env
    let iv ← holding [v] (eval i env)
    standAt pos
    let r ← subscripted i (← getitemInPython v) v iv
    letTemporaryGo o v r
    pure r) loc led Q
  refine Run.bind (h.mono fun v _ _ h => Run.bind (Run.holding (h.mono fun iv _ _ h => Run.at_ (Run.bind (h.mono fun b _ _ hb => ?_)))))
  obtain ⟨rfl, hg⟩ := hb
  refine Run.bind ?_
  have fin : ∀ {l d}, Run C (getItem v iv) l d Q → Run C (getItem v iv) l d (fun r loc led => Run C (letTemporaryGo o v r >>= fun _ => pure r) loc led Q) := fun h => h.mono fun r _ _ h => Run.bind (run_letTemporaryGo (Run.pure h))
  unfold subscripted
  split <;> first | exact Run.operate (fin hg) | contradiction

/-! arguments -/
theorem run_args_nil {env : Env} {pos : Pos} {Q : List Value → Loc → Led → Prop} (h : Q [] loc led) : Run C (spliced (backTo pos (starEach [] env))) loc led Q := Run.pure h
theorem run_args_cons {env : Env} {pos : Pos} {e : Expr} {rest : List Expr} {Q : List Value → Loc → Led → Prop} (h : Run C (eval e env) loc led (fun v loc led => Run C (spliced (backTo pos (starEach rest env))) loc led (fun vs loc led => Q (v :: vs) loc led)))
    (he : starEach (e :: rest) env = (false, eval e env) :: starEach rest env := by with_unfolding_all rfl) : Run C (spliced (backTo pos (starEach (e :: rest) env))) loc led Q := by
  rw [he]
  show Run C (do
    let v ← eval e env
    let here ← (if false = true then (do
        if ← notIterableAtAll v then
          rule "star.not-iterable"; raiseError "TypeError" s!"Value after * must be an iterable, not {← typeNameOf v}"
        collect v : Sem (List Value))
      else pure [v])
    return here ++ (← holding here (spliced (backTo pos (starEach rest env))))) loc led Q
  refine Run.bind (h.mono fun v _ _ h => ?_)
  rw [if_neg (by decide)]
  exact Run.bind (Run.pure (Run.bind (Run.holding (h.mono fun vs _ _ h => Run.pure h))))
theorem noStar_nil {env : Env} {pos : Pos} : (backTo pos (starEach [] env)).any (·.1) = false := rfl

/-- what keeps the callee while it runs: a def, a class, a built-in -/
def Keeps (C : Cx) (f : Value) : Prop := ∀ s loc led, St C loc led s → C.Ok → ∃ k, (k = Keeper.frame ∨ k = Keeper.machine ∨ k = Keeper.boundFrame) ∧ Looks (model C.prog C.w) s.heap (keeperOf f) k
theorem keeps_ref {f : Value} (hC : C.Is prog w K n sc) (hk : keepIn K f = true) : Keeps C f := fun s loc led st ok => keeps_K (by rw [hC.K]; exact hk) _ (ok.X.keeps st.fr.keep)
theorem keeps_builtin {i : String} : Keeps C (.builtin i) := fun _ _ _ _ _ => ⟨.machine, .inr (.inl rfl), Looks.of_pure rfl⟩
theorem keeps_type {i : String} : Keeps C (.type i) := fun _ _ _ _ _ => ⟨.machine, .inr (.inl rfl), Looks.of_pure rfl⟩
theorem Run.keep {vs : List Value} {m : Sem α} {Q : α → Loc → Led → Prop} (h : Run C m loc led Q) : Run C (m.keep vs) loc led Q := fun ok s hs Γ p hΓ hc => by
  rw [Sem.wp_keep]; exact h ok s hs Γ p hΓ hc
theorem Run.looks {t : Sem α} {r : α} {Q : α → Loc → Led → Prop} (hl : C.Ok → ∀ s, St C loc led s → Looks (model C.prog C.w) s.heap t r) (h : Q r loc led) : Run C t loc led Q := Run.any fun ok s hs => (hl ok s hs).here ⟨_, _, hs, h⟩
theorem run_callTail {pos : Pos} {f : Value} {first : List Value} {args : List (Bool × Sem Value)} {keywords : List (Option Str × Sem Value)} {Q : Value → Loc → Led → Prop} (hf : Keeps C f) (hp : args.any (·.1) = false) (hq : keywords.any (·.1.isNone) = false)
    (h : Run C (evalArgs f true args keywords) loc led (fun a loc led => Run C (call f (first ++ a.pos) a.kw) loc led Q)) : Run C (callWith pos f first args keywords) loc led Q := by
  unfold callWith
  refine Run.bind (Run.holding (h.mono fun a loc led h => Run.at_ ?_))
  simp only [hp, hq, Bool.or_self]
  intro ok s hs
  obtain ⟨k, hk', L⟩ := hf s _ _ hs ok
  have tail : ∀ {t : Sem Value}, Run C t loc led Q → Run C (t >>= fun r => holding [r] point >>= fun _ => pure r) loc led Q := fun ht => Run.bind (ht.mono fun r _ _ hr => Run.bind (Run.holding (Run.point (Run.pure hr))))
  have marked (mk : Value) : Run C (callMarked mk f (first ++ a.pos) a.kw) loc led Q := by unfold callMarked; exact Run.keep h
  refine wpP_bind (wpP_of_any (L.here ?_))
  rcases hk' with rfl | rfl | rfl <;> dsimp only <;> first | exact tail h ok s hs | (split <;> first | exact tail h ok s hs | exact tail (marked _) ok s hs)
theorem run_evalArgs0 {f : Value} {args : List (Bool × Sem Value)} {Q : Args → Loc → Led → Prop} (hp : args.any (·.1) = false) (h : Run C (spliced args) loc led (fun vs loc led => Q ⟨vs, []⟩ loc led)) : Run C (evalArgs f true args []) loc led Q := by
  have e : evalArgs f true args [] = (do let vs ← spliced args; holding (vs ++ (none : Option Value).toList) (pure ⟨vs, []⟩)) := by
    unfold evalArgs
    cases args with
    | nil => rfl
    | cons a r =>
      obtain ⟨b, x⟩ := a
      cases b with
      | true => simp at hp
      | false => rfl
  rw [e]
  exact Run.bind (h.mono fun vs _ _ h => Run.holding (Run.pure h))
/-- one keyword behind the places -/
theorem run_evalArgs1 {f : Value} {args : List (Bool × Sem Value)} {x : Str} {kx : Sem Value} {Q : Args → Loc → Led → Prop} (hp : args.any (·.1) = false)
    (h : Run C (spliced args) loc led (fun vs loc led => Run C kx loc led (fun k loc led => Q ⟨vs, [(x, k)]⟩ loc led))) : Run C (evalArgs f true args [(some x, kx)]) loc led Q := by
  have e : evalArgs f true args [(some x, kx)] = (do let vs ← spliced args; holding (vs ++ (none : Option Value).toList) (do let ks ← evalAll [kx]; pure ⟨vs, [x].zip ks⟩)) := by
    unfold evalArgs
    cases args with
    | nil => rfl
    | cons a r =>
      obtain ⟨b, y⟩ := a
      cases b with
      | true => simp at hp
      | false => rfl
  rw [e]
  refine Run.bind (h.mono fun vs _ _ h => Run.holding (Run.bind ?_))
  show Run C (do let v ← kx; return v :: (← holding [v] (evalAll []))) _ _ _
  exact Run.bind (h.mono fun k _ _ h => Run.bind (Run.holding (Run.pure (Run.pure (Run.pure h)))))
theorem run_callWith {env : Env} {pos : Pos} {f : Value} {first : List Value} {es : List Expr} {Q : Value → Loc → Led → Prop} (hf : Keeps C f)
    (h : Run C (spliced (backTo pos (starEach es env))) loc led (fun vs loc led => Run C (call f (first ++ vs)) loc led Q)) (hp : (backTo pos (starEach es env)).any (·.1) = false := by with_unfolding_all rfl) : Run C (callWith pos f first (backTo pos (starEach es env)) []) loc led Q :=
  run_callTail hf hp rfl (run_evalArgs0 hp (h.mono fun _ _ _ h => h))
theorem run_callWith1 {env : Env} {pos : Pos} {f : Value} {first : List Value} {es : List Expr} {x : Str} {e : Expr} {kp : Pos} {Q : Value → Loc → Led → Prop} (hf : Keeps C f)
    (h : Run C (spliced (backTo pos (starEach es env))) loc led (fun vs loc led => Run C (eval e env) loc led (fun k loc led => Run C (call f (first ++ vs) [(x, k)]) loc led Q))) (hp : (backTo pos (starEach es env)).any (·.1) = false := by with_unfolding_all rfl) :
    Run C (callWith pos f first (backTo pos (starEach es env)) (backToKw pos (keywordEach [⟨some x, e, kp⟩] env))) loc led Q := by
  refine run_callTail hf hp rfl ?_
  show Run C (evalArgs f true (backTo pos (starEach es env)) [(some x, do let v ← eval e env; standAt pos; pure v)]) _ _ _
  exact run_evalArgs1 hp (h.mono fun vs _ _ h => Run.bind (h.mono fun k _ _ h => Run.at_ (Run.pure h)))
theorem run_Call {env : Env} {x : Str} {px : Pos} {args : List Expr} {ks : List Keyword} {pos : Pos} {Q : Value → Loc → Led → Prop}
    (h : Run C (eval (.Name x px) env) loc led (fun f loc led => Run C (callWith pos f [] (backTo pos (starEach args env)) (backToKw pos (keywordEach ks env))) loc led Q)) : Run C (eval (.Call (.Name x px) args ks pos) env) loc led Q :=
  Run.bind (f := fun f => callWith pos f [] (backTo pos (starEach args env)) (backToKw pos (keywordEach ks env))) h
theorem run_Method {env : Env} {o : Expr} {name : Str} {apos : Pos} {args : List Expr} {ks : List Keyword} {pos : Pos} {Q : Value → Loc → Led → Prop}
    (h : Run C (eval o env) loc led (fun ov loc led => ∀ pl, Run C (getMethod ov name pl) loc led (fun ff loc led => Run C (callWith pos ff.1 ff.2 (backTo pos (starEach args env)) (backToKw pos (keywordEach ks env))) loc led Q)))
    (hb : ∀ whole, attributeBase o name env whole = whole := by intro _; with_unfolding_all rfl) (hf : methodCallForm (args.length + ks.length) (backTo pos (starEach args env)) (backToKw pos (keywordEach ks env)) = true := by with_unfolding_all rfl)
    (hl : (apos.endLine == pos.line) = true := by with_unfolding_all rfl) : Run C (eval (.Call (.Attribute o name apos) args ks pos) env) loc led Q := by
  show Run C (do
    let ov ← attributeBase o name env (eval o env)
    standAt apos.atName
    methodCall o name apos pos env ov (args.length + ks.length) (backTo pos (starEach args env)) (backToKw pos (keywordEach ks env))) loc led Q
  rw [hb]
  refine Run.bind (h.mono fun ov _ _ h => Run.at_ ?_)
  unfold methodCall
  rw [hf]
  refine Run.bind (Run.holding ((h _).mono fun ff _ _ h => ?_))
  obtain ⟨f, first⟩ := ff
  have e : methodCallPos true o env apos pos = pure pos := by unfold methodCallPos; rw [hl]; rfl
  show Run C (do let callPos ← methodCallPos true o env apos pos; callWith callPos f first (backTo pos (starEach args env)) (backToKw pos (keywordEach ks env))) _ _ Q
  rw [e]
  exact Run.bind (Run.pure h)
/-! displays -/
theorem run_newTuple {vs : List Value} {Q : Value → Loc → Led → Prop} (h : ∀ a, Q (.ref a) loc ((a, { cls := .type "tuple", data := .seq vs.toArray }) :: led)) (hz : Nat.ble vs.length 100000 = true := by with_unfolding_all rfl) : Run C (newTuple vs) loc led Q :=
  Run.any fun ok s hs => wpAny_newObj_type ⟨_, _, hs.push _, h _⟩ (by show vs.toArray.size ≤ sizeLine; rw [List.size_toArray, sizeLine_eq]; exact Nat.le_trans (Nat.le_of_ble_eq_true hz) (by decide))
theorem run_newList {vs : List Value} {Q : Value → Loc → Led → Prop} (h : ∀ a, Q (.ref a) loc ((a, { cls := .type "list", data := .seq vs.toArray }) :: led)) (hz : Nat.ble vs.length 100000 = true := by with_unfolding_all rfl) : Run C (newList vs) loc led Q :=
  Run.any fun ok s hs => wpAny_newObj_type ⟨_, _, hs.push _, h _⟩ (by show vs.toArray.size ≤ sizeLine; rw [List.size_toArray, sizeLine_eq]; exact Nat.le_trans (Nat.le_of_ble_eq_true hz) (by decide))
theorem run_Tuple {env : Env} {es : List Expr} {k : Nat} {pos : Pos} {Q : Value → Loc → Led → Prop} (h : Run C (spliced (backTo pos (starEach es env))) loc led (fun vs loc led => Run C (newTuple vs) loc led Q)) : Run C (eval (.Tuple es k pos) env) loc led Q := by
  show Run C (do standAt pos; newTuple (← spliced (backTo pos (starEach es env)))) loc led Q
  exact Run.at_ (Run.bind h)
theorem run_List {env : Env} {es : List Expr} {pos : Pos} {Q : Value → Loc → Led → Prop} (h : Run C (spliced (backTo pos (starEach es env))) loc led (fun vs loc led => Run C (newList vs) loc led Q)) : Run C (eval (.List es pos) env) loc led Q := by
  show Run C (do standAt pos; newList (← spliced (backTo pos (starEach es env)))) loc led Q
  exact Run.at_ (Run.bind h)

/-! ## statements -/
def After (C : Cx) (rest : List Stmt) (env : Env) (Q : Flow → Loc → Led → Prop) : Flow → Loc → Led → Prop := fun f loc led => match f with
  | .next => Run C (execs rest env) loc led Q
  | f => Q f loc led
theorem run_execs_nil {env : Env} {Q : Flow → Loc → Led → Prop} (h : Q .next loc led) : Run C (execs [] env) loc led Q := Run.pure h
theorem run_execs {env : Env} {st : Stmt} {rest : List Stmt} {Q : Flow → Loc → Led → Prop} (h : Run C (exec st env) loc led (After C rest env Q)) : Run C (execs (st :: rest) env) loc led Q := by
  rw [execs_cons]
  refine Run.bind (h.mono fun f loc led h => ?_)
  cases f <;> first | exact h | exact Run.pure h
theorem run_after {env : Env} {rest : List Stmt} {Q : Flow → Loc → Led → Prop} (h : Run C (execs rest env) loc led Q) : After C rest env Q .next loc led := h
theorem run_Return {env : Env} {e : Expr} {pos : Pos} {Q : Flow → Loc → Led → Prop} (h : Run C (eval e env) loc led (fun v loc led => Q (.ret v) loc led)) : Run C (exec (.Return (some e) pos) env) loc led Q := by
  rw [exec_Return_some]
  exact Run.at_ (Run.bind (h.mono fun v _ _ h => Run.pure h))
theorem run_Return0 {env : Env} {pos : Pos} {Q : Flow → Loc → Led → Prop} (h : Q (.ret .none) loc led) : Run C (exec (.Return none pos) env) loc led Q := by
  rw [exec_Return_none]
  exact Run.at_ (Run.pure h)
theorem run_Continue {env : Env} {pos : Pos} {Q : Flow → Loc → Led → Prop} (h : Q .cont loc led) : Run C (exec (.Continue pos) env) loc led Q := by
  show Run C (do standAt pos; pure .cont) loc led Q
  exact Run.at_ (Run.pure h)
theorem run_If {env : Env} {test : Expr} {body orelse : List Stmt} {pos : Pos} {Q : Flow → Loc → Led → Prop}
    (h : Run C (isTrue test env (eval test env)) loc led (fun b loc led => (b = true → Run C (execs body env) loc led Q) ∧ (b = false → Run C (execs orelse env) loc led Q))) : Run C (exec (.If test body orelse pos) env) loc led Q := by
  rw [exec_If]
  refine Run.at_ (Run.bind (h.mono fun b _ _ h => ?_))
  cases b with
  | true => exact h.1 rfl
  | false => exact h.2 rfl
theorem run_dropValue {e : Expr} {pos : Pos} {v : Value} {Q : Flow → Loc → Led → Prop} (h : Q .next loc led) : Run C (dropValue e pos v) loc led Q := by
  unfold dropValue
  split
  · exact Run.pure h
  · refine Run.at_ (Run.bind (Run.any fun ok s hs => wpAny_runValue (codeAny_builtin entry_let_go (show wpAny _ _ (ret .none) _ _ s from wpAny_pure ⟨_, _, hs, Run.pure h⟩))))
  · exact Run.pure h
theorem run_Expr {env : Env} {e : Expr} {pos : Pos} {Q : Flow → Loc → Led → Prop} (h : Run C (eval e env) loc led (fun v loc led => Q .next loc led)) (hi : interactive env = false) (hs : swapsWith e none pos.line env = pure false := by with_unfolding_all rfl) :
    Run C (exec (.Expr e pos) env) loc led Q := by
  rw [exec_Expr env e pos hi hs]
  exact Run.at_ (Run.bind (h.mono fun v _ _ h => run_dropValue h))
theorem run_AugName {env : Env} {x : Str} {np : Pos} {op : Operator} {e : Expr} {pos : Pos} {Q : Flow → Loc → Led → Prop} (h : Run C (loadName env x) loc led (fun o loc led => Run C (eval e env) loc led (fun v loc led => Run C (inplaceOp op o v) loc led (fun r loc led =>
      Run C (bindName env x r) loc led (fun _ loc led => Q .next loc led))))) : Run C (exec (.AugAssign (.Name x np) op e pos) env) loc led Q := by
  rw [exec_AugAssign_Name]
  exact Run.at_ (Run.bind (h.mono fun o _ _ h => Run.bind (Run.holding (h.mono fun v _ _ h => Run.at_ (Run.bind (Run.operate (h.mono fun r _ _ h => Run.at_ (Run.bind (h.mono fun _ _ _ h => Run.pure h)))))))))
theorem run_Assign {env : Env} {t e : Expr} {pos : Pos} {Q : Flow → Loc → Led → Prop} (h : Run C (eval e env) loc led (fun v loc led => Run C (assign t env v) loc led (fun _ loc led => Q .next loc led)))
    (hs : swapsWithSole [t] e pos.line env = pure false := by with_unfolding_all rfl) (h2 : swappedStores [t] e env = pure none := by with_unfolding_all rfl) (h3 : (assignEach [t] env).map (·.2) = [assign t env] := by with_unfolding_all rfl) : Run C (exec (.Assign [t] e pos) env) loc led Q := by
  show Run C (do
    standAt pos
    if ← swapsWithSole [t] e pos.line env then do
      evalThenUse e env fun v => assignAll v ((assignEach [t] env).map (·.2))
      pure .next
    else do
      let v ← eval e env
      assignStores env v (← swappedStores [t] e env) ((assignEach [t] env).map (·.2))) loc led Q
  rw [hs, h2, h3]
  refine Run.at_ (Run.bind (Run.pure ?_))
  rw [if_neg (by decide)]
  refine Run.bind (h.mono fun v _ _ h => Run.bind (Run.pure ?_))
  show Run C (do assign t env v; pure .next) _ _ Q
  exact Run.bind (h.mono fun _ _ _ h => Run.pure h)
theorem run_asName {x : Str} {p : Pos} {v : Value} {loc' : Loc} {Q : Unit → Loc → Led → Prop} (hl : SetL x v loc loc') (h : Q () loc' led) : Run C (assign (.Name x p) C.env v) loc led Q := Run.at_ (run_bindName hl h)
theorem run_asAttr {env : Env} {o : Expr} {a : Str} {pos : Pos} {v : Value} {Q : Unit → Loc → Led → Prop} (h : Run C (eval o env) loc led (fun ov loc led => Run C (setAttr ov a v) loc led Q)) : Run C (assign (.Attribute o a pos) env v) loc led Q := by
  show Run C (do
    let ov ← holding [v] (eval o env)
    standAt pos.atName
    holding [v, ov] (setAttr ov a v)
    release [v, ov] []) loc led Q
  exact Run.bind (Run.holding (h.mono fun ov _ _ h => Run.at_ (Run.bind (Run.holding (h.mono fun _ _ _ h => Run.release h)))))
theorem run_asSub {env : Env} {o i : Expr} {pos : Pos} {v : Value} {Q : Unit → Loc → Led → Prop} (h : Run C (eval o env) loc led (fun ov loc led => Run C (eval i env) loc led (fun iv loc led => Run C (setItem ov iv v) loc led Q))) : Run C (assign (.Subscript o i pos) env v) loc led Q := by
  show Run C (do
    let ov ← holding [v] (eval o env)
    let iv ← holding [v, ov] (eval i env)
    standAt pos
    holding [v, ov, iv] (setItem ov iv v)
    release (match (generalizing := false) i with | .Slice _ _ none _ => [iv, v, ov] | _ => [v, ov, iv]) []) loc led Q
  exact Run.bind (Run.holding (h.mono fun ov _ _ h => Run.bind (Run.holding (h.mono fun iv _ _ h => Run.at_ (Run.bind (Run.holding (h.mono fun _ _ _ h => Run.release h)))))))
end
end Fb

/-! F4 -/
namespace Fb
/-! ## loops -/
def RunC (C : Cx) (c : Code) (loc : Loc) (led : Led) (R : Flow → Loc → Led → Prop) : Prop :=
  C.Ok → ∀ s, St C loc led s → codeP (model C.prog C.w) C.A c (fun f s' => ∃ loc' led', St C loc' led' s' ∧ R f loc' led') s

section
variable {α β : Type} {C : Cx} {loc : Loc} {led : Led}
theorem RunC.tree {c : Code} {R : Flow → Loc → Led → Prop} (hc : calmC c = true) (hw : c.weight = 0) (hu : c.cUnits = 0)
    (h : Run C (denote table c) loc led (fun fin loc led => match fin with | .done f => R f loc led | .again c' => c'.quiet = true ∧ RunC C c' loc led R)) : RunC C c loc led R := fun ok s hs => by
  refine codeP_of_tree hc ?_
  rw [Around.under_of_weight hw hu]
  refine wpP_mono (h ok s hs) fun fin s' hf => ?_
  obtain ⟨l, d, hs', hf⟩ := hf
  cases fin with
  | done f => exact ⟨l, d, hs', hf⟩
  | again c' => exact ⟨hf.1, hf.2 ok s' hs'⟩
theorem Run.runOwn {c : Code} {env : Env} {R : Flow → Loc → Led → Prop} (h : RunC C c loc led R) : Run C (runOwn c env) loc led R := fun ok s hs => wpP_runOwn (h ok s hs)
theorem Run.run {c : Code} {R : Flow → Loc → Led → Prop} (h : RunC C c loc led R) : Run C (PySem.run c) loc led R := fun ok s hs => wpP_run (h ok s hs)
theorem RunC.drop {c : Code} {R : Flow → Loc → Led → Prop} {keep rest : Led} (hp : Pick led keep rest) (h : RunC C c loc keep R) : RunC C c loc led R := fun ok s hs =>
  h ok s (hs.sub (fun p hm => hp.perm.mem_iff.mpr (List.mem_append_left _ hm)) (by
    have := (hp.perm.map (·.1)).nodup_iff.mp hs.nd
    rw [List.map_append] at this
    exact (List.nodup_append.mp this).1))

/-- an iterator: its object at place i is one of P i -/
structure IterP (C : Cx) (it : Addr) (side : Led → Prop) (P : Nat → Obj → Prop) (n : Nat) (val : Nat → Value → Prop) : Prop where
  next : ∀ i o loc led Q, i < n → P i o → side led → (∀ v o', val i v → P (i + 1) o' → Q (some v) loc ((it, o') :: led)) → Run C (pyNext (.ref it)) loc ((it, o) :: led) Q
  done : ∀ o loc led Q, P n o → side led → Q none loc led → Run C (pyNext (.ref it)) loc ((it, o) :: led) Q
  self : ∀ o loc led Q, P 0 o → side led → Q (.ref it) loc ((it, o) :: led) → Run C (pyIter (.ref it)) loc ((it, o) :: led) Q

def Turn (I : Nat → Loc → Led → Prop) (it : Addr) (P : Nat → Obj → Prop) (R : Flow → Loc → Led → Prop) (i : Nat) : Flow → Loc → Led → Prop := fun f loc led => match f with
  | .next => ∃ o led1 rest, Pick led ((it, o) :: led1) rest ∧ P (i + 1) o ∧ I (i + 1) loc led1
  | .cont => ∃ o led1 rest, Pick led ((it, o) :: led1) rest ∧ P (i + 1) o ∧ I (i + 1) loc led1
  | .brk => R .next loc led
  | .ret v => R (.ret v) loc led
theorem RunC.for {x : Str} {px : Pos} {body : List Stmt} {it : Addr} {side : Led → Prop} {P : Nat → Obj → Prop} {n : Nat} {val : Nat → Value → Prop} (hI : IterP C it side P n val) (I : Nat → Loc → Led → Prop) {R : Flow → Loc → Led → Prop}
    (hside : ∀ i loc led, I i loc led → side led)
    (turn : ∀ i v o loc led, i < n → val i v → P (i + 1) o → I i loc led → ∃ loc1, SetL x v loc loc1 ∧ Run C (execs body C.env) loc1 ((it, o) :: led) (Turn I it P R i))
    (done : ∀ loc led, I n loc led → R .next loc led) :
    ∀ k i o loc led, n - i = k → i ≤ n → P i o → I i loc led → RunC C (.forLoop (.Name x px) (.ref it) body [] C.env) loc ((it, o) :: led) R := by
  intro k
  induction k with
  | zero =>
    intro i o loc led hk hle hP hi
    obtain rfl : i = n := by omega
    refine RunC.tree rfl rfl rfl ?_
    show Run C ((forTurn (.Name x px) (.ref it) body [] C.env).onRaise _) _ _ _
    refine Run.onRaise ?_
    unfold forTurn
    refine Run.at_ (Run.bind (Run.onRaise (hI.done o loc led _ hP (hside _ _ _ hi) ?_)))
    refine Run.pure (a := Fin.again (.block [] C.env)) ⟨rfl, RunC.tree rfl rfl rfl ?_⟩
    show Run C ((execs [] C.env).onRaise _ >>= fun f => pure (Fin.done f)) _ _ _
    exact Run.bind (Run.onRaise (run_execs_nil (Run.pure (done loc led hi))))
  | succ k ih =>
    intro i o loc led hk hle hP hi
    have hlt : i < n := by omega
    refine RunC.tree rfl rfl rfl ?_
    show Run C ((forTurn (.Name x px) (.ref it) body [] C.env).onRaise _) _ _ _
    refine Run.onRaise ?_
    unfold forTurn
    refine Run.at_ (Run.bind (Run.onRaise (hI.next i o loc led _ hlt hP (hside _ _ _ hi) fun v o' hv hP' => ?_)))
    obtain ⟨loc1, hs, hr⟩ := turn i v o' loc led hlt hv hP' hi
    show Run C (do
      letOwnedTupleGo (.Name x px) (.ref it) v
      assign (.Name x px) C.env v
      match ← execs body C.env with
      | .next | .cont => again (.forLoop (.Name x px) (.ref it) body [] C.env)
      | .brk => pure (.done .next)
      | .ret v => pure (.done (.ret v))) _ _ _
    refine Run.bind (Run.pure (Run.bind (run_asName hs (Run.bind (hr.mono fun f loc2 led2 hf => ?_)))))
    have again_ : (∃ o led1 rest, Pick led2 ((it, o) :: led1) rest ∧ P (i + 1) o ∧ I (i + 1) loc2 led1) → RunC C (.forLoop (.Name x px) (.ref it) body [] C.env) loc2 led2 R := fun ⟨o2, led3, rest, hp, hP2, hi2⟩ =>
      RunC.drop hp (ih (i + 1) o2 loc2 led3 (by omega) (by omega) hP2 hi2)
    cases f with
    | next => exact Run.pure (a := Fin.again _) ⟨rfl, again_ hf⟩
    | cont => exact Run.pure (a := Fin.again _) ⟨rfl, again_ hf⟩
    | brk => exact Run.pure hf
    | ret v => exact Run.pure hf
theorem run_For {x : Str} {px : Pos} {iter : Expr} {body : List Stmt} {pos : Pos} {Q : Flow → Loc → Led → Prop}
    (h : Run C (eval iter C.env) loc led (fun xv loc led => Run C (pyIter xv) loc led (fun it loc led => RunC C (.forLoop (.Name x px) it body [] C.env) loc led Q)))
    (hs : ∀ v, foldedSetIterable iter C.env v = pure v := by intro _; with_unfolding_all rfl) : Run C (exec (.For (.Name x px) iter body [] pos) C.env) loc led Q := by
  show Run C (do
    standAt pos
    let x' ← foldedSetIterable iter C.env (← eval iter C.env)
    standAt iter.pos
    runOwn (.forLoop (.Name x px) (← holding [x'] (pyIter x')) body [] C.env) C.env) loc led Q
  refine Run.at_ (Run.bind (h.mono fun xv _ _ h => ?_))
  rw [hs]
  exact Run.bind (Run.pure (Run.at_ (Run.bind (Run.holding (h.mono fun it _ _ h => Run.runOwn h)))))

def TurnW (I : Nat → Loc → Led → Prop) (R : Flow → Loc → Led → Prop) (m : Nat) : Flow → Loc → Led → Prop := fun f loc led => match f with
  | .next => ∃ m' led1 rest, m' < m ∧ Pick led led1 rest ∧ I m' loc led1
  | .cont => ∃ m' led1 rest, m' < m ∧ Pick led led1 rest ∧ I m' loc led1
  | .brk => R .next loc led
  | .ret v => R (.ret v) loc led
theorem RunC.while {test : Expr} {body : List Stmt} (I : Nat → Loc → Led → Prop) {R : Flow → Loc → Led → Prop}
    (turn : ∀ m loc led, I m loc led → Run C (isTrue test C.env (eval test C.env)) loc led (fun b loc led => (b = true → Run C (execs body C.env) loc led (TurnW I R m)) ∧ (b = false → R .next loc led))) :
    ∀ m loc led, I m loc led → RunC C (.whileLoop test body [] C.env) loc led R := by
  intro m
  induction m using Nat.strongRecOn with
  | ind m ih =>
    intro loc led hi
    refine RunC.tree rfl rfl rfl ?_
    show Run C ((whileTurn test body [] C.env).onRaise _) _ _ _
    refine Run.onRaise ?_
    unfold whileTurn
    refine Run.bind ((turn m loc led hi).mono fun b loc1 led1 hb => ?_)
    cases b with
    | false =>
      rw [if_neg (by decide)]
      exact Run.bind (run_execs_nil (Run.pure (hb.2 rfl)))
    | true =>
      rw [if_pos rfl]
      refine Run.bind ((hb.1 rfl).mono fun f loc2 led2 hf => ?_)
      cases f with
      | next =>
        obtain ⟨m', led3, rest, hm, hp, hi'⟩ := hf
        exact Run.pure (a := Fin.again _) ⟨rfl, RunC.drop hp (ih m' hm _ _ hi')⟩
      | cont =>
        obtain ⟨m', led3, rest, hm, hp, hi'⟩ := hf
        exact Run.pure (a := Fin.again _) ⟨rfl, RunC.drop hp (ih m' hm _ _ hi')⟩
      | brk => exact Run.pure hf
      | ret v => exact Run.pure hf
theorem run_While {test : Expr} {body : List Stmt} {pos : Pos} {Q : Flow → Loc → Led → Prop} (h : RunC C (.whileLoop test body [] C.env) loc led Q) : Run C (exec (.While test body [] pos) C.env) loc led Q := by
  rw [exec_While]
  exact Run.at_ (Run.runOwn h)
end

/-! ## comprehensions -/
theorem St.back {C C2 : Cx} {loc loc2 : Loc} {led led2 : Led} {s s' : Shared} (st : St C loc led s) (hg : C2.g = hideAll s.heap (led.map (·.1))) (hG : C2.G = C.G) (hD : C2.D = C.D) (hO : C2.O = C.O) (st2 : St C2 loc2 led2 s') : St C loc led2 s' := by
  have hL : C.env.locals ∉ led.map (·.1) := fun hm => by
    obtain ⟨p, hp, e⟩ := List.mem_map.mp hm
    exact (st.nw p hp).2.1 e
  have kg : ∀ b o, C.g.get? b = some o → C2.g.get? b = some o := fun b o e => hg ▸ hideAll_get _ (st.fr.keep b o e) fun hm => by
    obtain ⟨p, hp, rfl⟩ := List.mem_map.mp hm
    have := (st.nw p hp).2.2
    rw [e] at this; cases this
  obtain ⟨oL, es, ep, a1, a2⟩ := st.fr.ns
  have a3 : C2.g.get? C.env.locals = some oL := hg ▸ hideAll_get _ a1 hL
  refine ⟨st.nm, ⟨⟨oL, es, ep, st2.fr.keep _ _ a3, a2⟩, fun b o e => st2.fr.keep b o (kg b o e), st.fr.above⟩, fun p hp => ⟨(st2.nw p hp).1, fun e => ?_, ?_⟩, st2.nd, st2.gens.trans hG, st2.dr.trans hD, st2.os.trans hO⟩
  · have := (st2.nw p hp).2.2; rw [e, a3] at this; cases this
  · cases e : C.g.get? p.1 with
    | none => rfl
    | some o => have := kg _ _ e; rw [(st2.nw p hp).2.2] at this; cases this

inductive Relab (sc : List (Str × NameKind)) : List (Str × NameKind) → List (Str × NameKind) → Prop
  | nil : Relab sc [] []
  | free {x l l'} : (x, NameKind.cell) ∈ sc → Relab sc l l' → Relab sc ((x, .free) :: l) ((x, .cell) :: l')
  | keep {x k l l'} : (k == NameKind.free) = false → Relab sc l l' → Relab sc ((x, k) :: l) ((x, k) :: l')
theorem Relab.is {C : Cx} {prog : Program} {w : World} {K : Frag} {n : Nat} {sc l l' : List (Str × NameKind)} (hC : C.Is prog w K n sc) (ok : C.Ok) (h : Relab sc l l') :
    (l.map fun (n, k) => if (k == .free && C.env.scope.kind == .function && C.env.kindOf n == some .cell) then (n, NameKind.cell) else (n, k)) = l' := by
  induction h with
  | nil => rfl
  | free hm _ ih => rw [List.map_cons, ih]; dsimp only; rw [ok.kf, hC.kind ok hm]; rfl
  | keep hk _ ih => rw [List.map_cons, ih]; dsimp only; rw [hk]; rfl
theorem Relab.keys {sc l l' : List (Str × NameKind)} (h : Relab sc l l') : l'.map (·.1) = l.map (·.1) := by
  induction h with
  | nil => rfl
  | free _ _ ih => rw [List.map_cons, List.map_cons, ih]
  | keep _ _ ih => rw [List.map_cons, List.map_cons, ih]
/-- the closure of a comprehension, as it is gathered -/
inductive Clos (cells : List (Str × Addr)) : List (Str × NameKind) → List (Str × Addr) → List (Str × Addr) → Prop
  | nil {a} : Clos cells [] a a
  | free {x c l a b} : cells.lookup x = some c → Clos cells l ((x, c) :: a) b → Clos cells ((x, .free) :: l) a b
  | skip {x k l a b} : (k == NameKind.free) = false → Clos cells l a b → Clos cells ((x, k) :: l) a b
theorem Clos.is {env : Env} {l : List (Str × NameKind)} {a b : List (Str × Addr)} (h : Clos env.cells l a b) : (do
    let mut cs := a
    for (name, kind) in l do
      if kind == .free then cs := (name, ← cellOf env name) :: cs
    return cs : Sem (List (Str × Addr))) = pure b := by
  induction h with
  | nil => rfl
  | @free x c l a b hc _ ih =>
    rw [← ih]
    simp only [List.forIn_cons, beq_self_eq_true, if_true, cellOf, hc, pure_bind]
  | @skip x k l a b hk _ ih =>
    rw [← ih]
    simp only [List.forIn_cons, hk, Bool.false_eq_true, if_false, pure_bind]

section
variable {C : Cx} {loc : Loc} {led : Led} {prog : Program} {w : World} {K : Frag} {n : Nat} {sc : List (Str × NameKind)}
theorem run_tests0 {env : Env} {Q : Bool → Loc → Led → Prop} (h : Q true loc led) :
    Run C (forIn ([] : List Expr) true fun c r => if r = true then do let ok ← isTrue c env (eval c env); pure (ForInStep.yield ok) else pure (ForInStep.yield r)) loc led Q := Run.pure h
theorem run_tests1 {env : Env} {c : Expr} {Q : Bool → Loc → Led → Prop} (h : Run C (isTrue c env (eval c env)) loc led Q) :
    Run C (forIn [c] true fun c r => if r = true then do let ok ← isTrue c env (eval c env); pure (ForInStep.yield ok) else pure (ForInStep.yield r)) loc led Q := by
  simp only [List.forIn_cons, List.forIn_nil, if_true]
  exact Run.bind (Run.bind (h.mono fun b _ _ h => Run.pure (Run.pure h)))

def lstObj (items : List Value) (k : Nat) : Obj := listOf items.toArray k
theorem St.put {led' : Led} {a : Addr} {o o' : Obj} {s : Shared} {h' : Heap} {tk : Nat} (h : St C loc led s) (hp : Put a o o' led led') (F : Fr C.g C.env.locals h' (vfun loc)) (N : News C.g C.env.locals h' led') : St C loc led' { s with heap := h', toks := tk } :=
  h.of h.nm F N (by rw [hp.keys]; exact h.nd)
theorem run_append {l : Addr} {items : List Value} {k : Nat} {x : Value} {led' : Led} {Q : Value → Loc → Led → Prop} (hp : Put l (lstObj items k) (lstObj (items ++ [x]) (k + 1)) led led') (hz : items.length ≤ 100000) (h : Q .none loc led') :
    Run C (call (.builtin "list.append") [.ref l, x]) loc led Q := Run.any fun ok s hs => by
  have U := hp.upd hs.nd
  unfold lstObj at U
  rw [← List.push_toArray] at U
  exact append_K hs.fr hs.nw U (fun h' F N => ⟨_, _, hs.put hp F N, h⟩) (by rw [List.size_toArray, sizeLine_eq]; omega)

/-- the turns of a comprehension: the list grown so far is told -/
def TurnC (I : Nat → List Value → Led → Prop) (it D : Addr) (P : Nat → Obj → Prop) (i : Nat) (items : List Value) : Led → Prop := fun led =>
  ∃ o k led1 rest, Pick led ((it, o) :: (D, lstObj items k) :: led1) rest ∧ P (i + 1) o ∧ I (i + 1) items led1
theorem RunC.comp {elt iter : Expr} {x : Str} {px : Pos} {ifs : List Expr} {scope : Scope} {pos : Pos} {it D : Addr} {side : Led → Prop} {P : Nat → Obj → Prop} {m : Nat} {val : Nat → Value → Prop} (hI : IterP C it side P m val)
    (I : Nat → List Value → Led → Prop) {R : Flow → Loc → Led → Prop} (hside : ∀ i items k led, I i items led → side ((D, lstObj items k) :: led)) (hmax : ∀ i items led, I i items led → items.length ≤ 1000)
    (turn : ∀ i v o k items led, i < m → val i v → P (i + 1) o → I i items led → Run C (forIn ifs true fun c r => if r = true then do let ok ← isTrue c C.env (eval c C.env); pure (ForInStep.yield ok) else pure (ForInStep.yield r)) [(x, some v)] ((it, o) :: (D, lstObj items k) :: led)
      (fun ok loc led => if ok = true then Run C (eval elt C.env) loc led (fun r loc led => loc = [(x, some v)] ∧ ∃ o k led1 rest, Pick led ((it, o) :: (D, lstObj items k) :: led1) rest ∧ P (i + 1) o ∧ I (i + 1) (items ++ [r]) led1)
        else loc = [(x, some v)] ∧ TurnC I it D P i items led))
    (done : ∀ k (ov : Option Value) items led, I m items led → R .next [(x, ov)] ((D, lstObj items k) :: led)) :
    ∀ j i o k items (ov : Option Value) led, m - i = j → i ≤ m → P i o → I i items led → RunC C (.compLoop (.ListComp elt [⟨.Name x px, iter, ifs, 0⟩] scope pos) 0 (.ref it) (.ref D) C.env) [(x, ov)] ((it, o) :: (D, lstObj items k) :: led) R := by
  intro j
  induction j with
  | zero =>
    intro i o k items ov led hk hle hP hi
    obtain rfl : i = m := by omega
    refine RunC.tree rfl rfl rfl ?_
    show Run C ((compTurn (.ListComp elt [⟨.Name x px, iter, ifs, 0⟩] scope pos) 0 (.ref it) (.ref D) C.env).onRaise _) _ _ _
    refine Run.onRaise ?_
    rw [compTurn_list]
    exact Run.at_ (Run.bind (hI.done o _ _ _ hP (hside _ _ _ _ hi) (Run.pure (done k ov items led hi))))
  | succ j ih =>
    intro i o k items ov led hk hle hP hi
    have hlt : i < m := by omega
    refine RunC.tree rfl rfl rfl ?_
    show Run C ((compTurn (.ListComp elt [⟨.Name x px, iter, ifs, 0⟩] scope pos) 0 (.ref it) (.ref D) C.env).onRaise _) _ _ _
    refine Run.onRaise ?_
    rw [compTurn_list]
    refine Run.at_ (Run.bind (hI.next i o _ _ _ hlt hP (hside _ _ _ _ hi) fun v o' hv hP' => ?_))
    refine Run.bind (Run.pure (Run.bind (run_asName (loc' := [(x, some v)]) .here (Run.bind ((turn i v o' k items led hlt hv hP' hi).mono fun ok loc1 led1 h1 => ?_)))))
    cases ok with
    | false =>
      rw [if_neg (by decide)] at h1
      obtain ⟨rfl, o2, k2, led2, rest, hp, hP2, hi2⟩ := h1
      exact Run.pure (a := Fin.again _) ⟨rfl, RunC.drop hp (ih (i + 1) o2 k2 items _ led2 (by omega) (by omega) hP2 hi2)⟩
    | true =>
      rw [if_pos rfl] at h1
      refine Run.bind (Run.bind (h1.mono fun r loc2 led2 h2 => ?_))
      obtain ⟨rfl, o2, k2, led3, rest, hp, hP2, hi2⟩ := h2
      have hmx := hmax _ _ _ hi
      refine Run.bind (Run.drop hp (run_append (led' := (it, o2) :: (D, lstObj (items ++ [r]) (k2 + 1)) :: led3) (.there .here) (by omega) (Run.pure ?_)))
      exact Run.pure (a := Fin.again _) ⟨rfl, ih (i + 1) o2 (k2 + 1) (items ++ [r]) _ led3 (by omega) (by omega) hP2 hi2⟩
theorem RunC.compStart {elt iter : Expr} {x : Str} {px : Pos} {ifs : List Expr} {scope : Scope} {pos : Pos} {it acc : Value} {R : Flow → Loc → Led → Prop}
    (h : RunC C (.compLoop (.ListComp elt [⟨.Name x px, iter, ifs, 0⟩] scope pos) 0 it acc C.env) loc led R)
    (hs : ∀ Q : Value → Loc → Led → Prop, Q it loc led → Run C (pyIter it) loc led Q) : RunC C (.compStart (.ListComp elt [⟨.Name x px, iter, ifs, 0⟩] scope pos) 0 it acc C.env) loc led R := by
  refine RunC.tree rfl rfl rfl ?_
  show Run C ((PySem.compStart (.ListComp elt [⟨.Name x px, iter, ifs, 0⟩] scope pos) 0 it acc C.env).onRaise _) _ _ _
  refine Run.onRaise ?_
  unfold PySem.compStart
  show Run C (ask >>= _) _ _ _
  refine Run.bind (Run.any fun ok s hs' => wpAny_askSetting ⟨_, _, hs', ?_⟩)
  split
  · first
      | exact Run.bind (Run.pure (Run.pure (a := Fin.again _) ⟨rfl, h⟩))
      | exact Run.pure (a := Fin.again _) ⟨rfl, h⟩
  · first
      | exact Run.bind (Run.rule (Run.at_ (Run.bind (hs _ (Run.pure (a := Fin.again _) ⟨rfl, h⟩)))))
      | (refine Run.bind (Run.rule ?_); show Run C (standAt iter.pos >>= _) _ _ _; exact Run.at_ (Run.bind (hs _ (Run.pure (a := Fin.again _) ⟨rfl, h⟩))))

theorem compEnv_new {scope : Scope} {cl : List (Str × Addr)} {L2 : Addr} {env : Env} : ({ newEnv scope L2 env.globals cl env.qual none .none (some env) builtinsNs with scope := relabel scope env } : Env) = compEnvC scope cl L2 env := rfl

/-- a comprehension up to its end: what the heap is there, its own frame still standing -/
theorem comp_go {prog : Program} {w : World} {K : Frag} {n : Nat} {sc sc2 : List (Str × NameKind)} {elt iter : Expr} {x : Str} {px : Pos} {ifs : List Expr} {scope : Scope} {pos : Pos} {cl : List (Str × Addr)} {s : Shared} {it : Value} {Post : Addr → Led → Prop} {Q' : Value → Env → Shared → Prop}
    (hC : C.Is prog w K n sc) (ok : C.Ok) (st : St C loc led s) (hrl : Relab sc scope.names sc2) (hkind : scope.kind = .function) (hnd : (scope.names.map (·.1)).Nodup) (hcell : ∀ y ∈ scope.names, y.2 ≠ .cell)
    (hx : (x, NameKind.local) ∈ scope.names) (hdb : (x == ("__debug__" : Str)) = false)
    (h : ∀ D, ∀ C2 : Cx, C2.Is prog w K n sc2 → C2.env.cells = cl → RunC C2 (.compStart (.ListComp elt [⟨.Name x px, iter, ifs, 0⟩] scope pos) 0 it (.ref D) C2.env) [(x, none)] ((D, lstObj [] 0) :: led) (fun _ _ led2 => Post D led2))
    (hQ : ∀ D L2 led2 s', C.env.locals ≠ L2 → (∃ m, s'.heap.Ns L2 m) → C.g.get? L2 = none → (∀ p ∈ led2, p.1 ≠ L2) → St C loc led2 s' → Post D led2 → Q' (.ref D) (compEnvC scope cl L2 C.env) s') :
    wpP (model C.prog C.w) C.A (newList []) (fun acc s₃ => wpP (model C.prog C.w) C.A (newFunctionEnv scope C.env.globals cl [] C.env.qual none .none (some C.env)) (fun cenv s₄ =>
      codeP (model C.prog C.w) C.A (.compStart (.ListComp elt [⟨.Name x px, iter, ifs, 0⟩] scope pos) 0 it acc { cenv with scope := relabel scope C.env }) (fun _ s' => Q' acc { cenv with scope := relabel scope C.env } s') s₄) s₃) s := by
  refine wpP_of_any (wpAny_newObj_type ?_)
  have st3 := st.push (listOf #[] 0)
  show wpP _ _ _ _ ({ s with heap := s.heap.push (listOf #[] 0) } : Shared)
  generalize hs3 : ({ s with heap := s.heap.push (listOf #[] 0) } : Shared) = s₃ at st3 ⊢
  generalize hD : s.heap.objs.size = D at st3 ⊢
  refine wpP_of_any (wpAny_newFunctionEnv hcell (by intro y hy; simp at hy) (fun h₁ hns₁ hsb₁ => ?_) hkind)
  have hk₁ : ∀ b o, s₃.heap.get? b = some o → h₁.get? b = some o := fun b o e => hsb₁.extBut b o (Nat.ne_of_lt (Heap.lt_size e)) (Heap.get?_push_of_some _ e)
  obtain ⟨p0, l0, mg, mb, T⟩ := ok.T
  let ks := ((D, listOf #[] 0) :: led).map (·.1)
  let env2 := compEnvC scope cl s₃.heap.objs.size C.env
  let C2 : Cx := ⟨C.prog, C.w, C.K, C.A, hideAll s₃.heap ks, env2, [x], C.n, C.G, C.D, C.O⟩
  have kg : ∀ b o, C.g.get? b = some o → (hideAll s₃.heap ks).get? b = some o := fun b o e => hideAll_get _ (st3.fr.keep b o e) fun hm => by
    obtain ⟨p, hp, rfl⟩ := List.mem_map.mp hm
    have := (st3.nw p hp).2.2
    rw [e] at this; cases this
  have ok2 : C2.Ok := ⟨ok.X.keeps kg, ⟨p0, l0, mg, mb, T.keeps kg⟩, ok.hd, hkind, ok.gl, ok.bl, by show ([x] : List Str).Nodup; simp, fun y hy => by
      obtain rfl : y = x := by have hy : y ∈ [x] := hy; simpa using hy
      exact lookup_relabel_local (lookup_kind hnd hx), by
      show ((relabel scope C.env).names.map (·.1)).Nodup
      unfold relabel
      rw [Relab.is hC ok hrl, hrl.keys]; exact hnd, fun y hy => by
      obtain rfl : y = x := by have hy : y ∈ [x] := hy; simpa using hy
      exact hdb, ok.dp, ok.un⟩
  have hC2 : C2.Is prog w K n sc2 := ⟨hC.prog, hC.w, hC.K, hC.n, Relab.is hC ok hrl⟩
  have st2 : St C2 [(x, none)] ((D, listOf #[] 0) :: led) { s₃ with heap := h₁, toks := s₃.toks + ([] : List (Str × Value)).length } := by
    refine ⟨rfl, ⟨?_, fun b o e => hk₁ b o (of_hideAll _ e), Nat.le_of_eq (hideAll_size _ _)⟩, fun p hp => ⟨hk₁ _ _ (st3.nw p hp).1, Nat.ne_of_lt (Heap.lt_size (st3.nw p hp).1), hideAll_none _ (List.mem_map_of_mem (f := (·.1)) hp)⟩, st3.nd, st3.gens, st3.dr, st3.os⟩
    have e : vfun [(x, none)] = fun y => ([] : List (Str × Value)).reverse.lookup y := by
      funext y
      unfold vfun
      rw [List.lookup_cons]
      cases y == x <;> rfl
    rw [e]; exact hns₁
  refine codeP_mono (h D C2 hC2 rfl ok2 _ st2) fun f s' hf => ?_
  obtain ⟨loc2, led2, st4, hp⟩ := hf
  obtain ⟨oL, es, ep, aL, _⟩ := st3.fr.ns
  have hLL : C.env.locals ≠ s₃.heap.objs.size := Nat.ne_of_lt (Heap.lt_size aL)
  have hLk : C.env.locals ∉ ks := fun hm => by
    obtain ⟨p, hp, e⟩ := List.mem_map.mp hm
    exact (st3.nw p hp).2.1 e
  have keep2 : ∀ b o, C2.g.get? b = some o → s'.heap.get? b = some o := fun b o e => st4.fr.keep b o e
  obtain ⟨oL, es, ep, a1, a2⟩ := st3.fr.ns
  have a3 : C2.g.get? C.env.locals = some oL := hideAll_get _ a1 hLk
  refine hQ D s₃.heap.objs.size led2 s' hLL ⟨_, st4.fr.ns⟩ ?_ (fun p hp => (st4.nw p hp).2.1) ?_ hp
  · cases e : C.g.get? s₃.heap.objs.size with
    | none => rfl
    | some o => exact absurd (Heap.lt_size (st3.fr.keep _ _ e)) (Nat.lt_irrefl _)
  refine ⟨st3.nm, ⟨⟨oL, es, ep, keep2 _ _ a3, a2⟩, fun b o e => keep2 b o (kg b o e), st3.fr.above⟩, fun p hp => ⟨(st4.nw p hp).1, fun e => ?_, ?_⟩, st4.nd, st4.gens, st4.dr, st4.os⟩
  · have := (st4.nw p hp).2.2; rw [e, a3] at this; cases this
  · cases e : C.g.get? p.1 with
    | none => rfl
    | some o => have := kg _ _ e; rw [(st4.nw p hp).2.2] at this; cases this

theorem St.sameBut {s : Shared} {L2 : Addr} {h' : Heap} (st : St C loc led s) (hL : C.env.locals ≠ L2) (hg : C.g.get? L2 = none) (hl : ∀ p ∈ led, p.1 ≠ L2) (hs : Heap.SameBut L2 s.heap h') : St C loc led { s with heap := h' } := by
  obtain ⟨oL, es, ep, a1, a2⟩ := st.fr.ns
  refine ⟨st.nm, ⟨⟨oL, es, ep, (hs.2 _ hL).trans a1, a2⟩, fun b o e => (hs.2 b fun q => ?_).trans (st.fr.keep b o e), st.fr.above⟩, fun p hp => ⟨(hs.2 p.1 (hl p hp)).trans (st.nw p hp).1, (st.nw p hp).2⟩, st.nd, st.gens, st.dr, st.os⟩
  rw [q, hg] at e; cases e
theorem comp_vars {scope : Scope} {cl : List (Str × Addr)} {L2 : Addr} {env : Env} (hnd : (scope.names.map (·.1)).Nodup) : ∀ x ∈ (scope.names.filter fun x => (x.2 == .local || x.2 == .cell) && x.1 != (".0" : Str)), x.2 = .local →
    Env.kindOf (compEnvC scope cl L2 env) x.1 = some .local := fun x hx hl => by
  obtain ⟨y, k⟩ := x
  obtain rfl : k = .local := hl
  exact lookup_relabel_local (lookup_kind hnd (List.mem_filter.mp hx).1)

theorem run_ListComp {prog : Program} {w : World} {K : Frag} {n : Nat} {sc sc2 : List (Str × NameKind)} {elt iter : Expr} {x : Str} {px : Pos} {ifs : List Expr} {scope : Scope} {pos : Pos} {cl : List (Str × Addr)} {Q : Value → Loc → Led → Prop}
    (hC : C.Is prog w K n sc) (hcl : Clos C.env.cells scope.names [] cl) (hrl : Relab sc scope.names sc2) (hkind : scope.kind = .function) (hnd : (scope.names.map (·.1)).Nodup) (hcell : ∀ y ∈ scope.names, y.2 ≠ .cell)
    (hx : (x, NameKind.local) ∈ scope.names) (hdb : (x == ("__debug__" : Str)) = false)
    (h : Run C (eval iter C.env) loc led (fun xv loc led => Run C (pyIter xv) loc led (fun it loc led => ∀ D, ∀ C2 : Cx, C2.Is prog w K n sc2 → C2.env.cells = cl →
      RunC C2 (.compStart (.ListComp elt [⟨.Name x px, iter, ifs, 0⟩] scope pos) 0 it (.ref D) C2.env) [(x, none)] ((D, lstObj [] 0) :: led) (fun _ _ led2 => Q (.ref D) loc led2))))
    (hs : ∀ v, foldedSetIterable iter C.env v = pure v := by intro _; with_unfolding_all rfl) : Run C (eval (.ListComp elt [⟨.Name x px, iter, ifs, 0⟩] scope pos) C.env) loc led Q := fun ok s hs0 => by
  rw [eval_ListComp]
  unfold comprehension
  have hclos : closureFor scope C.env = pure cl := hcl.is
  rw [hclos]
  refine (Run.bind (f := _) (m := firstIter [⟨.Name x px, iter, ifs, 0⟩] C.env) (h.mono fun xv loc led h => Run.at_ ?_)) ok s hs0
  show Run C (foldedSetIterable iter C.env xv >>= _) _ _ _
  rw [hs]
  refine Run.bind (Run.pure (Run.bind (Run.holding (h.mono fun it loc led h => ?_))))
  intro ok s hs0
  refine wpP_bind (wpP_mono (comp_go hC ok hs0 hrl hkind hnd hcell hx hdb h (Q' := fun acc cenv s' => ∃ led2, C.env.locals ≠ cenv.locals ∧ (∃ m, s'.heap.Ns cenv.locals m) ∧ C.g.get? cenv.locals = none ∧ (∀ p ∈ led2, p.1 ≠ cenv.locals) ∧ St C loc led2 s' ∧ Q acc loc led2 ∧ cenv = compEnvC scope cl cenv.locals C.env)
    fun D L2 led2 s' a b c d e f => ⟨led2, a, b, c, d, e, f, rfl⟩) fun acc s₃ h₃ => wpP_bind (wpP_pure (wpP_bind (wpP_mono h₃ fun cenv s₄ h₄ => ?_))))
  refine wpP_holding (wpP_bind (wpP_attempt (wpP_holding (wpP_run (codeP_mono h₄ fun f s' hf => ?_)))))
  obtain ⟨led2, hLL, ⟨m, hn⟩, hg, hl2, hst, hq, he⟩ := hf
  refine wpP_bind (wpP_holding (wpP_of_any (wpAny_comp_letGo hkind _ s' m (fun y hy hl => ?_) hn fun h' m' _ hs' => wpP_pure ⟨loc, led2, hst.sameBut hLL hg hl2 hs', hq⟩)))
  show Env.kindOf { cenv with scope := relabel scope C.env } y.1 = some .local
  rw [he]
  exact comp_vars hnd y (List.mem_reverse.mp hy) hl

/-- y = [..]: the list is stored ahead of the comprehension's own end -/
theorem run_AssignComp {prog : Program} {w : World} {K : Frag} {n : Nat} {sc sc2 : List (Str × NameKind)} {elt iter : Expr} {x y : Str} {px py : Pos} {ifs : List Expr} {scope : Scope} {pos spos : Pos} {cl : List (Str × Addr)} {Q : Flow → Loc → Led → Prop}
    (hC : C.Is prog w K n sc) (hcl : Clos C.env.cells scope.names [] cl) (hrl : Relab sc scope.names sc2) (hkind : scope.kind = .function) (hnd : (scope.names.map (·.1)).Nodup) (hcell : ∀ y ∈ scope.names, y.2 ≠ .cell)
    (hx : (x, NameKind.local) ∈ scope.names) (hdb : (x == ("__debug__" : Str)) = false) (hline : (spos.line == pos.line) = true) (hpl : (py.line == pos.line) = true) (hny : (scope.names.any fun (n, k) => n == y && (k == .local || k == .cell)) = false) (hy : y ∈ C.names)
    (h : Run C (eval iter C.env) loc led (fun xv loc led => Run C (pyIter xv) loc led (fun it loc led => ∀ D, ∀ C2 : Cx, C2.Is prog w K n sc2 → C2.env.cells = cl →
      RunC C2 (.compStart (.ListComp elt [⟨.Name x px, iter, ifs, 0⟩] scope pos) 0 it (.ref D) C2.env) [(x, none)] ((D, lstObj [] 0) :: led) (fun _ _ led2 => ∃ loc', SetL y (.ref D) loc loc' ∧ Q .next loc' led2))))
    (hs : ∀ v, foldedSetIterable iter C.env v = pure v := by intro _; with_unfolding_all rfl) : Run C (exec (.Assign [.Name y py] (.ListComp elt [⟨.Name x px, iter, ifs, 0⟩] scope pos) spos) C.env) loc led Q := fun ok s hs0 => by
  have hsw : swapsWith (.ListComp elt [⟨.Name x px, iter, ifs, 0⟩] scope pos) (some (.Name y py)) spos.line C.env = pure true := by
    show (pure (C.env.blockKind == .function && C.env.kindOf y == some .local && py.line == pos.line && !(scope.names.any fun (n, k) => n == y && (k == .local || k == .cell))) : Sem Bool) = pure true
    rw [ok.kl y hy, hpl, hny]
    have : C.env.blockKind = .function := by unfold Env.blockKind; rw [ok.kf]; rfl
    rw [this]; rfl
  rw [exec_Assign_Name_used _ _ _ _ hsw]
  refine (Run.at_ (C := C) (loc := loc) (led := led) ?_) ok s hs0
  rw [arm_evalThenUse_ListComp]
  dsimp only
  unfold comprehension
  have hclos : closureFor scope C.env = pure cl := hcl.is
  rw [hclos]
  refine Run.bind (Run.bind ?_)
  refine (Run.bind (f := _) (m := firstIter [⟨.Name x px, iter, ifs, 0⟩] C.env) (h.mono fun xv loc led h => Run.at_ ?_))
  show Run C (foldedSetIterable iter C.env xv >>= _) _ _ _
  rw [hs]
  refine Run.bind (Run.pure (Run.bind (Run.holding (h.mono fun it loc led h => ?_))))
  show Run C (standAt _ >>= _) _ _ _
  refine Run.at_ ?_
  intro ok s hs0
  refine wpP_bind (wpP_mono (comp_go hC ok hs0 hrl hkind hnd hcell hx hdb h (Q' := fun acc cenv s' => ∃ D led2, acc = .ref D ∧ C.env.locals ≠ cenv.locals ∧ (∃ m, s'.heap.Ns cenv.locals m) ∧ C.g.get? cenv.locals = none ∧ (∀ p ∈ led2, p.1 ≠ cenv.locals) ∧ St C loc led2 s' ∧ (∃ loc', SetL y (.ref D) loc loc' ∧ Q .next loc' led2) ∧ cenv = compEnvC scope cl cenv.locals C.env)
    fun D L2 led2 s' a b c d e f => ⟨D, led2, rfl, a, b, c, d, e, f, rfl⟩) fun acc s₃ h₃ => wpP_bind (wpP_pure (wpP_bind (wpP_mono h₃ fun cenv s₄ h₄ => ?_))))
  refine wpP_holding (wpP_bind (wpP_attempt (wpP_holding (wpP_run (codeP_mono h₄ fun f s' hf => ?_)))))
  obtain ⟨D, led2, rfl, hLL, ⟨m, hn⟩, hg, hl2, st', ⟨loc', hset, hq⟩, he⟩ := hf
  refine wpP_bind (wpP_rule (wpP_bind (wpP_holding (wpP_of_any ?_))))
  refine wpAny_assign_Name (wpAny_storeName_local (ok.kl y hy) st'.fr.ns (fun h₂ hn₂ hs₂ => ?_) (by rw [ok.kf]; rfl))
  refine wpP_bind (wpP_of_any (wpAny_comp_letGo hkind _ _ m (fun z hz hl => ?_) (hn.sameBut hs₂ (Ne.symm hLL)) fun h' m' _ hs' => wpP_pure ⟨loc', led2, ?_, Run.pure (Run.pure hq)⟩))
  · show Env.kindOf { cenv with scope := relabel scope C.env } z.1 = some .local
    rw [he]
    refine comp_vars hnd z ?_ hl
    rcases List.mem_append.mp hz with q | q
    · exact List.mem_reverse.mp (List.mem_of_mem_drop q)
    · exact List.mem_reverse.mp (List.mem_of_mem_take q)
  · exact (st'.setL ok hset (st'.fr.set hn₂ hs₂) (st'.nw.set hs₂)).sameBut hLL hg hl2 hs'
end
end Fb

/-! B0 -/
namespace Fb
/-! ## bytearray -/
abbrev baObj (l : List UInt8) : Obj := { cls := .type "bytearray", data := .bytearray l.toArray }
namespace Ft
theorem mro_ba : mroOf (.type "bytearray") = pure [.type "bytearray", .type "object"] := by rw [mroOf_type]; kernel_rfl
theorem lookup_ba_new : typeLookup (.type "bytearray") "__new__" = pure (some (.builtin "bytearray.__new__")) := by rw [typeLookup_type, builtinLookup_eq_fast]; kernel_rfl
theorem slot_ba_init : Slot "bytearray" "__init__" "bytearray.__init__" :=
  .of (owner := "bytearray") (n := "__init__") (by rw [typeLookup_type, builtinLookup_eq_fast]; kernel_rfl) (by decide +kernel) (by decide +kernel) (by decide +kernel)
    (by first | exact .inl (by decide +kernel) | exact .inr (by decide +kernel)) (by rw [isSubtype_type]; kernel_rfl)
theorem called_ba : TypeCalled "bytearray" "bytearray.__new__" "bytearray.__init__" :=
  ⟨by decide +kernel, by decide +kernel, ⟨_, _, mro_ba⟩, madeBy_type mro_ba lookup_ba_new (by decide +kernel), by decide +kernel, by rw [isSubtype_type]; kernel_rfl, slot_ba_init⟩
theorem typeCall_ba (a : Value) : checkTypeCall "bytearray" ⟨[a], []⟩ = pure () := by kernel_rfl
theorem newCall_ba (a : Value) : checkBuiltinCall "bytearray.__new__" ⟨[.type "bytearray", a], []⟩ = pure () := by kernel_rfl
theorem entry_ba_new : entryFor table "bytearray.__new__" = some Builtin.«list.__new__» := entryFor_alias (id' := "list.__new__") (by kernel_rfl) (by first | rfl | decide +kernel) (by decide +kernel) (by kernel_rfl)
theorem plain_ba_new : plainId "bytearray.__new__" = true := by decide +kernel
theorem entry_ba_init : entryFor table "bytearray.__init__" = some Builtin.«bytearray.__init__» := entryFor_of_tree (by kernel_rfl)
theorem owner_ba_new : ("bytearray.__new__".splitOn ".__new__").headD "" = "bytearray" := by simp +decide [String.splitOn, String.splitOnAux]
theorem plain_ba_init : plainId "bytearray.__init__" = true := by decide +kernel
theorem ba_release : typeLookup (.type "bytearray") "__release_buffer__" = pure (some (.builtin "bytearray.__release_buffer__")) := by rw [typeLookup_type, builtinLookup_eq_fast]; kernel_rfl
theorem initCall_ba (a : Value) (n : Int) (t : Tok) : argsOk "bytearray.__init__" ⟨[a, .int n t], []⟩ := by unfold argsOk; kernel_rfl
theorem ba_bind (v : Value) : Builtin.Bytes.bindOptional "bytearray.__init__" "bytearray" ["source", "encoding", "errors"] [v] [] = pure [some v, none, none] := by kernel_rfl
theorem int_index : typeLookup (.type "int") "__index__" = pure (some (.builtin "int.__index__")) := by rw [typeLookup_type, builtinLookup_eq_fast]; kernel_rfl
theorem sub_ba_self : isSubtype (.type "bytearray") (.type "bytearray") = pure true := by rw [isSubtype_type]; kernel_rfl
end Ft
end Fb

/-! B1 -/
namespace Fb
section
variable {prog : Program} {w : World} {A : Around} {E : Value → Shared → Prop} {s : Shared}
theorem code_ba_new (a : Value) {Q₁ : Value → Shared → Prop}
    (h : Q₁ (.ref s.heap.objs.size) { s with heap := s.heap.push (baObj []) }) :
    codeAny (model prog w) A (.call (.builtin "bytearray.__new__") ⟨[.type "bytearray", a], []⟩) (wants Q₁ E) s := by
  refine codeAny_of_tree ?_
  show wpAny _ A.in1 (do checkBuiltinCall "bytearray.__new__" ⟨[.type "bytearray", a], []⟩; again (.builtin "bytearray.__new__" ⟨[.type "bytearray", a], []⟩)) _ _ s
  refine wpAny_bind (wpAny_of_eq (Ft.newCall_ba a) (wpAny_pure ⟨plainId_quiet Ft.plain_ba_new _, codeAny_builtin_stack Ft.entry_ba_new rfl fun p st => ?_⟩))
  rw [Around.under_plainId Ft.plain_ba_new _]
  have hsub := Ft.sub_ba_self
  have hown := Ft.owner_ba_new
  obtain ⟨hp, g, d, tk, os⟩ := s
  simp only [hown]
  wp_walk
  exact h
theorem wpP_callSpecial?_slot {M : Model} {self : Value} {T : String} {name : Str} {id : String} {args : List Value} {kw : List (Str × Value)} {Q : Option Value → Shared → Prop} (hT : s.TypeIs self T) (h : Slot T name id)
    (hc : wpP M A (call (.builtin id) (self :: args) kw) (fun v => Q (some v)) s) : wpP M A (callSpecial? self name args kw) Q s := by
  simp only [callSpecial?]
  refine wpP_bind (wpP_of_any (wpAny_specialOf hT h.lookup ?_))
  simp only [h.bind]
  exact wpP_holding (wpP_bind (wpP_pure (wpP_bind (wpP_mono hc fun v s' h' => wpP_pure h'))))
theorem calm_id {id : String} {args : Args} (h : badIds.contains id = false) : calmC (.builtin id args) = true := by
  show (!badIds.contains id) = true
  rw [h]; rfl
theorem wpP_if_false {α : Type} {M : Model} {c : Bool} {a b : Sem α} {Q : α → Shared → Prop} (hc : c = false) (h : wpP M A b Q s) : wpP M A (if c = true then a else b) Q s := by subst hc; exact h
theorem wpP_if_true {α : Type} {M : Model} {c : Bool} {a b : Sem α} {Q : α → Shared → Prop} (hc : c = true) (h : wpP M A a Q s) : wpP M A (if c = true then a else b) Q s := by subst hc; exact h
theorem wpP_ite_false {α : Type} {M : Model} {c : Prop} [Decidable c] {a b : Sem α} {Q : α → Shared → Prop} (hc : ¬ c) (h : wpP M A b Q s) : wpP M A (if c then a else b) Q s := by rw [if_neg hc]; exact h
theorem wpP_ite_true {α : Type} {M : Model} {c : Prop} [Decidable c] {a b : Sem α} {Q : α → Shared → Prop} (hc : c) (h : wpP M A a Q s) : wpP M A (if c then a else b) Q s := by rw [if_pos hc]; exact h
theorem wpP_eq {α : Type} {M : Model} {t : Sem α} {a : α} {Q : α → Shared → Prop} (e : t = pure a) (h : Q a s) : wpP M A t Q s := by rw [e]; exact wpP_pure h
theorem codeP_builtin {id : String} {args : Args} {b : Builtin} {R : Flow → Shared → Prop} (hcm : calmC (.builtin id args) = true) (hb : entryFor table id = some b)
    (h : wpP (model prog w) (A.under (.builtin id args)) (b args) (fun fin s' => match fin with | .done f => R f s' | .again c' => c'.quiet = true ∧ codeP (model prog w) A c' R s') s) : codeP (model prog w) A (.builtin id args) R s := by
  refine codeP_of_tree hcm ?_
  show wpP _ _ (match entryFor table id with | some b => b args | none => unsupported ((withoutEnding? id "#data").getD id)) _ s
  rw [hb]; exact h
theorem codeP_call_builtin {id : String} {args : Args} {b : Builtin} {R : Flow → Shared → Prop} (hq : plainId id = true) (hcm : calmC (.builtin id args) = true) (hb : entryFor table id = some b)
    (h : wpAny (model prog w) A.in1 (checkBuiltinCall id args) (fun _ s₁ => wpP (model prog w) A.in1 (b args) (fun fin s' => match fin with | .done f => R f s' | .again c' => c'.quiet = true ∧ codeP (model prog w) A c' R s') s₁) (fun _ _ => False) s) :
    codeP (model prog w) A (.call (.builtin id) args) R s := by
  refine codeP_of_tree rfl ?_
  show wpP _ A.in1 (do checkBuiltinCall id args; again (.builtin id args)) _ s
  refine wpP_bind (wpP_mono (wpP_of_any h) fun _ s₁ h₁ => wpP_pure ⟨plainId_quiet hq _, codeP_of_tree hcm ?_⟩)
  rw [Around.under_plainId hq args]
  show wpP _ _ (match entryFor table id with | some b => b args | none => unsupported ((withoutEnding? id "#data").getD id)) _ s₁
  rw [hb]; exact h₁
theorem wpP_callType {T newId initId : String} {args : List Value} {Q Q₁ : Value → Shared → Prop} (ft : TypeCalled T newId initId) (hct : checkTypeCall T ⟨args, []⟩ = pure ())
    (hnew : codeAny (model prog w) A.in1 (.call (.builtin newId) ⟨.type T :: args, []⟩) (wants Q₁ (fun _ _ => False)) s)
    (hnext : ∀ obj s₁, Q₁ obj s₁ → s₁.TypeIs obj T ∧ wpP (model prog w) A.in1 (call (.builtin initId) (obj :: args)) (fun r s₂ => r = .none ∧ Q obj s₂) s₁) :
    wpP (model prog w) A (call (.type T) args) Q s := by
  obtain ⟨c, tl, hmro⟩ := ft.mro
  have hmade := ft.made
  have hsub := ft.sub
  have h1 := ft.notType
  have h2 := ft.canCreate
  refine wpP_call (codeP_of_tree rfl ?_)
  show wpP _ _ (again (.builtin "type.__call__" ⟨.type T :: args, []⟩)) _ _
  refine wpP_pure ⟨Code.quiet_builtin _ (by decide +kernel), codeP_builtin (calm_id (by decide +kernel)) F.entry_type_call ?_⟩
  rw [Around.under_plain (weight_type_call_type T args []) rfl]
  unfold Builtin.«type.__call__»
  dsimp only
  rw [h1, if_neg Bool.false_ne_true, h2, if_neg Bool.false_ne_true, hct]
  refine wpP_bind (wpP_pure ?_)
  rw [hmro]
  refine wpP_bind (wpP_pure ?_)
  rw [List.isEmpty_cons, if_neg Bool.false_ne_true, hmade]
  refine wpP_bind (wpP_pure ?_)
  refine wpP_bind (wpP_pure ?_)
  refine wpP_bind (wpP_holding (wpP_call (codeP_of_any (codeAny_mono hnew fun r s₁ hr => ?_))))
  cases r with
  | error e => exact hr
  | ok fl =>
    cases fl with
    | ret obj =>
      obtain ⟨hT, hn⟩ := hnext _ _ hr
      refine wpP_bind (wpP_of_any (wpAny_isInstance hT hsub ?_))
      refine wpP_bind (wpP_holding (wpP_callSpecial?_slot hT ft.init (wpP_mono hn fun r s₂ hr₂ => ?_)))
      obtain ⟨rfl, hq⟩ := hr₂
      exact wpP_pure hq
    | _ => exact hr.elim
theorem wpP_own {a : Addr} {o : Obj} {Q : Bool → Shared → Prop} (ho : s.heap.get? a = some o) (hc : o.cls = .type "bytearray") (h : Q false s) : wpP (model prog w) A (Builtin.Bytes.ownRelease (.ref a)) Q s := by
  have hT : s.TypeIs (.ref a) "bytearray" := ⟨_, ho, hc⟩
  unfold Builtin.Bytes.ownRelease Builtin.Bytes.slotIsOwn
  refine wpP_bind (wpP_bind (wpP_of_any (wpAny_specialOf hT Ft.ba_release ?_)))
  refine wpP_if_false (by decide +kernel) ?_
  have e : ("bytearray.__release_buffer__".dropRight (("__release_buffer__" : String).length + 1)) = "bytearray" := by decide +kernel
  rw [e]
  exact wpP_of_any (wpAny_isInstance hT Ft.sub_ba_self (wpP_pure h))
theorem wpP_write {a : Addr} {b : Array UInt8} {f : Array UInt8 → Array UInt8} {Q : Unit → Shared → Prop} (ho : s.heap.get? a = some { cls := .type "bytearray", data := .bytearray b }) (hz : (f b).size ≤ 100000)
    (h : ∀ h', Heap.SameBut a s.heap h' → h'.get? a = some { cls := .type "bytearray", data := .bytearray (f b) } → Q () { s with heap := h' }) : wpP (model prog w) A (Builtin.Bytes.write (.ref a) f) Q s := by
  show wpP _ _ (updateBytearray a f) _ _
  unfold updateBytearray
  refine wpP_of_any (wpAny_bind (wpAny_load ho ?_))
  show wpAny _ _ (update a (Obj.mapBytearray f) >>= fun _ => lookBehind a) _ _ _
  refine wpAny_bind (wpAny_update ho ?_)
  have h2 : (s.heap.update a (Obj.mapBytearray f)).get? a = some { cls := .type "bytearray", data := .bytearray (f b) } := Heap.get?_update_self (Obj.mapBytearray f) ho rfl
  refine wpAny_lookBehind h2 ?_ (h _ (Heap.SameBut.update ..) h2)
  show (if (f b).size > sizeLine then some "bytearray:memory" else none) = none
  rw [if_neg]
  rw [sizeLine_eq]; omega
theorem calm_not {id : String} {args : Args} (h : calmC (.builtin id args) = true) : badIds.contains id = false := by
  have h : (!badIds.contains id) = true := h
  simpa using h
theorem not_exported {a : Addr} {c : Code} {p : Pos} (hc : calmC c = true) : (match (c, p) with
    | (Code.builtin "bytearray.__contains__" ⟨v :: _, _⟩, _) | (Code.builtin "bytearray.__mod__" ⟨v :: _, _⟩, _)
    | (Code.builtin "bytearray.__rmod__" ⟨_ :: v :: _, _⟩, _) | (Code.builtin "_struct.pack_into.held" ⟨v :: _, _⟩, _) => Builtin.Bytes.sameRef v (.ref a)
    | (Code.builtin "bytearray.find.held" ⟨_ :: _ :: held, _⟩, _) => held.any (Builtin.Bytes.sameRef (.ref a))
    | (Code.builtin id ⟨v :: _, _⟩, _) => Builtin.Bytes.sameRef v (.ref a) && Builtin.Bytes.decodersThatHold.contains id
    | _ => false) = false := by
  split
  · rename_i e; cases e; exact absurd (calm_not hc) (by decide)
  · rename_i e; cases e; exact absurd (calm_not hc) (by decide)
  · rename_i e; cases e; exact absurd (calm_not hc) (by decide)
  · rename_i e; cases e; exact absurd (calm_not hc) (by decide)
  · rename_i e; cases e; exact absurd (calm_not hc) (by decide)
  · rename_i id _ _ _ _ _ _ _ _ e
    cases e
    have := calm_not hc
    unfold badIds at this
    rw [List.contains_eq_any_beq, List.any_append] at this
    rw [List.contains_eq_any_beq, (Bool.or_eq_false_iff.mp this).1, Bool.and_false]
  · rfl
/-- bytearray(n) -/
theorem ba_init {a : Addr} {n : Int} {t : Tok} {Q : Value → Shared → Prop} (ho : s.heap.get? a = some (baObj [])) (h0 : 0 ≤ n) (h1 : n ≤ 100000)
    (h : ∀ h', Heap.SameBut a s.heap h' → h'.get? a = some (baObj (List.replicate n.toNat 0)) → Q .none { s with heap := h' }) :
    wpP (model prog w) A (call (.builtin "bytearray.__init__") [.ref a, .int n t]) Q s := by
  have hT : s.TypeIs (.ref a) "bytearray" := ⟨_, ho, rfl⟩
  refine wpP_call (codeP_call_builtin Ft.plain_ba_init (calm_id (by decide +kernel)) Ft.entry_ba_init (Ft.slot_ba_init.check _ _ _ _ _ _ _ _ hT (Ft.initCall_ba _ _ _) ?_))
  unfold Builtin.«bytearray.__init__»
  refine wpP_bind (wpP_own ho rfl ?_)
  refine wpP_if_false rfl ?_
  refine wpP_bind (wpP_eq (Ft.ba_bind _) ?_)
  refine wpP_bind (wpP_eq (a := ()) rfl ?_)
  refine wpP_bind (wpP_eq (a := ()) rfl ?_)
  refine wpP_bind (wpP_bind ?_)
  unfold Builtin.Bytes.exported
  refine wpP_stackAny (fun c p hc => ?_) ?_
  · exact not_exported hc
  show wpP _ _ (Builtin.Bytes.exportsOf (Value.ref a) >>= _) _ _
  unfold Builtin.Bytes.exportsOf
  refine wpP_bind (wpP_bind (wpP_load ho (wpP_pure ?_)))
  refine wpP_pure ?_
  refine wpP_if_false rfl ?_
  refine wpP_bind (wpP_write ho (by simp) fun h₁ hs₁ ho₁ => ?_)
  refine wpP_bind (wpP_eq (a := none) rfl ?_)
  refine wpP_if_false rfl ?_
  refine wpP_bind (wpP_eq (a := ()) rfl ?_)
  refine wpP_bind (wpP_of_any (wpAny_specialOf (typeIs_int _ _ _) Ft.int_index ?_))
  refine wpP_if_true rfl ?_
  refine wpP_bind (wpP_eq (a := Except.ok n) rfl ?_)
  refine wpP_if_false (by simp [Builtin.Bytes.fitsIndex]; omega) ?_
  refine wpP_ite_false (by omega) ?_
  refine wpP_if_false (by simp; omega) ?_
  refine wpP_if_false (by simp [Builtin.Bytes.tooLong, sizeLine_eq]; omega) ?_
  refine wpP_bind (wpP_rule ?_)
  by_cases hn : n > 0
  · refine wpP_ite_true hn ?_
    refine wpP_bind (wpP_write ho₁ (by simp; omega) fun h₂ hs₂ ho₂ => ?_)
    refine wpP_pure ?_
    have := h h₂ (hs₁.trans hs₂) (by rw [ho₂]; simp)
    exact this
  · refine wpP_ite_false hn ?_
    have e : n.toNat = 0 := by omega
    rw [e] at h
    exact wpP_pure (h h₁ hs₁ ho₁)
end
end Fb

/-! B2 -/
namespace Fb
open Builtin.Struct in
def fmtOf (c : Char) (n : Nat) : Format := ⟨false, false, [⟨c, 1, 0, n⟩], n, 1⟩
namespace Ft
open Builtin.Struct
theorem parse_B : parse #[60, 66] = pure (fmtOf 'B' 1) := by kernel_rfl
theorem parse_H : parse #[60, 72] = pure (fmtOf 'H' 2) := by kernel_rfl
theorem parse_I : parse #[60, 73] = pure (fmtOf 'I' 4) := by kernel_rfl
theorem parse_i : parse #[60, 105] = pure (fmtOf 'i' 4) := by kernel_rfl
theorem unpacked_B (id : String) (b : Array UInt8) (start : Nat) : unpacked id (fmtOf 'B' 1) b start = (do let v ← mkInt (natOf false (b.extract (start + 0 + 0 * 1) (start + 0 + (0 + 1) * 1))); newTuple [v]) := by kernel_rfl
theorem unpacked_H (id : String) (b : Array UInt8) (start : Nat) : unpacked id (fmtOf 'H' 2) b start = (do let v ← mkInt (natOf false (b.extract (start + 0 + 0 * 2) (start + 0 + (0 + 1) * 2))); newTuple [v]) := by kernel_rfl
theorem unpacked_I (id : String) (b : Array UInt8) (start : Nat) : unpacked id (fmtOf 'I' 4) b start = (do let v ← mkInt (natOf false (b.extract (start + 0 + 0 * 4) (start + 0 + (0 + 1) * 4))); newTuple [v]) := by kernel_rfl
theorem unpacked_i (id : String) (b : Array UInt8) (start : Nat) : unpacked id (fmtOf 'i' 4) b start = (do
    let v ← mkInt (if ('i'.isLower && decide (natOf false (b.extract (start + 0 + 0 * 4) (start + 0 + (0 + 1) * 4)) ≥ 2 ^ (8 * 4 - 1))) = true then (natOf false (b.extract (start + 0 + 0 * 4) (start + 0 + (0 + 1) * 4)) : Int) - 2 ^ (8 * 4) else natOf false (b.extract (start + 0 + 0 * 4) (start + 0 + (0 + 1) * 4)))
    newTuple [v]) := by kernel_rfl
theorem ba_buffer : typeLookup (.type "bytearray") "__buffer__" = pure (some (.builtin "bytearray.__buffer__")) := by rw [typeLookup_type, builtinLookup_eq_fast]; kernel_rfl
theorem by_buffer : typeLookup (.type "bytes") "__buffer__" = pure (some (.builtin "bytes.__buffer__")) := by rw [typeLookup_type, builtinLookup_eq_fast]; kernel_rfl
theorem by_release : typeLookup (.type "bytes") "__release_buffer__" = pure none := by rw [typeLookup_type, builtinLookup_eq_fast]; kernel_rfl
theorem sub_by_self : isSubtype (.type "bytes") (.type "bytes") = pure true := by rw [isSubtype_type]; kernel_rfl
theorem sub_by_ba : isSubtype (.type "bytes") (.type "bytearray") = pure false := by rw [isSubtype_type]; kernel_rfl
theorem sub_ba_by : isSubtype (.type "bytearray") (.type "bytes") = pure false := by rw [isSubtype_type]; kernel_rfl
theorem slot_ba_len : Slot "bytearray" "__len__" "bytearray.__len__" :=
  .of (owner := "bytearray") (n := "__len__") (by rw [typeLookup_type, builtinLookup_eq_fast]; kernel_rfl) (by decide +kernel) (by decide +kernel) (by decide +kernel) (by first | exact .inl (by decide +kernel) | exact .inr (by decide +kernel)) (by rw [isSubtype_type]; kernel_rfl)
theorem entry_ba_len : entryFor table "bytearray.__len__" = some Builtin.«bytearray.__len__» := entryFor_of_tree (by kernel_rfl)
theorem slot_ba_get : Slot "bytearray" "__getitem__" "bytearray.__getitem__" :=
  .of (owner := "bytearray") (n := "__getitem__") (by rw [typeLookup_type, builtinLookup_eq_fast]; kernel_rfl) (by decide +kernel) (by decide +kernel) (by decide +kernel) (by first | exact .inl (by decide +kernel) | exact .inr (by decide +kernel)) (by rw [isSubtype_type]; kernel_rfl)
theorem entry_ba_get : entryFor table "bytearray.__getitem__" = some Builtin.«bytearray.__getitem__» := entryFor_of_tree (by kernel_rfl)
theorem slot_ba_set : Slot "bytearray" "__setitem__" "bytearray.__setitem__" :=
  .of (owner := "bytearray") (n := "__setitem__") (by rw [typeLookup_type, builtinLookup_eq_fast]; kernel_rfl) (by decide +kernel) (by decide +kernel) (by decide +kernel) (by first | exact .inl (by decide +kernel) | exact .inr (by decide +kernel)) (by rw [isSubtype_type]; kernel_rfl)
theorem entry_ba_set : entryFor table "bytearray.__setitem__" = some Builtin.«bytearray.__setitem__» := entryFor_of_tree (by kernel_rfl)
theorem slot_ba_eq : Slot "bytearray" "__eq__" "bytearray.__eq__" :=
  .of (owner := "bytearray") (n := "__eq__") (by rw [typeLookup_type, builtinLookup_eq_fast]; kernel_rfl) (by decide +kernel) (by decide +kernel) (by decide +kernel) (by first | exact .inl (by decide +kernel) | exact .inr (by decide +kernel)) (by rw [isSubtype_type]; kernel_rfl)
theorem entry_ba_eq : entryFor table "bytearray.__eq__" = some Builtin.«bytearray.__eq__» := entryFor_of_tree (by kernel_rfl)
theorem args_ba_len (a : Value) : argsOk "bytearray.__len__" ⟨[a], []⟩ := by unfold argsOk; kernel_rfl
theorem args_ba_get (a b : Value) : argsOk "bytearray.__getitem__" ⟨[a, b], []⟩ := by unfold argsOk; kernel_rfl
theorem args_ba_set (a b c : Value) : argsOk "bytearray.__setitem__" ⟨[a, b, c], []⟩ := by unfold argsOk; kernel_rfl
theorem args_ba_eq (a b : Value) : argsOk "bytearray.__eq__" ⟨[a, b], []⟩ := by unfold argsOk; kernel_rfl
theorem slice_index : typeLookup (.type "slice") "__index__" = pure none := by rw [typeLookup_type, builtinLookup_eq_fast]; kernel_rfl
theorem none_index : typeLookup (.type "NoneType") "__index__" = pure none := by rw [typeLookup_type, builtinLookup_eq_fast]; kernel_rfl
theorem ba_item : typeLookup (.type "bytearray") "__getitem__" = pure (some (.builtin "bytearray.__getitem__")) := slot_ba_get.lookup
theorem drop1 : ("bytearray.__buffer__".dropRight (("__buffer__" : String).length + 1)) = "bytearray" := by decide +kernel
theorem drop2 : ("bytes.__buffer__".dropRight (("__buffer__" : String).length + 1)) = "bytes" := by decide +kernel
theorem drop3 : ("bytearray.__release_buffer__".dropRight (("__release_buffer__" : String).length + 1)) = "bytearray" := by decide +kernel
end Ft

section
variable {prog : Program} {w : World} {A : Around} {E : Value → Shared → Prop} {s : Shared} {M : Model}
theorem wa_own {a : Addr} {Q : Bool → Shared → Prop} (hT : s.TypeIs (.ref a) "bytearray") (h : Q false s) : wpAny M A (Builtin.Bytes.ownRelease (.ref a)) Q E s := by
  unfold Builtin.Bytes.ownRelease Builtin.Bytes.slotIsOwn
  refine wpAny_bind (wpAny_bind (wpAny_specialOf hT Ft.ba_release ?_))
  refine bm_if_false (by decide +kernel) ?_
  rw [Ft.drop3]
  exact wpAny_isInstance hT Ft.sub_ba_self (wpAny_pure h)
theorem wa_payload {a : Addr} {b : Array UInt8} {Q : Array UInt8 → Shared → Prop} (ho : s.heap.get? a = some { cls := .type "bytearray", data := .bytearray b }) (h : Q b s) : wpAny M A (Builtin.Bytes.payload (.ref a)) Q E s := by
  unfold Builtin.Bytes.payload Builtin.Bytes.payload?
  exact wpAny_bind (wpAny_bind (wpAny_load ho (wpAny_pure (wpAny_pure h))))
theorem wa_buffer {a : Addr} {b : Array UInt8} {id : String} {full : Bool} {Q : Option (Array UInt8) → Shared → Prop} (ho : s.heap.get? a = some { cls := .type "bytearray", data := .bytearray b }) (h : Q (some b) s) : wpAny M A (Builtin.Bytes.buffer? id (.ref a) full) Q E s := by
  have hT : s.TypeIs (.ref a) "bytearray" := ⟨_, ho, rfl⟩
  unfold Builtin.Bytes.buffer?
  refine wpAny_bind (wpAny_specialOf hT Ft.ba_buffer ?_)
  unfold Builtin.Bytes.slotIsOwn
  refine wpAny_bind (wpAny_bind (wpAny_specialOf hT Ft.ba_buffer ?_))
  refine bm_if_false (by decide +kernel) ?_
  rw [Ft.drop1]
  refine wpAny_isInstance hT Ft.sub_ba_self ?_
  refine bm_if_false rfl ?_
  refine wpAny_bind (wpAny_specialOf hT Ft.ba_buffer ?_)
  refine wpAny_bind (wa_own hT ?_)
  refine bm_if_false rfl ?_
  exact wpAny_bind (wa_payload ho (wpAny_pure h))
theorem wa_buffer_bytes {b : Array UInt8} {t : Tok} {id : String} {full : Bool} {Q : Option (Array UInt8) → Shared → Prop} (h : Q (some b) s) : wpAny M A (Builtin.Bytes.buffer? id (.bytes b t) full) Q E s := by
  have hT : s.TypeIs (.bytes b t) "bytes" := PySem.W.typeIs_bytes _ _ _
  unfold Builtin.Bytes.buffer?
  refine wpAny_bind (wpAny_specialOf hT Ft.by_buffer ?_)
  unfold Builtin.Bytes.slotIsOwn
  refine wpAny_bind (wpAny_bind (wpAny_specialOf hT Ft.by_buffer ?_))
  refine bm_if_false (by decide +kernel) ?_
  rw [Ft.drop2]
  refine wpAny_isInstance hT Ft.sub_by_self ?_
  refine bm_if_false rfl ?_
  refine wpAny_bind (wpAny_specialOf hT Ft.by_buffer ?_)
  unfold Builtin.Bytes.ownRelease Builtin.Bytes.slotIsOwn
  refine wpAny_bind (wpAny_bind (wpAny_bind (wpAny_specialOf hT Ft.by_release ?_)))
  refine wpAny_pure (wpAny_pure ?_)
  refine bm_if_false rfl ?_
  exact wpAny_bind (wpAny_of_eq (a := b) rfl (wpAny_pure h))

theorem len_ba {a : Addr} {l : List UInt8} {Q : Value → Shared → Prop} (ho : s.heap.get? a = some (baObj l)) (hz : l.length ≤ 100000) (h : ∀ t k, Q (.int l.length t) { s with toks := k }) : wpAny (model prog w) A (call (.builtin "len") [.ref a]) Q E s := by
  have hT : s.TypeIs (.ref a) "bytearray" := ⟨_, ho, rfl⟩
  refine Calls.call_function_entry kind_len plain_len entry_len (args_len1 _) ?_
  unfold Builtin.«len»
  refine wpAny_bind (m := oneArg "len" _) (wpAny_pure ?_)
  refine wpAny_bind (m := callSpecial? (.ref a) (Str.ofString "__len__")) (wpAny_callSpecial?_slot (name := Str.ofString "__len__") hT Ft.slot_ba_len
    (wpAny_call_entry Ft.slot_ba_len hT Ft.entry_ba_len ?_ (Ft.args_ba_len _)))
  unfold Builtin.«bytearray.__len__»
  refine wpAny_bind (wpAny_of_eq (a := (Value.ref a, [])) rfl ?_)
  refine wpAny_bind (wa_payload ho ?_)
  refine wpAny_bind (wpAny_mkInt (wpAny_pure ⟨_, rfl, ?_⟩))
  refine wpAny_bind (wpAny_holding (wpAny_pure ?_))
  refine wpAny_bind (wpAny_letGo ?_)
  show wpAny _ _ (if ((l.toArray.size : Nat) : Int) < 0 then _ else _) _ _ _
  rw [if_neg (by omega)]
  show wpAny _ _ (if ((l.toArray.size : Nat) : Int) ≥ 2 ^ 63 then _ else _) _ _ _
  rw [if_neg (by rw [List.size_toArray]; omega)]
  refine wpAny_bind (wpAny_mkInt (wpAny_pure ⟨_, rfl, ?_⟩))
  rw [List.size_toArray]
  exact h _ _

/-! slices -/
theorem sub_none (i : Addr) {o : Obj} {Q : Option Int → Shared → Prop} (ho : s.heap.get? i = some o) (hc : o.cls = .type "slice") (h : Q none s) : wpAny M A (Builtin.Bytes.subscript? (.ref i)) Q E s := by
  unfold Builtin.Bytes.subscript?
  exact wpAny_bind (wpAny_specialOf ⟨o, ho, hc⟩ Ft.slice_index (wpAny_pure h))
theorem parts_of {i : Addr} {l u : Value} {lo hi : Option Int} {Q : Value × Value × Value → Shared → Prop} (hs : s.heap.IsSliceOf i l u .none) (hl : IsPart l lo) (hu : IsPart u hi) (h : Q (rawPart lo, rawPart hi, rawPart none) s) :
    wpAny (model prog w) A (Builtin.Bytes.sliceParts (.ref i)) Q E s := by
  obtain ⟨o, ho, hc, hd⟩ := hs
  unfold Builtin.Bytes.sliceParts
  refine wpAny_bind (wpAny_field (x := .none) ho hd rfl ?_)
  kby_none
  refine wpAny_ite (KBy.ite_no (show ¬ ((Value.none == rawInt 0) = true) from Bool.false_ne_true) ?_)
  refine wpAny_bind (wpAny_field (x := l) ho hd rfl ?_)
  cases hl <;> cases hu <;> (first
    | (kby_none; (refine wpAny_bind (wpAny_field (x := .none) ho hd rfl ?_)); kby_none)
    | (kby_none; (refine wpAny_bind (wpAny_field (x := .int _ _) ho hd rfl ?_)); kby_int)
    | (kby_int; (refine wpAny_bind (wpAny_field (x := .none) ho hd rfl ?_)); kby_none)
    | (kby_int; (refine wpAny_bind (wpAny_field (x := .int _ _) ho hd rfl ?_)); kby_int)) <;> exact wpAny_pure h
theorem get_ba {a i : Addr} {b : Array UInt8} {l u : Value} {lo hi : Option Int} {Q : Value → Shared → Prop} (ho : s.heap.get? a = some { cls := .type "bytearray", data := .bytearray b }) (hs : s.heap.IsSliceOf i l u .none) (hl : IsPart l lo) (hu : IsPart u hi)
    (hz : b.size ≤ 100000) (h : Q (.ref s.heap.objs.size) { s with heap := s.heap.push { cls := .type "bytearray", data := .bytearray (KBy.picked b lo hi) } }) : wpAny (model prog w) A (getItem (.ref a) (.ref i)) Q E s := by
  have hT : s.TypeIs (.ref a) "bytearray" := ⟨_, ho, rfl⟩
  obtain ⟨o, hio, hc, hd⟩ := id hs
  refine wpAny_getItem_slot hT (by decide +kernel) Ft.slot_ba_get (wpAny_call_entry Ft.slot_ba_get hT Ft.entry_ba_get ?_ (Ft.args_ba_get _ _))
  unfold Builtin.«bytearray.__getitem__»
  refine wpAny_bind (wpAny_of_eq (a := (Value.ref a, [Value.ref i])) rfl ?_)
  refine wpAny_bind (sub_none i hio hc ?_)
  refine wpAny_bind (wpAny_typeOf ⟨o, hio, hc⟩ ?_)
  refine bm_if_false (by decide +kernel) ?_
  refine wpAny_bind (parts_of hs hl hu ?_)
  refine wpAny_bind (wa_payload ho ?_)
  refine wpAny_bind (wpAny_of_eq (sliceIndices_raw lo hi none b.size (fun e => nomatch e)) ?_)
  refine wpAny_bind ?_
  unfold Builtin.Bytes.newBytearray
  refine wpAny_newObj_type (wpAny_pure ⟨_, rfl, h⟩) ?_
  show (KBy.picked b lo hi).size ≤ sizeLine
  have := KBc.size_picked_le b lo hi
  rw [sizeLine_eq]; omega
end
end Fb

/-! B3 -/
namespace Fb
namespace Ft
theorem initCall_bb (a v : Value) : argsOk "bytearray.__init__" ⟨[a, v], []⟩ := by unfold argsOk; kernel_rfl
theorem by_index : typeLookup (.type "bytes") "__index__" = pure none := by rw [typeLookup_type, builtinLookup_eq_fast]; kernel_rfl
theorem by_int : typeLookup (.type "bytes") "__int__" = pure none := by rw [typeLookup_type, builtinLookup_eq_fast]; kernel_rfl
theorem by_float : typeLookup (.type "bytes") "__float__" = pure none := by rw [typeLookup_type, builtinLookup_eq_fast]; kernel_rfl
theorem sub_by_complex : isSubtype (.type "bytes") (.type "complex") = pure false := by rw [isSubtype_type]; kernel_rfl
end Ft
section
variable {prog : Program} {w : World} {A : Around} {E : Value → Shared → Prop} {s : Shared} {M : Model}
/-- bytearray(bytes) -/
theorem ba_init_bytes {a : Addr} {b : Array UInt8} {t : Tok} {Q : Value → Shared → Prop} (ho : s.heap.get? a = some (baObj [])) (hz : b.size ≤ 100000)
    (h : ∀ h', Heap.SameBut a s.heap h' → h'.get? a = some { cls := .type "bytearray", data := .bytearray b } → Q .none { s with heap := h' }) :
    wpP (model prog w) A (call (.builtin "bytearray.__init__") [.ref a, .bytes b t]) Q s := by
  have hT : s.TypeIs (.ref a) "bytearray" := ⟨_, ho, rfl⟩
  refine wpP_call (codeP_call_builtin Ft.plain_ba_init (calm_id (by decide +kernel)) Ft.entry_ba_init (Ft.slot_ba_init.check _ _ _ _ _ _ _ _ hT (Ft.initCall_bb _ _) ?_))
  unfold Builtin.«bytearray.__init__»
  refine wpP_bind (wpP_own ho rfl ?_)
  refine wpP_if_false rfl ?_
  refine wpP_bind (wpP_eq (Ft.ba_bind _) ?_)
  refine wpP_bind (wpP_eq (a := ()) rfl ?_)
  refine wpP_bind (wpP_eq (a := ()) rfl ?_)
  refine wpP_bind (wpP_bind ?_)
  unfold Builtin.Bytes.exported
  refine wpP_stackAny (fun c p hc => not_exported hc) ?_
  show wpP _ _ (Builtin.Bytes.exportsOf (Value.ref a) >>= _) _ _
  unfold Builtin.Bytes.exportsOf
  refine wpP_bind (wpP_bind (wpP_load ho (wpP_pure ?_)))
  refine wpP_pure ?_
  refine wpP_if_false rfl ?_
  refine wpP_bind (wpP_write ho (by simp) fun h₁ hs₁ ho₁ => ?_)
  refine wpP_bind (wpP_eq (a := none) rfl ?_)
  refine wpP_if_false rfl ?_
  refine wpP_bind (wpP_eq (a := ()) rfl ?_)
  refine wpP_bind (wpP_of_any (wpAny_specialOf (PySem.W.typeIs_bytes _ _ _) Ft.by_index ?_))
  refine wpP_if_false rfl ?_
  refine wpP_bind (wpP_of_any (wa_buffer_bytes ?_))
  refine wpP_bind (wpP_rule (wpP_bind (wpP_write ho₁ hz fun h₂ hs₂ ho₂ => ?_)))
  exact wpP_pure (h h₂ (hs₁.trans hs₂) ho₂)
theorem new_ba_bytes {b : Array UInt8} {t : Tok} {Q : Value → Shared → Prop} (hz : b.size ≤ 100000)
    (h : ∀ h', Heap.SameBut s.heap.objs.size (s.heap.push (baObj [])) h' → h'.get? s.heap.objs.size = some { cls := .type "bytearray", data := .bytearray b } → Q (.ref s.heap.objs.size) { s with heap := h' }) :
    wpP (model prog w) A (call (.type "bytearray") [.bytes b t]) Q s := by
  refine wpP_callType (Q₁ := fun obj s₁ => obj = .ref s.heap.objs.size ∧ s₁ = { s with heap := s.heap.push (baObj []) }) Ft.called_ba (Ft.typeCall_ba _) (code_ba_new _ ⟨rfl, rfl⟩) fun obj s₁ h₁ => ?_
  obtain ⟨rfl, rfl⟩ := h₁
  have ho : (s.heap.push (baObj [])).get? s.heap.objs.size = some (baObj []) := Heap.get?_push_size _ rfl
  exact ⟨⟨_, ho, rfl⟩, ba_init_bytes (s := { s with heap := s.heap.push (baObj []) }) ho hz fun h' hs' ho' => ⟨rfl, h h' hs' ho'⟩⟩
theorem new_ba_int {n : Int} {t : Tok} {Q : Value → Shared → Prop} (h0 : 0 ≤ n) (h1 : n ≤ 100000)
    (h : ∀ h', Heap.SameBut s.heap.objs.size (s.heap.push (baObj [])) h' → h'.get? s.heap.objs.size = some (baObj (List.replicate n.toNat 0)) → Q (.ref s.heap.objs.size) { s with heap := h' }) :
    wpP (model prog w) A (call (.type "bytearray") [.int n t]) Q s := by
  refine wpP_callType (Q₁ := fun obj s₁ => obj = .ref s.heap.objs.size ∧ s₁ = { s with heap := s.heap.push (baObj []) }) Ft.called_ba (Ft.typeCall_ba _) (code_ba_new _ ⟨rfl, rfl⟩) fun obj s₁ h₁ => ?_
  obtain ⟨rfl, rfl⟩ := h₁
  have ho : (s.heap.push (baObj [])).get? s.heap.objs.size = some (baObj []) := Heap.get?_push_size _ rfl
  exact ⟨⟨_, ho, rfl⟩, ba_init (s := { s with heap := s.heap.push (baObj []) }) ho h0 h1 fun h' hs' ho' => ⟨rfl, h h' hs' ho'⟩⟩

theorem wpP_or {m k : Sem Bool} {Q : Bool → Shared → Prop} (h : wpP M A m (fun b s' => b = false ∧ wpP M A k Q s') s) : wpP M A (m <||> k) Q s := by
  refine wpP_bind (wpP_mono h fun b s' h' => ?_)
  obtain ⟨rfl, h'⟩ := h'
  exact h'
theorem wpP_setItem {o i v : Value} {T id : String} {Q : Unit → Shared → Prop} (hT : s.TypeIs o T) (hn : seqItemTypes.contains T = false) (slot : Slot T "__setitem__" id)
    (hc : wpP M A (call (.builtin id) [o, i, v]) (fun _ s' => Q () s') s) : wpP M A (setItem o i v) Q s := by
  unfold setItem
  refine wpP_holding ?_
  refine wpP_bind (wpP_of_any (wpAny_sequenceKey hT hn ?_))
  exact wpP_bind (wpP_callSpecial?_slot hT slot (wpP_mono hc fun v s' h' => wpP_pure h'))
/-- b[lo:hi] = bytes, of the same length -/
theorem set_ba_bytes {a i : Addr} {b c : Array UInt8} {l u : Value} {lo hi : Option Int} {t : Tok} {Q : Unit → Shared → Prop} (ho : s.heap.get? a = some { cls := .type "bytearray", data := .bytearray b }) (hs : s.heap.IsSliceOf i l u .none) (hl : IsPart l lo) (hu : IsPart u hi)
    (hz : b.size ≤ 50000) (hcz : c.size ≤ 50000) {x y : Nat} (hb : sliceBounds lo hi none b.size = ((x : Int), (y : Int), 1)) (hxy : x + c.size = y)
    (h : ∀ h', (∀ k o, k ≠ a → s.heap.get? k = some o → h'.get? k = some o) → h'.get? a = some { cls := .type "bytearray", data := .bytearray (b.extract 0 x ++ c ++ b.extract y b.size) } → Q () { s with heap := h' }) :
    wpP (model prog w) A (setItem (.ref a) (.ref i) (.bytes c t)) Q s := by
  have hT : s.TypeIs (.ref a) "bytearray" := ⟨_, ho, rfl⟩
  obtain ⟨o, hio, hc, hd⟩ := id hs
  refine wpP_setItem hT (by decide +kernel) Ft.slot_ba_set ?_
  refine wpP_call (codeP_call_builtin Ft.slot_ba_set.plain (calm_id (by decide +kernel)) Ft.entry_ba_set (Ft.slot_ba_set.check _ _ _ _ _ _ _ _ hT (Ft.args_ba_set _ _ _) ?_))
  unfold Builtin.«bytearray.__setitem__»
  refine wpP_if_false rfl ?_
  refine wpP_bind (wpP_of_any (sub_none i hio hc ?_))
  refine wpP_bind (wpP_of_any (wpAny_typeOf ⟨o, hio, hc⟩ ?_))
  refine wpP_if_false (by decide +kernel) ?_
  refine wpP_bind (wpP_of_any (parts_of hs hl hu ?_))
  refine wpP_if_false rfl (wpP_bind (wpP_of_any (wpAny_isInstance (PySem.W.typeIs_bytes _ _ _) Ft.sub_by_ba ?_)))
  refine wpP_if_true rfl ?_
  refine wpP_bind (wpP_or (wpP_bind (wpP_of_any (wpAny_specialOf (PySem.W.typeIs_bytes _ _ _) Ft.by_index (wpP_pure ⟨rfl, ?_⟩)))))
  refine wpP_or (wpP_bind (wpP_of_any (wpAny_specialOf (PySem.W.typeIs_bytes _ _ _) Ft.by_int (wpP_pure ⟨rfl, ?_⟩))))
  refine wpP_or (wpP_bind (wpP_of_any (wpAny_specialOf (PySem.W.typeIs_bytes _ _ _) Ft.by_float (wpP_pure ⟨rfl, ?_⟩))))
  refine wpP_of_any (wpAny_isInstance (PySem.W.typeIs_bytes _ _ _) Ft.sub_by_complex ?_)
  refine wpP_bind (wpP_eq (a := none) rfl ?_)
  refine wpP_if_false rfl ?_
  refine wpP_bind (wpP_rule (wpP_bind (new_ba_bytes (by omega) fun h₁ hs₁ ho₁ => ?_)))
  have keep : ∀ k o, s.heap.get? k = some o → h₁.get? k = some o := fun k o e => hs₁.extBut k o (Nat.ne_of_lt (Heap.lt_size e)) (Heap.get?_push_of_some _ e)
  have hs' : h₁.IsSliceOf i l u .none := ⟨o, keep _ _ hio, hc, hd⟩
  refine wpP_bind (wpP_holding (wpP_of_any (parts_of hs' hl hu ?_)))
  refine wpP_bind (wpP_of_any (wa_payload ho₁ ?_))
  refine wpP_bind (wpP_of_any (wa_payload (keep _ _ ho) ?_))
  refine wpP_bind (wpP_eq (sliceIndices_raw lo hi none b.size (fun e => nomatch e)) ?_)
  rw [hb]
  refine wpP_if_true rfl ?_
  refine wpP_bind (wpP_rule ?_)
  refine wpP_if_false (by simp; omega) ?_
  have e1 : (max (x : Int) (y : Int)).toNat = y := by omega
  have e2 : ((x : Int)).toNat = x := by omega
  dsimp only
  rw [e1, e2]
  refine wpP_bind (wpP_write (keep _ _ ho) (by simp; omega) fun h₂ hs₂ ho₂ => ?_)
  exact wpP_pure (h h₂ (fun k o hk e => hs₂.extBut k o hk (keep k o e)) ho₂)
/-- b[lo:hi] = another bytearray, of the same length -/
theorem set_ba_ba {a a2 i : Addr} {b c : Array UInt8} {l u : Value} {lo hi : Option Int} {Q : Unit → Shared → Prop} (ho : s.heap.get? a = some { cls := .type "bytearray", data := .bytearray b }) (ho2 : s.heap.get? a2 = some { cls := .type "bytearray", data := .bytearray c }) (hne : a ≠ a2)
    (hs : s.heap.IsSliceOf i l u .none) (hl : IsPart l lo) (hu : IsPart u hi)
    (hz : b.size ≤ 50000) (hcz : c.size ≤ 50000) {x y : Nat} (hb : sliceBounds lo hi none b.size = ((x : Int), (y : Int), 1)) (hxy : x + c.size = y)
    (h : ∀ h', Heap.SameBut a s.heap h' → h'.get? a = some { cls := .type "bytearray", data := .bytearray (b.extract 0 x ++ c ++ b.extract y b.size) } → Q () { s with heap := h' }) :
    wpP (model prog w) A (setItem (.ref a) (.ref i) (.ref a2)) Q s := by
  have hT : s.TypeIs (.ref a) "bytearray" := ⟨_, ho, rfl⟩
  have hT2 : s.TypeIs (.ref a2) "bytearray" := ⟨_, ho2, rfl⟩
  obtain ⟨o, hio, hc, hd⟩ := id hs
  refine wpP_setItem hT (by decide +kernel) Ft.slot_ba_set ?_
  refine wpP_call (codeP_call_builtin Ft.slot_ba_set.plain (calm_id (by decide +kernel)) Ft.entry_ba_set (Ft.slot_ba_set.check _ _ _ _ _ _ _ _ hT (Ft.args_ba_set _ _ _) ?_))
  unfold Builtin.«bytearray.__setitem__»
  refine wpP_if_false rfl ?_
  refine wpP_bind (wpP_of_any (sub_none i hio hc ?_))
  refine wpP_bind (wpP_of_any (wpAny_typeOf ⟨o, hio, hc⟩ ?_))
  refine wpP_if_false (by decide +kernel) ?_
  refine wpP_bind (wpP_of_any (parts_of hs hl hu ?_))
  refine wpP_if_false (by show (a == a2) = false; simpa using hne) (wpP_bind (wpP_of_any (wpAny_isInstance hT2 Ft.sub_ba_self ?_)))
  refine wpP_if_false rfl ?_
  refine wpP_bind (wpP_of_any (wa_payload ho2 ?_))
  refine wpP_bind (wpP_of_any (wa_payload ho ?_))
  refine wpP_bind (wpP_eq (sliceIndices_raw lo hi none b.size (fun e => nomatch e)) ?_)
  rw [hb]
  refine wpP_if_true rfl ?_
  refine wpP_bind (wpP_rule ?_)
  refine wpP_if_false (by simp; omega) ?_
  have e1 : (max (x : Int) (y : Int)).toNat = y := by omega
  have e2 : ((x : Int)).toNat = x := by omega
  dsimp only
  rw [e1, e2]
  refine wpP_bind (wpP_write ho (by simp; omega) fun h₂ hs₂ ho₂ => ?_)
  exact wpP_pure (h h₂ hs₂ ho₂)
end
end Fb

/-! B4 -/
namespace Fb
theorem order_eq : ∀ a b : List UInt8, (Builtin.Bytes.order a b == Ordering.eq) = decide (a = b)
  | [], [] => by simp [Builtin.Bytes.order]
  | [], _ :: _ => by simp [Builtin.Bytes.order]
  | _ :: _, [] => by simp [Builtin.Bytes.order]
  | x :: xs, y :: ys => by
    unfold Builtin.Bytes.order
    by_cases h1 : x < y
    · have hne : x ≠ y := fun e => by rw [e] at h1; exact absurd h1 (by simp)
      simp [h1, hne]
    · by_cases h2 : x > y
      · have hne : x ≠ y := fun e => by rw [e] at h2; exact absurd h2 (by simp)
        simp [h1, h2, hne]
      · have he : x = y := UInt8.toNat_inj.mp (by simp only [GT.gt, UInt8.lt_iff_toNat_lt] at h1 h2; omega)
        rw [if_neg h1, if_neg h2, order_eq xs ys]
        simp [he]
namespace Ft
theorem ba_bytes : typeLookup (.type "bytearray") "__bytes__" = pure none := by rw [typeLookup_type, builtinLookup_eq_fast]; kernel_rfl
theorem ba_index : typeLookup (.type "bytearray") "__index__" = pure none := by rw [typeLookup_type, builtinLookup_eq_fast]; kernel_rfl
theorem slot_pack : Slot "_struct.Struct" "pack_into" "_struct.Struct.pack_into" :=
  .of (owner := "_struct.Struct") (n := "pack_into") (by rw [typeLookup_type, builtinLookup_eq_fast]; kernel_rfl) (by decide +kernel) (by decide +kernel) (by decide +kernel) (by first | exact .inr (by decide +kernel) | exact .inl (by decide +kernel)) (by rw [isSubtype_type]; kernel_rfl)
theorem slot_unpack : Slot "_struct.Struct" "unpack_from" "_struct.Struct.unpack_from" :=
  .of (owner := "_struct.Struct") (n := "unpack_from") (by rw [typeLookup_type, builtinLookup_eq_fast]; kernel_rfl) (by decide +kernel) (by decide +kernel) (by decide +kernel) (by first | exact .inr (by decide +kernel) | exact .inl (by decide +kernel)) (by rw [isSubtype_type]; kernel_rfl)
theorem entry_pack : entryFor table "_struct.Struct.pack_into" = some Builtin.«_struct.Struct.pack_into» := entryFor_of_tree (by kernel_rfl)
theorem entry_unpack : entryFor table "_struct.Struct.unpack_from" = some Builtin.«_struct.Struct.unpack_from» := entryFor_of_tree (by kernel_rfl)
theorem entry_held : entryFor table "_struct.pack_into.held" = some Builtin.«_struct.pack_into.held» := entryFor_of_tree (by kernel_rfl)
theorem quiet_held (args : Args) : (Code.builtin "_struct.pack_into.held" args).quiet = true := Code.quiet_builtin _ (by decide +kernel)
theorem plain_S : PlainAttrs "_struct.Struct" := ⟨⟨"_struct.Struct.__getattribute__", by rw [typeLookup_type, builtinLookup_eq_fast]; kernel_rfl, by decide +kernel⟩, by rw [typeLookup_type, builtinLookup_eq_fast]; kernel_rfl⟩
theorem type_pack : typeOf (.builtin "_struct.Struct.pack_into") = pure (.type "method_descriptor") := by show builtinType _ = _; rw [builtinType_eq_fast]; kernel_rfl
theorem type_unpack : typeOf (.builtin "_struct.Struct.unpack_from") = pure (.type "method_descriptor") := by show builtinType _ = _; rw [builtinType_eq_fast]; kernel_rfl
theorem args_pack (a b c d : Value) : argsOk "_struct.Struct.pack_into" ⟨[a, b, c, d], []⟩ := by unfold argsOk; kernel_rfl
theorem args_unpack (a b c : Value) : argsOk "_struct.Struct.unpack_from" ⟨[a, b, c], []⟩ := by unfold argsOk; kernel_rfl
theorem bind_unpack (a b : Value) : Builtin.Bytes.bindOptional "_struct.Struct.unpack_from" "unpack_from" ["buffer", "offset"] [a, b] [] = pure [some a, some b] := by kernel_rfl
end Ft
section
variable {prog : Program} {w : World} {A : Around} {E : Value → Shared → Prop} {s : Shared} {M : Model}
theorem eq_ba {a b : Addr} {x y : List UInt8} {Q : Value → Shared → Prop} (ha : s.heap.get? a = some (baObj x)) (hb : s.heap.get? b = some (baObj y)) (hu : A.units < cLine) (h : Q (.bool (decide (x = y))) s) : wpAny (model prog w) A (compareOp .Eq (.ref a) (.ref b)) Q E s := by
  have hT : s.TypeIs (.ref a) "bytearray" := ⟨_, ha, rfl⟩
  have hT2 : s.TypeIs (.ref b) "bytearray" := ⟨_, hb, rfl⟩
  show wpAny _ _ (richCompare .Eq (.ref a) (.ref b)) _ _ _
  refine wpAny_richCompare_same_room hT hT2 Ft.slot_ba_eq (wpAny_call_entry Ft.slot_ba_eq hT Ft.entry_ba_eq ?_ (Ft.args_ba_eq _ _)) hu
  show wpAny _ _ (do
    let some a ← Builtin.Bytes.buffer? "bytearray.__eq__" (.ref a) | unsupported "internal:bytearray.compare"
    let some b ← Builtin.Bytes.bufferQuiet? "bytearray.__eq__" (.ref b) | rule "bytearray.__eq__.declined"; ret .notImplemented
    ret (.bool (Builtin.Bytes.holds "__eq__" (Builtin.Bytes.order a.toList b.toList)))) _ _ _
  refine wpAny_bind (wa_buffer ha ?_)
  unfold Builtin.Bytes.bufferQuiet?
  refine wpAny_bind (wpAny_bind (wpAny_attempt (wa_buffer hb ?_)))
  refine wpAny_pure (wpAny_pure ⟨_, rfl, ?_⟩)
  refine ⟨(fun e => nomatch e), ?_⟩
  have e : Builtin.Bytes.holds "__eq__" (Builtin.Bytes.order x.toArray.toList y.toArray.toList) = decide (x = y) := order_eq x y
  rw [e]; exact h
theorem eq_ba_bytes {a : Addr} {x : List UInt8} {y : Array UInt8} {t : Tok} {Q : Value → Shared → Prop} (ha : s.heap.get? a = some (baObj x)) (hu : A.units < cLine) (h : Q (.bool (decide (x = y.toList))) s) : wpAny (model prog w) A (compareOp .Eq (.ref a) (.bytes y t)) Q E s := by
  have hT : s.TypeIs (.ref a) "bytearray" := ⟨_, ha, rfl⟩
  have hT2 : s.TypeIs (.bytes y t) "bytes" := PySem.W.typeIs_bytes _ _ _
  show wpAny _ _ (richCompare .Eq (.ref a) (.bytes y t)) _ _ _
  simp only [richCompare, cmpInfo, hT.oneThing_none]
  refine wpAny_holding ?_
  refine wpAny_bind (wpAny_cRoomFor_or (.inr hu) ?_)
  refine wpAny_bind (wpAny_typeOf hT (wpAny_bind (wpAny_typeOf hT2 ?_)))
  refine bm_if_true (by decide +kernel) ?_
  refine wpAny_bind (wpAny_of_eq Ft.sub_by_ba ?_)
  refine bm_if_false rfl ?_
  refine wpAny_bind (wpAny_tryCompare_slot hT Ft.slot_ba_eq (wpAny_call_entry Ft.slot_ba_eq hT Ft.entry_ba_eq ?_ (Ft.args_ba_eq _ _)))
  show wpAny _ _ (do
    let some a ← Builtin.Bytes.buffer? "bytearray.__eq__" (.ref a) | unsupported "internal:bytearray.compare"
    let some b ← Builtin.Bytes.bufferQuiet? "bytearray.__eq__" (.bytes y t) | rule "bytearray.__eq__.declined"; ret .notImplemented
    ret (.bool (Builtin.Bytes.holds "__eq__" (Builtin.Bytes.order a.toList b.toList)))) _ _ _
  refine wpAny_bind (wa_buffer ha ?_)
  unfold Builtin.Bytes.bufferQuiet?
  refine wpAny_bind (wpAny_bind (wpAny_attempt (wa_buffer_bytes ?_)))
  refine wpAny_pure (wpAny_pure ⟨_, rfl, ?_⟩)
  refine ⟨(fun e => nomatch e), ?_⟩
  have e : Builtin.Bytes.holds "__eq__" (Builtin.Bytes.order x.toArray.toList y.toList) = decide (x = y.toList) := order_eq x y.toList
  rw [e]; exact wpAny_pure h
/-- bytes(bytearray) -/
theorem bytes_ba {a : Addr} {b : Array UInt8} {Q : Value → Shared → Prop} (ho : s.heap.get? a = some { cls := .type "bytearray", data := .bytearray b }) (hz : b.size ≤ 100000) (h : ∀ t k, Q (.bytes b t) { s with toks := k }) :
    wpAny (model prog w) A (call (.type "bytes") [.ref a]) Q E s := by
  have hT : s.TypeIs (.ref a) "bytearray" := ⟨_, ho, rfl⟩
  have new : codeAny (model prog w) A.in1 (.call (.builtin "bytes.__new__") ⟨[.type "bytes", .ref a], []⟩) (wants (fun obj s₁ => s₁.TypeIs obj "bytes" ∧ Q obj s₁) E) s := by
    refine codeAny_of_tree ?_
    show wpAny _ A.in1.in1 (do checkBuiltinCall "bytes.__new__" ⟨[.type "bytes", .ref a], []⟩; again (.builtin "bytes.__new__" ⟨[.type "bytes", .ref a], []⟩)) _ _ s
    refine wpAny_bind (wpAny_of_eq (F.bm_newCall _) (wpAny_pure ⟨plainId_quiet F.bm_plain _, codeAny_builtin F.bm_entry ?_⟩))
    rw [Around.under_plainId F.bm_plain _]
    unfold Builtin.«bytes.__new__»
    refine wpAny_bind (wpAny_of_eq (a := true) rfl ?_)
    refine bm_if_false rfl ?_
    refine wpAny_bind (wpAny_of_eq F.bm_sub ?_)
    refine bm_if_false rfl ?_
    refine wpAny_bind (wpAny_of_eq (F.bm_bind _) ?_)
    refine wpAny_bind (wpAny_of_eq (a := ()) rfl ?_)
    refine wpAny_bind (wpAny_of_eq (a := ()) rfl ?_)
    refine bm_if_false rfl ?_
    refine wpAny_bind (wpAny_specialOf hT Ft.ba_bytes ?_)
    refine wpAny_bind (wpAny_bind ?_)
    show wpAny _ _ (load a >>= _) _ _ _
    refine wpAny_bind (wpAny_load ho ?_)
    refine wpAny_pure (wpAny_pure ?_)
    refine bm_if_false rfl ?_
    refine wpAny_bind (wpAny_specialOf hT Ft.ba_index ?_)
    refine bm_if_true rfl ?_
    first
      | show wpAny _ _ (Builtin.Bytes.buffer? "bytes.__new__" (.ref a) true >>= _) _ _ _
      | (refine wpAny_bind ?_; show wpAny _ _ (Builtin.Bytes.buffer? "bytes.__new__" (.ref a) true >>= _) _ _ _)
    refine wpAny_bind (wa_buffer ho ?_)
    refine wpAny_bind (wpAny_rule (wpAny_bind (wpAny_mkBytes ?_ (by rw [sizeLine_eq]; omega))))
    show wpAny _ _ (if (Value.type "bytes" == Value.type "bytes") = true then _ else _) _ _ _
    refine bm_if_true (by decide) ?_
    first
      | exact wpAny_pure ⟨PySem.W.typeIs_bytes _ _ _, h _ _⟩
      | exact wpAny_bind (wpAny_pure (wpAny_pure ⟨PySem.W.typeIs_bytes _ _ _, h _ _⟩))
  refine callType_codes (Q₁ := fun obj s₁ => s₁.TypeIs obj "bytes" ∧ Q obj s₁) F.bm_called (F.bm_typeCall _) F.entry_object_init new fun obj s₁ h₁ => ?_
  exact ⟨h₁.1, F.args_object_init_2 obj _, object_init_meets F.bm_called.init.lookup F.bm_called.made (by decide) prog w A.in1 _ s₁ ⟨h₁.1, rfl, h₁.2⟩⟩

/-! ## Struct -/
abbrev stObj (f : Array UInt8) (t : Tok) : Obj := { cls := .type "_struct.Struct", data := .fields #[.bytes f t] }
theorem wa_fmt {a : Addr} {f : Array UInt8} {t : Tok} {F : Builtin.Struct.Format} {Q : Array UInt8 × Builtin.Struct.Format → Shared → Prop} (ho : s.heap.get? a = some (stObj f t)) (hp : Builtin.Struct.parse f = pure F) (h : Q (f, F) s) :
    wpAny M A (Builtin.Struct.structFormat (.ref a)) Q E s := by
  unfold Builtin.Struct.structFormat
  refine wpAny_bind (wpAny_field ho rfl rfl ?_)
  refine bm_if_false (by rfl) ?_
  refine wpAny_bind (wpAny_of_eq (a := f) rfl ?_)
  rw [hp]
  exact wpAny_bind (wpAny_pure (wpAny_pure h))
theorem wa_indexHeld {a : Addr} {n : Int} {t : Tok} {Q : Int → Shared → Prop} (h : Q n s) : wpAny M A (Builtin.Bytes.indexHeld [.ref a] (.int n t)) Q E s := wpAny_of_eq (a := n) rfl h
theorem wa_placeIn {name verb noRoom : String} {f : Builtin.Struct.Format} {len : Nat} {off : Int} {Q : Nat → Shared → Prop} (h0 : 0 ≤ off) (h1 : off + f.size ≤ len) (h : Q off.toNat s) : wpAny M A (Builtin.Struct.placeIn name verb noRoom f len off) Q E s := by
  unfold Builtin.Struct.placeIn
  rw [if_neg (by omega), if_neg (by omega)]
  show wpAny _ _ (pure (if off < 0 then off + len else off).toNat) _ _ _
  rw [if_neg (by omega)]
  exact wpAny_pure h
/-- S.unpack_from(buf, off) -/
theorem unpack_K {a b : Addr} {f : Array UInt8} {t u : Tok} {F : Builtin.Struct.Format} {x : Array UInt8} {off : Int} {Q : Value → Shared → Prop} (ho : s.heap.get? a = some (stObj f t)) (hp : Builtin.Struct.parse f = pure F)
    (hb : s.heap.get? b = some { cls := .type "bytearray", data := .bytearray x }) (h0 : 0 ≤ off) (h1 : off + F.size ≤ x.size) (hz : off < 2 ^ 62)
    (h : wpAny (model prog w) A.in1 (Builtin.Struct.unpacked "_struct.Struct.unpack_from" F x off.toNat) Q E s) : wpAny (model prog w) A (call (.builtin "_struct.Struct.unpack_from") [.ref a, .ref b, .int off u]) Q E s := by
  refine wpAny_call_entry Ft.slot_unpack ⟨_, ho, rfl⟩ Ft.entry_unpack ?_ (Ft.args_unpack _ _ _)
  unfold Builtin.«_struct.Struct.unpack_from»
  refine wpAny_bind (wpAny_of_eq (Ft.bind_unpack _ _) ?_)
  unfold Builtin.Struct.unpackFrom
  refine wpAny_bind ?_
  unfold Builtin.Bytes.bytesLike
  refine wpAny_bind (wa_buffer hb (wpAny_pure ?_))
  refine wpAny_bind (wa_indexHeld ?_)
  refine bm_if_false (by simp [Builtin.Bytes.fitsIndex]; omega) ?_
  refine wpAny_bind (wpAny_pure ?_)
  refine wpAny_bind (wpAny_bind (wa_fmt ho hp (wpAny_pure ?_)))
  refine bm_if_true rfl ?_
  refine wpAny_bind (wpAny_bind (wa_buffer hb (wpAny_pure ?_)))
  refine wpAny_bind (wa_placeIn h0 h1 ?_)
  exact wpAny_bind (wpAny_mono h (fun v s' h' => wpAny_pure ⟨_, rfl, h'⟩) fun _ _ e => e)
end
end Fb

/-! B5 -/
namespace Fb
section
variable {prog : Program} {w : World} {A : Around} {E : Value → Shared → Prop} {s : Shared} {M : Model}
open Builtin.Struct
theorem forIn_one {β : Type} (init : β) (f : Nat → β → Sem (ForInStep β)) : forIn [0:1] init f = (f 0 init >>= fun r => match r with | .done b => pure b | .yield b => pure b) := by kernel_rfl
theorem each_B {id : String} {v : Int} {t : Tok} {put : Unit → Nat → Array UInt8 → Sem Unit} {src : Value → Nat → Nat → Sem Unit} {Q : Unit → Shared → Prop} (h0 : 0 ≤ v) (h1 : v < 2 ^ 8)
    (h : wpAny M A (put () 0 (intBytes false 1 v)) Q E s) : wpAny M A (packEach id (fmtOf 'B' 1) [.int v t] () put src) Q E s := by
  unfold packEach fmtOf
  simp only [List.forIn_cons, List.forIn_nil]
  refine wpAny_bind (wpAny_bind (bm_if_false (by decide) (bm_if_false (by decide) (wpAny_bind ?_))))
  rw [forIn_one]
  refine wpAny_bind (wpAny_bind ?_)
  refine wpAny_bind (wpAny_of_eq (a := Except.ok v) rfl ?_)
  refine wpAny_bind (wpAny_pure ?_)
  refine bm_if_false ?_ ?_
  · have e : ('B' : Char).isLower = false := by decide
    simp only [e]
    simp
    omega
  refine wpAny_pure (wpAny_bind ?_)
  have e0 : 0 + 0 * 1 = 0 := by decide
  rw [e0]
  exact wpAny_mono h (fun _ s' h' => wpAny_pure (wpAny_pure (wpAny_pure (wpAny_pure (wpAny_pure h'))))) fun _ _ e => e
theorem each_H {id : String} {v : Int} {t : Tok} {put : Unit → Nat → Array UInt8 → Sem Unit} {src : Value → Nat → Nat → Sem Unit} {Q : Unit → Shared → Prop} (h0 : 0 ≤ v) (h1 : v < 2 ^ 16)
    (h : wpAny M A (put () 0 (intBytes false 2 v)) Q E s) : wpAny M A (packEach id (fmtOf 'H' 2) [.int v t] () put src) Q E s := by
  unfold packEach fmtOf
  simp only [List.forIn_cons, List.forIn_nil]
  refine wpAny_bind (wpAny_bind (bm_if_false (by decide) (bm_if_false (by decide) (wpAny_bind ?_))))
  rw [forIn_one]
  refine wpAny_bind (wpAny_bind ?_)
  refine wpAny_bind (wpAny_of_eq (a := Except.ok v) rfl ?_)
  refine wpAny_bind (wpAny_pure ?_)
  refine bm_if_false ?_ ?_
  · have e : ('H' : Char).isLower = false := by decide
    simp only [e]
    simp
    omega
  refine wpAny_pure (wpAny_bind ?_)
  have e0 : 0 + 0 * 2 = 0 := by decide
  rw [e0]
  exact wpAny_mono h (fun _ s' h' => wpAny_pure (wpAny_pure (wpAny_pure (wpAny_pure (wpAny_pure h'))))) fun _ _ e => e
theorem each_I {id : String} {v : Int} {t : Tok} {put : Unit → Nat → Array UInt8 → Sem Unit} {src : Value → Nat → Nat → Sem Unit} {Q : Unit → Shared → Prop} (h0 : 0 ≤ v) (h1 : v < 2 ^ 32)
    (h : wpAny M A (put () 0 (intBytes false 4 v)) Q E s) : wpAny M A (packEach id (fmtOf 'I' 4) [.int v t] () put src) Q E s := by
  unfold packEach fmtOf
  simp only [List.forIn_cons, List.forIn_nil]
  refine wpAny_bind (wpAny_bind (bm_if_false (by decide) (bm_if_false (by decide) (wpAny_bind ?_))))
  rw [forIn_one]
  refine wpAny_bind (wpAny_bind ?_)
  refine wpAny_bind (wpAny_of_eq (a := Except.ok v) rfl ?_)
  refine wpAny_bind (wpAny_pure ?_)
  refine bm_if_false ?_ ?_
  · have e : ('I' : Char).isLower = false := by decide
    simp only [e]
    simp
    omega
  refine wpAny_pure (wpAny_bind ?_)
  have e0 : 0 + 0 * 4 = 0 := by decide
  rw [e0]
  exact wpAny_mono h (fun _ s' h' => wpAny_pure (wpAny_pure (wpAny_pure (wpAny_pure (wpAny_pure h'))))) fun _ _ e => e
theorem each_i {id : String} {v : Int} {t : Tok} {put : Unit → Nat → Array UInt8 → Sem Unit} {src : Value → Nat → Nat → Sem Unit} {Q : Unit → Shared → Prop} (h0 : -(2 ^ 31) ≤ v) (h1 : v < 2 ^ 31)
    (h : wpAny M A (put () 0 (intBytes false 4 v)) Q E s) : wpAny M A (packEach id (fmtOf 'i' 4) [.int v t] () put src) Q E s := by
  unfold packEach fmtOf
  simp only [List.forIn_cons, List.forIn_nil]
  refine wpAny_bind (wpAny_bind (bm_if_false (by decide) (bm_if_false (by decide) (wpAny_bind ?_))))
  rw [forIn_one]
  refine wpAny_bind (wpAny_bind ?_)
  refine wpAny_bind (wpAny_of_eq (a := Except.ok v) rfl ?_)
  refine wpAny_bind (wpAny_pure ?_)
  refine bm_if_false ?_ ?_
  · have e : ('i' : Char).isLower = true := by decide
    simp only [e]
    simp
    omega
  refine wpAny_pure (wpAny_bind ?_)
  have e0 : 0 + 0 * 4 = 0 := by decide
  rw [e0]
  exact wpAny_mono h (fun _ s' h' => wpAny_pure (wpAny_pure (wpAny_pure (wpAny_pure (wpAny_pure h'))))) fun _ _ e => e
/-- bytes laid over others -/
def patchL (l : List UInt8) (p : Nat) (raw : List UInt8) : List UInt8 := l.take p ++ raw ++ l.drop (p + raw.length)
def leB (size n : Nat) : List UInt8 := (List.range size).map fun k => (n / 256 ^ k % 256).toUInt8
theorem leB_length (size n : Nat) : (leB size n).length = size := by simp [leB]
theorem patch_length {l raw : List UInt8} {p : Nat} (h : p + raw.length ≤ l.length) : (patchL l p raw).length = l.length := by
  unfold patchL; simp; omega
theorem patch_patch {l r1 r2 : List UInt8} {p : Nat} (h : p + r1.length ≤ l.length) (e : r1.length = r2.length) : patchL (patchL l p r1) p r2 = patchL l p r2 := by
  unfold patchL
  have e1 : (l.take p).length = p := by simp; omega
  have a1 : List.take p (l.take p ++ r1 ++ l.drop (p + r1.length)) = l.take p := by rw [List.append_assoc]; exact List.take_left' e1
  have a2 : List.drop (p + r2.length) (l.take p ++ r1 ++ l.drop (p + r1.length)) = l.drop (p + r1.length) := List.drop_left' (by rw [List.length_append, e1, e])
  rw [a1, a2, e]
theorem place_list : ∀ (raw : List UInt8) (p k : Nat) (out : Array UInt8), p + k + raw.length ≤ out.size →
    ((raw.zipIdx k).foldl (fun (out : Array UInt8) (x : UInt8 × Nat) => out.setIfInBounds (p + x.2) x.1) out).toList = patchL out.toList (p + k) raw
  | [], p, k, out, h => by simp [patchL]
  | c :: r, p, k, out, h => by
    rw [List.zipIdx_cons, List.foldl_cons]
    simp only [List.length_cons] at h
    rw [place_list r p (k + 1) _ (by simp; omega)]
    unfold patchL
    rw [Array.toList_setIfInBounds]
    have hl : p + k < out.toList.length := by simp; omega
    rw [show p + (k + 1) = p + k + 1 from rfl, List.take_set, List.drop_set_of_lt (by omega)]
    have e3 : (out.toList.take (p + k + 1)).set (p + k) c = out.toList.take (p + k) ++ [c] := by
      rw [List.take_succ_eq_append_getElem hl, List.set_append_right _ _ (by simp; omega)]
      have : p + k - (out.toList.take (p + k)).length = 0 := by simp; omega
      rw [this]; rfl
    rw [e3]
    simp only [List.length_cons, List.append_assoc, List.cons_append, List.nil_append]
    have e4 : p + k + 1 + r.length = p + k + (r.length + 1) := by omega
    rw [e4]
theorem place_zero (raw : List UInt8) (p : Nat) (out : List UInt8) (h : p + raw.length ≤ out.length) : ((raw.toArray.toList.zipIdx).foldl (fun (o : Array UInt8) (x : UInt8 × Nat) => o.setIfInBounds (p + x.2) x.1) out.toArray) = (patchL out p raw).toArray := by
  apply Array.toList_inj.mp
  have := place_list raw p 0 out.toArray (by simp; omega)
  simpa using this

/-- S.pack_into(buf, off, v) -/
theorem pack_any {c : Char} {n : Nat} {a b : Addr} {f : Array UInt8} {t u t2 : Tok} {x : List UInt8} {off v : Int} {Q : Value → Shared → Prop} (ho : s.heap.get? a = some (stObj f t)) (hp : parse f = pure (fmtOf c n))
    (each : ∀ {id : String} {put : Unit → Nat → Array UInt8 → Sem Unit} {src : Value → Nat → Nat → Sem Unit} {Q : Unit → Shared → Prop} {s : Shared} {A : Around}, wpAny (model prog w) A (put () 0 (intBytes false n v)) Q E s → wpAny (model prog w) A (packEach id (fmtOf c n) [.int v t2] () put src) Q E s)
    (hb : s.heap.get? b = some (baObj x)) (h0 : 0 ≤ off) (h1 : off + n ≤ x.length) (hz : x.length ≤ 100000)
    (h : ∀ h', Heap.SameBut b s.heap h' → h'.get? b = some (baObj (patchL x off.toNat (intBytes false n v).toList)) → Q .none { s with heap := h' }) :
    wpAny (model prog w) A (call (.builtin "_struct.Struct.pack_into") [.ref a, .ref b, .int off u, .int v t2]) Q E s := by
  have hT : s.TypeIs (.ref a) "_struct.Struct" := ⟨_, ho, rfl⟩
  have hTb : s.TypeIs (.ref b) "bytearray" := ⟨_, hb, rfl⟩
  refine wpAny_call (codeAny_call_builtin Ft.slot_pack.plain Ft.entry_pack (Ft.slot_pack.check _ _ _ _ _ _ _ _ hT (Ft.args_pack _ _ _ _) ?_))
  unfold Builtin.«_struct.Struct.pack_into»
  refine wpAny_bind (wpAny_of_eq (a := ()) rfl ?_)
  refine wpAny_bind (wa_fmt ho hp ?_)
  refine wpAny_bind (wpAny_field ho rfl rfl ?_)
  unfold packInto
  refine bm_if_false (by rfl) ?_
  refine wpAny_bind (wpAny_specialOf hTb Ft.ba_buffer ?_)
  refine wpAny_bind (wa_payload hb (wpAny_bind (wpAny_pure ?_)))
  refine wpAny_pure ⟨Ft.quiet_held _, codeAny_builtin Ft.entry_held ?_⟩
  unfold Builtin.«_struct.pack_into.held»
  refine wpAny_bind (wpAny_of_eq (a := f) rfl ?_)
  rw [hp]
  refine wpAny_bind (wpAny_pure ?_)
  unfold packHeld
  refine wpAny_bind (wpAny_of_eq (a := off) rfl ?_)
  refine bm_if_false (by simp [Builtin.Bytes.fitsIndex]; omega) ?_
  refine wpAny_bind (wa_placeIn h0 (by show off + (n : Int) ≤ (x.toArray.size : Nat); rw [List.size_toArray]; omega) ?_)
  have hlen : (intBytes false n v).toList.length = n := by
    unfold intBytes Builtin.Memoryview.toLittleEndian
    simp
  have e0 : (0 : Int).toNat + off.toNat = off.toNat := by simp
  have wr : ∀ (p : Nat) (y : List UInt8) (raw : Array UInt8) (s : Shared) (A : Around) (E : Value → Shared → Prop) (Q : Unit → Shared → Prop), p = off.toNat → s.heap.get? b = some (baObj y) → off.toNat + raw.size ≤ y.length → y.length ≤ 100000 →
      (∀ h', Heap.SameBut b s.heap h' → h'.get? b = some (baObj (patchL y off.toNat raw.toList)) → Q () { s with heap := h' }) →
      wpAny (model prog w) A (Builtin.Bytes.write (.ref b) (fun (o : Array UInt8) => raw.toList.zipIdx.foldl (fun (o : Array UInt8) (x : UInt8 × Nat) => o.setIfInBounds (p + x.2) x.1) o)) Q E s := by
    intro p y raw s A E Q ep hy hr hyz hq
    subst ep
    have hpl := place_zero raw.toList off.toNat y (by simpa using hr)
    show wpAny _ _ (updateBytearray b _) _ _ _
    unfold updateBytearray
    refine wpAny_bind (wpAny_load hy ?_)
    show wpAny _ _ (update b (Obj.mapBytearray _) >>= fun _ => lookBehind b) _ _ _
    refine wpAny_bind (wpAny_update hy ?_)
    have h2 : (s.heap.update b (Obj.mapBytearray (fun (o : Array UInt8) => raw.toList.zipIdx.foldl (fun (o : Array UInt8) (x : UInt8 × Nat) => o.setIfInBounds (off.toNat + x.2) x.1) o))).get? b = some (baObj (patchL y off.toNat raw.toList)) := by
      rw [Heap.get?_update_self _ hy rfl]
      show some _ = some (baObj _)
      unfold baObj
      rw [← hpl]
      rfl
    refine wpAny_lookBehind h2 ?_ (hq _ (Heap.SameBut.update ..) h2)
    show (if (patchL y off.toNat raw.toList).toArray.size > sizeLine then some "bytearray:memory" else none) = none
    rw [if_neg]
    rw [sizeLine_eq, List.size_toArray, patch_length (by simpa using hr)]; omega
  refine wpAny_bind (wr _ x (Array.replicate n 0) s _ _ _ e0 hb (by simp; omega) hz fun h₁ hs₁ ho₁ => ?_)
  have hl1 : (patchL x off.toNat (Array.replicate n (0 : UInt8)).toList).length = x.length := patch_length (by simp; omega)
  refine wpAny_bind (each ?_)
  refine wr _ _ (intBytes false n v) { s with heap := h₁ } _ _ _ e0 ho₁ ?_ ?_ fun h₂ hs₂ ho₂ => ?_
  · rw [hl1, ← Array.length_toList, hlen]; omega
  · rw [hl1]; exact hz
  · rw [patch_patch (by simp; omega) (by rw [hlen]; simp)] at ho₂
    exact wpAny_pure (h h₂ (hs₁.trans hs₂) ho₂)
end
end Fb

/-! F5 -/
namespace Fb
section
variable {α : Type} {C : Cx} {loc : Loc} {led : Led} {prog : Program} {w : World} {K : Frag} {n : Nat} {sc : List (Str × NameKind)}
/-! the state behind a change -/
theorem St.ext {s : Shared} {h' : Heap} {k : Nat} (st : St C loc led s) (hk : ∀ b o, s.heap.get? b = some o → h'.get? b = some o) : St C loc led { s with heap := h', toks := k } := by
  obtain ⟨oL, es, ep, a1, a2⟩ := st.fr.ns
  exact ⟨st.nm, ⟨⟨oL, es, ep, hk _ _ a1, a2⟩, fun b o e => hk _ _ (st.fr.keep b o e), st.fr.above⟩, fun p hp => ⟨hk _ _ (st.nw p hp).1, (st.nw p hp).2⟩, st.nd, st.gens, st.dr, st.os⟩
theorem St.drop1 {s : Shared} {p : Addr × Obj} (st : St C loc (p :: led) s) : St C loc led s := st.sub (fun _ h => .tail _ h) (List.nodup_cons.mp st.nd).2
/-- all but one place is kept, and that place is left out -/
theorem St.but {s : Shared} {h' : Heap} {a : Addr} {o : Obj} {k : Nat} (st : St C loc ((a, o) :: led) s) (hk : ∀ b o, b ≠ a → s.heap.get? b = some o → h'.get? b = some o) : St C loc led { s with heap := h', toks := k } := by
  obtain ⟨oL, es, ep, a1, a2⟩ := st.fr.ns
  have z := st.nw _ (.head _)
  have nd := List.nodup_cons.mp st.nd
  refine ⟨st.nm, ⟨⟨oL, es, ep, hk _ _ (Ne.symm z.2.1) a1, a2⟩, fun b o e => hk _ _ (fun q => ?_) (st.fr.keep b o e), st.fr.above⟩, fun p hp => ⟨hk _ _ (fun q => ?_) (st.nw p (.tail _ hp)).1, (st.nw p (.tail _ hp)).2⟩, nd.2, st.gens, st.dr, st.os⟩
  · have := z.2.2; rw [q] at e; dsimp only at this; rw [e] at this; cases this
  · exact nd.1 (by have := List.mem_map_of_mem (f := (·.1)) hp; rw [q] at this; exact this)
theorem St.set1 {s : Shared} {h' : Heap} {a : Addr} {o o' : Obj} {k : Nat} (st : St C loc ((a, o) :: led) s) (hk : ∀ b o, b ≠ a → s.heap.get? b = some o → h'.get? b = some o) (ho : h'.get? a = some o') : St C loc ((a, o') :: led) { s with heap := h', toks := k } := by
  have b := st.but (k := k) hk
  have z := st.nw _ (.head _)
  refine ⟨b.nm, b.fr, fun p hp => ?_, st.nd, b.gens, b.dr, b.os⟩
  rcases List.mem_cons.mp hp with rfl | hp
  · exact ⟨ho, z.2⟩
  · exact b.nw p hp
theorem Put.pull {a : Addr} {o o' : Obj} {l l' : Led} (h : Put a o o' l l') : ∃ r, l.Perm ((a, o) :: r) ∧ l'.Perm ((a, o') :: r) := by
  induction h with
  | @here l => exact ⟨l, .refl _, .refl _⟩
  | @there p l l' _ ih =>
    obtain ⟨r, h1, h2⟩ := ih
    exact ⟨p :: r, (h1.cons p).trans (.swap ..), (h2.cons p).trans (.swap ..)⟩
theorem St.new {s : Shared} {h' : Heap} {a : Addr} {o : Obj} {k : Nat} (st : St C loc led s) (F : Fr C.g C.env.locals h' (vfun loc)) (N : News C.g C.env.locals h' ((a, o) :: led)) (hf : ∀ p ∈ led, p.1 ≠ a) : St C loc ((a, o) :: led) { s with heap := h', toks := k } :=
  ⟨st.nm, F, N, List.nodup_cons.mpr ⟨fun hm => by obtain ⟨p, hp, e⟩ := List.mem_map.mp hm; exact hf p hp e, st.nd⟩, st.gens, st.dr, st.os⟩
theorem St.perm {s : Shared} {led' : Led} (st : St C loc led s) (hp : led.Perm led') : St C loc led' s := st.sub (fun p hm => hp.mem_iff.mpr hm) ((hp.map (·.1)).nodup_iff.mp st.nd)
theorem St.putAt {s : Shared} {h' : Heap} {a : Addr} {o o' : Obj} {led' : Led} {k : Nat} (st : St C loc led s) (hp : Put a o o' led led') (hk : ∀ b o, b ≠ a → s.heap.get? b = some o → h'.get? b = some o) (ho : h'.get? a = some o') : St C loc led' { s with heap := h', toks := k } := by
  obtain ⟨r, h1, h2⟩ := hp.pull
  exact ((st.perm h1).set1 hk ho).perm h2.symm
theorem St.at_ {s : Shared} {a : Addr} {o : Obj} (st : St C loc led s) (h : (a, o) ∈ led) : s.heap.get? a = some o := (st.nw _ h).1
theorem Cx.Ok.units (ok : C.Ok) : C.A.units < cLine := by have := ok.un; show C.A.units < 9900; omega

/-! ints -/
section
variable {a b : Int} {t u : Tok} {Q : Value → Loc → Led → Prop}
theorem run_add (h : ∀ t, Q (.int (a + b) t) loc led) : Run C (binaryOp .Add (.int a t) (.int b u)) loc led Q := Run.any fun _ s hs => PySem.P.add_int ⟨_, _, hs.toks _, h _⟩
theorem run_iadd (h : ∀ t, Q (.int (a + b) t) loc led) : Run C (inplaceOp .Add (.int a t) (.int b u)) loc led Q := Run.any fun _ s hs => PySem.P.iadd_int ⟨_, _, hs.toks _, h _⟩
theorem run_subi (h : ∀ t, Q (.int (a - b) t) loc led) : Run C (binaryOp .Sub (.int a t) (.int b u)) loc led Q := Run.any fun _ s hs => PySem.P.sub_int ⟨_, _, hs.toks _, h _⟩
theorem run_isubi (h : ∀ t, Q (.int (a - b) t) loc led) : Run C (inplaceOp .Sub (.int a t) (.int b u)) loc led Q := Run.any fun _ s hs => PySem.P.isub_int ⟨_, _, hs.toks _, h _⟩
theorem run_mul (hm : IntMulOk a b) (h : ∀ t, Q (.int (a * b) t) loc led) : Run C (binaryOp .Mult (.int a t) (.int b u)) loc led Q := Run.any fun _ s hs => PySem.P.mul_int ⟨_, _, hs.toks _, h _⟩ hm
theorem run_imul (hm : IntMulOk a b) (h : ∀ t, Q (.int (a * b) t) loc led) : Run C (inplaceOp .Mult (.int a t) (.int b u)) loc led Q := Run.any fun _ s hs => PySem.P.imul_int ⟨_, _, hs.toks _, h _⟩ hm
theorem run_band (h : ∀ t, Q (.int (Builtin.bitAnd a b) t) loc led) : Run C (binaryOp .BitAnd (.int a t) (.int b u)) loc led Q := Run.any fun _ s hs => and_int ⟨_, _, hs.toks _, h _⟩
theorem run_iband (h : ∀ t, Q (.int (Builtin.bitAnd a b) t) loc led) : Run C (inplaceOp .BitAnd (.int a t) (.int b u)) loc led Q := Run.any fun _ s hs => iand_int ⟨_, _, hs.toks _, h _⟩
theorem run_inv (h : ∀ t, Q (.int (Builtin.bitNot a) t) loc led) : Run C (unaryOp .Invert (.int a t)) loc led Q := Run.any fun _ s hs => invert_int ⟨_, _, hs.toks _, h _⟩
theorem run_neg (h : ∀ t, Q (.int (-a) t) loc led) : Run C (unaryOp .USub (.int a t)) loc led Q := Run.any fun _ s hs => PySem.P.neg_int ⟨_, _, hs.toks _, h _⟩
theorem run_mod (hb : b ≠ 0) (h : ∀ t, Q (.int (a.fmod b) t) loc led) : Run C (binaryOp .Mod (.int a t) (.int b u)) loc led Q := Run.any fun ok s hs => mod_int' hb ⟨_, _, hs.toks _, h _⟩
theorem run_fdiv (hb : b ≠ 0) (hz : b.natAbs < 1073741824) (h : ∀ t, Q (.int (a.fdiv b) t) loc led) : Run C (binaryOp .FloorDiv (.int a t) (.int b u)) loc led Q := Run.any fun ok s hs => floordiv_int hb ⟨_, _, hs.toks _, h _⟩ (.inl (PyProof.noPylong_small hz))
theorem run_pow (h0 : 0 ≤ b) (h1 : b ≤ 1000000) (hz : a.natAbs < 2 ^ 64) (h : ∀ t, Q (.int (a ^ b.toNat) t) loc led) : Run C (binaryOp .Pow (.int a t) (.int b u)) loc led Q := Run.any fun ok s hs => pow_int_small h0 h1 hz ⟨_, _, hs.toks _, h _⟩
theorem run_eq (h : Q (.bool (a == b)) loc led) : Run C (compareOp .Eq (.int a t) (.int b u)) loc led Q := Run.any fun _ s hs => PySem.P.eq_int ⟨_, _, hs, h⟩
theorem run_ne (h : Q (.bool (a != b)) loc led) : Run C (compareOp .NotEq (.int a t) (.int b u)) loc led Q := Run.any fun _ s hs => PySem.P.ne_int ⟨_, _, hs, h⟩
theorem run_lt (h : Q (.bool (decide (a < b))) loc led) : Run C (compareOp .Lt (.int a t) (.int b u)) loc led Q := Run.any fun _ s hs => PySem.P.lt_int ⟨_, _, hs, h⟩
theorem run_le (h : Q (.bool (decide (a ≤ b))) loc led) : Run C (compareOp .LtE (.int a t) (.int b u)) loc led Q := Run.any fun _ s hs => PySem.P.le_int ⟨_, _, hs, h⟩
theorem run_gt (h : Q (.bool (decide (a > b))) loc led) : Run C (compareOp .Gt (.int a t) (.int b u)) loc led Q := Run.any fun _ s hs => PySem.P.gt_int ⟨_, _, hs, h⟩
theorem run_ge (h : Q (.bool (decide (a ≥ b))) loc led) : Run C (compareOp .GtE (.int a t) (.int b u)) loc led Q := Run.any fun _ s hs => PySem.P.ge_int ⟨_, _, hs, h⟩
theorem run_isN {v : Value} (h : Q (.bool (v == .none)) loc led) : Run C (compareOp .Is v .none) loc led Q := Run.any fun _ s hs => is_none_gen ⟨_, _, hs, h⟩
theorem run_isNotN {v : Value} (h : Q (.bool (!(v == .none))) loc led) : Run C (compareOp .IsNot v .none) loc led Q := Run.any fun _ s hs => isNot_none ⟨_, _, hs, h⟩
theorem run_int_of {Q : Value → Loc → Led → Prop} (h : Q (.int a t) loc led) : Run C (call (.type "int") [.int a t]) loc led Q := Run.any fun _ s hs => call_int_int ⟨_, _, hs, h⟩
end
/-! lists, tuples -/
abbrev tupObj (vs : List Value) : Obj := { cls := .type "tuple", data := .seq vs.toArray }
section
variable {a b : Addr} {its ws : List Value} {k : Nat} {i : Int} {t u : Tok} {v : Value} {Q : Value → Loc → Led → Prop}
theorem St.lst {s : Shared} (st : St C loc led s) (h : (a, lstObj its k) ∈ led) : s.heap.IsList a its.toArray := ⟨_, st.at_ h, rfl, k, rfl⟩
theorem St.tup {s : Shared} (st : St C loc led s) (h : (a, tupObj its) ∈ led) : IsTup s.heap a its.toArray := ⟨_, st.at_ h, rfl, 0, rfl⟩
theorem run_len_list (h : (a, lstObj its k) ∈ led) (hz : its.length < 2 ^ 62) (hq : ∀ t, Q (.int its.length t) loc led) : Run C (call (.builtin "len") [.ref a]) loc led Q := Run.any fun ok s hs =>
  Calls.call_len_list (hs.lst h) (by rw [List.size_toArray]; omega) ⟨_, _, hs.toks _, hq _⟩
theorem run_get_list (h : (a, lstObj its k) ∈ led) (h0 : 0 ≤ i) (h1 : i < 2 ^ 62) (hx : its[i.toNat]? = some v) (hq : Q v loc led) : Run C (getItem (.ref a) (.int i t)) loc led Q := Run.any fun ok s hs =>
  wpAny_getItem_list (hs.lst h) h0 (by omega) (by simpa using hx) ⟨_, _, hs, hq⟩
theorem run_py_list (h : (a, lstObj its k) ∈ led) {Q : Bool → Loc → Led → Prop} (hq : Q false loc led) : Run C (getitemInPython (.ref a)) loc led Q := Run.any fun ok s hs => by
  unfold getitemInPython
  exact wpAny_bind (wpAny_specialOf (hs.lst h).typeIs slot_list_getitem.lookup (wpAny_pure ⟨_, _, hs, hq⟩))
theorem run_py_tup (h : (a, tupObj its) ∈ led) {Q : Bool → Loc → Led → Prop} (hq : Q false loc led) : Run C (getitemInPython (.ref a)) loc led Q := Run.any fun ok s hs => by
  unfold getitemInPython
  exact wpAny_bind (wpAny_specialOf (hs.tup h).typeIs slot_tuple_getitem.lookup (wpAny_pure ⟨_, _, hs, hq⟩))
theorem run_get_tup (h : (a, tupObj its) ∈ led) (h0 : 0 ≤ i) (h1 : i < 2 ^ 62) (hx : its[i.toNat]? = some v) (hq : Q v loc led) : Run C (getItem (.ref a) (.int i t)) loc led Q := Run.any fun ok s hs => by
  have hlt : i.toNat < its.length := by
    rcases Nat.lt_or_ge i.toNat its.length with q | q
    · exact q
    · rw [List.getElem?_eq_none q] at hx; cases hx
  exact getItem_tuple (hs.tup h) (j := i.toNat) (by omega) (by omega) (by
    unfold seqIndex?
    rw [List.size_toArray]
    simp only [if_neg (show ¬ i < 0 by omega)]
    rw [if_pos (by simp; omega)]) (by simpa using hx) ⟨_, _, hs, hq⟩
theorem run_set_list {led' : Led} {Q : Unit → Loc → Led → Prop} (hp : Put a (lstObj its k) (lstObj (its.set i.toNat v) k) led led') (h0 : 0 ≤ i) (h1 : i < its.length) (hz : its.length < 2 ^ 62) (hq : Q () loc led') : Run C (setItem (.ref a) (.int i t) v) loc led Q := Run.any fun ok s hs => by
  have z := hs.at_ hp.mem
  refine ki_setAt (n := k) z h0 (by omega) (by rw [List.size_toArray]; omega) ⟨_, _, hs.putAt hp (Heap.SameBut.update ..).extBut ?_, hq⟩
  rw [Heap.get?_update_self _ z rfl]
  show some (Obj.mapSeq _ (W.listOf its.toArray k)) = some (W.listOf (its.set i.toNat v).toArray k)
  have e : its.toArray.setIfInBounds i.toNat v = (its.set i.toNat v).toArray := by
    apply Array.toList_inj.mp
    simp
  simp only [Obj.mapSeq, W.listOf, e]
  simp
theorem run_add_lists {k2 : Nat} (h : (a, lstObj its k) ∈ led) (h2 : (b, lstObj ws k2) ∈ led) (hz : its.length + ws.length ≤ 100000) (hq : ∀ c, Q (.ref c) loc ((c, lstObj (its ++ ws) 0) :: led)) : Run C (binaryOp .Add (.ref a) (.ref b)) loc led Q := Run.any fun ok s hs => by
  have hz' : its.length + ws.length ≤ sizeLine := by rw [sizeLine_eq]; omega
  exact add_lists (hsz := hz') hs.fr hs.nw (hs.lst h) (hs.lst h2) fun h' F N => ⟨_, _, hs.new F N hs.fresh, hq _⟩
theorem run_mul_list (h : (a, lstObj its k) ∈ led) (h0 : 0 ≤ i) (hz : its.length * i.toNat ≤ 256) (hi : i ≤ 100000) (hq : ∀ c, Q (.ref c) loc ((c, lstObj (List.replicate i.toNat its).flatten 0) :: led)) : Run C (binaryOp .Mult (.ref a) (.int i t)) loc led Q := Run.any fun ok s hs =>
  KMa.mul hs.fr hs.nw (hs.lst h) (by omega) (by omega) hz rfl fun D h' F N lt => ⟨_, _, hs.new F N (fun p hp => Nat.ne_of_lt (lt p hp)), hq _⟩
theorem run_mul_list_r (h : (a, lstObj its k) ∈ led) (h0 : 0 ≤ i) (hz : its.length * i.toNat ≤ 256) (hi : i ≤ 100000) (hq : ∀ c, Q (.ref c) loc ((c, lstObj (List.replicate i.toNat its).flatten 0) :: led)) : Run C (binaryOp .Mult (.ref a) (.int i t)) loc led Q := run_mul_list h h0 hz hi hq
theorem run_mul_bytes {b d : List UInt8} (hb : b ≠ []) (h2 : 2 ≤ i) (hn : i ≤ 1000) (hz : b.length ≤ 1000) (e : (List.replicate i.toNat b).flatten = d) (hq : ∀ t, Q (.bytes d.toArray t) loc led) : Run C (binaryOp .Mult (.bytes b.toArray t) (.int i u)) loc led Q := Run.any fun ok s hs =>
  bytes_mul_K hb h2 (by omega) (Nat.le_trans (Nat.mul_le_mul hz (show i.toNat ≤ 1000 by omega)) (by decide)) e fun t' k => ⟨_, _, hs.toks _, hq _⟩

/-! slices -/
abbrev slObj (l u : Value) : Obj := { cls := .type "slice", data := .fields #[l, u, .none] }
theorem run_Slice {env : Env} {lo up : Option Expr} {pos : Pos} (h : Run C (valueOrNone (evalOpt lo env)) loc led (fun l loc led => Run C (valueOrNone (evalOpt up env)) loc led (fun u loc led => ∀ s, Q (.ref s) loc ((s, slObj l u) :: led)))) :
    Run C (eval (.Slice lo up none pos) env) loc led Q := by
  show Run C (do
    let l ← valueOrNone (evalOpt lo env)
    let u ← holding [l] (valueOrNone (evalOpt up env))
    let s ← holding [l, u] (valueOrNone (evalOpt none env))
    newFields "slice" [l, u, s]) loc led Q
  refine Run.bind (h.mono fun l _ _ h => Run.bind (Run.holding (h.mono fun u _ _ h => Run.bind (Run.holding (Run.pure (a := Value.none) ?_)))))
  exact Run.any fun ok s hs => wpAny_newObj_type ⟨_, _, hs.push _, h _⟩
theorem run_vnone {env : Env} (h : Q .none loc led) : Run C (valueOrNone (evalOpt none env)) loc led Q := Run.pure (a := Value.none) h
theorem run_vsome {env : Env} {e : Expr} (h : Run C (eval e env) loc led Q) : Run C (valueOrNone (evalOpt (some e) env)) loc led Q := by
  exact h
theorem St.slc {s : Shared} {sl : Addr} {l u : Value} (st : St C loc led s) (h : (sl, slObj l u) ∈ led) : s.heap.IsSliceOf sl l u .none := ⟨_, st.at_ h, rfl, rfl⟩
theorem pick_plain (vs : List Value) (lo hi : Option Int) : slicePick vs.toArray lo hi none = ((vs.drop (lo.elim 0 (clipAt vs.length))).take (hi.elim vs.length (clipAt vs.length) - lo.elim 0 (clipAt vs.length))).toArray := by
  unfold slicePick
  rw [List.size_toArray, sliceBounds_plain]
  simp only [sliceRange_one]
  have := pick_run vs.toArray (lo.elim 0 (clipAt vs.length)) (hi.elim vs.length (clipAt vs.length) - lo.elim 0 (clipAt vs.length))
  rw [this]
theorem run_cut_list {sl : Addr} {l u : Value} {lo hi : Option Int} (h : (a, lstObj its k) ∈ led) (hs : (sl, slObj l u) ∈ led) (hl : IsPart l lo) (hu : IsPart u hi) (hz : its.length ≤ 100000)
    (hq : ∀ c, Q (.ref c) loc ((c, lstObj ((its.drop (lo.elim 0 (clipAt its.length))).take (hi.elim its.length (clipAt its.length) - lo.elim 0 (clipAt its.length))) 0) :: led)) : Run C (getItem (.ref a) (.ref sl)) loc led Q := Run.any fun ok s st => by
  refine wpAny_getItem_list_slice (st.lst h) (st.slc hs) hl hu .none (fun e => nomatch e) ?_ (by rw [List.size_toArray, sizeLine_eq]; omega)
  rw [pick_plain]
  exact ⟨_, _, st.push _, hq _⟩
end
/-! bytearrays -/
section
variable {a b : Addr} {l : List UInt8} {i : Int} {t u : Tok} {v : Value} {Q : Value → Loc → Led → Prop}
theorem run_new_ba (h0 : 0 ≤ i) (h1 : i ≤ 100000) (hq : ∀ c, Q (.ref c) loc ((c, baObj (List.replicate i.toNat 0)) :: led)) : Run C (call (.type "bytearray") [.int i t]) loc led Q := fun ok s hs =>
  new_ba_int h0 h1 fun h' hs' ho => ⟨_, _, (hs.push (baObj [])).set1 hs'.extBut ho, hq _⟩
theorem run_len_ba (h : (a, baObj l) ∈ led) (hz : l.length ≤ 100000) (hq : ∀ t, Q (.int l.length t) loc led) : Run C (call (.builtin "len") [.ref a]) loc led Q := Run.any fun ok s hs => len_ba (hs.at_ h) hz fun t k => ⟨_, _, hs.toks _, hq _⟩
theorem run_eq_ba {m : List UInt8} (h : (a, baObj l) ∈ led) (h2 : (b, baObj m) ∈ led) (hq : Q (.bool (decide (l = m))) loc led) : Run C (compareOp .Eq (.ref a) (.ref b)) loc led Q := Run.any fun ok s hs => eq_ba (hs.at_ h) (hs.at_ h2) ok.units ⟨_, _, hs, hq⟩
theorem run_eq_bb {m : Array UInt8} (h : (a, baObj l) ∈ led) (hq : Q (.bool (decide (l = m.toList))) loc led) : Run C (compareOp .Eq (.ref a) (.bytes m t)) loc led Q := Run.any fun ok s hs => eq_ba_bytes (hs.at_ h) ok.units ⟨_, _, hs, hq⟩
theorem run_bytes_ba (h : (a, baObj l) ∈ led) (hz : l.length ≤ 100000) (hq : ∀ t, Q (.bytes l.toArray t) loc led) : Run C (call (.type "bytes") [.ref a]) loc led Q := Run.any fun ok s hs => bytes_ba (hs.at_ h) (by simpa using hz) fun t k => ⟨_, _, hs.toks _, hq _⟩
theorem run_py_ba (h : (a, baObj l) ∈ led) {Q : Bool → Loc → Led → Prop} (hq : Q false loc led) : Run C (getitemInPython (.ref a)) loc led Q := Run.any fun ok s hs => by
  unfold getitemInPython
  exact wpAny_bind (wpAny_specialOf ⟨_, hs.at_ h, rfl⟩ Ft.ba_item (wpAny_pure ⟨_, _, hs, hq⟩))
theorem run_cut_ba {sl : Addr} {vl vu : Value} {lo hi : Option Int} (h : (a, baObj l) ∈ led) (hs : (sl, slObj vl vu) ∈ led) (hl : IsPart vl lo) (hu : IsPart vu hi) (hz : l.length ≤ 100000)
    (hq : ∀ c, Q (.ref c) loc ((c, baObj ((l.drop (lo.elim 0 (clipAt l.length))).take (hi.elim l.length (clipAt l.length) - lo.elim 0 (clipAt l.length)))) :: led)) : Run C (getItem (.ref a) (.ref sl)) loc led Q := Run.any fun ok s st => by
  refine get_ba (st.at_ h) (st.slc hs) hl hu (by simpa using hz) ?_
  rw [KBc.picked_eq]
  have st2 := st.push (baObj ((l.drop (lo.elim 0 (clipAt l.length))).take (hi.elim l.length (clipAt l.length) - lo.elim 0 (clipAt l.length))))
  simp only [List.size_toArray]
  exact ⟨_, _, st2, hq _⟩
theorem cut_toArray (l : List UInt8) (x y : Nat) (c : List UInt8) : l.toArray.extract 0 x ++ c.toArray ++ l.toArray.extract y l.toArray.size = (l.take x ++ c ++ l.drop y).toArray := by
  apply Array.toList_inj.mp
  simp [List.take_drop, List.take_of_length_le]
theorem run_set_ba_bytes {sl : Addr} {vl vu : Value} {lo hi : Option Int} {led' : Led} {c : List UInt8} {x y : Nat} {Q : Unit → Loc → Led → Prop} (hp : Put a (baObj l) (baObj (l.take x ++ c ++ l.drop y)) led led') (hs : (sl, slObj vl vu) ∈ led) (hl : IsPart vl lo) (hu : IsPart vu hi)
    (hz : l.length ≤ 50000) (hcz : c.length ≤ 50000) (hb : sliceBounds lo hi none l.length = ((x : Int), (y : Int), 1)) (hxy : x + c.length = y) (hq : Q () loc led') : Run C (setItem (.ref a) (.ref sl) (.bytes c.toArray t)) loc led Q := fun ok s st => by
  refine set_ba_bytes (st.at_ hp.mem) (st.slc hs) hl hu (by simpa using hz) (by simpa using hcz) (x := x) (y := y) (by simpa using hb) (by simpa using hxy) fun h' hk ho => ?_
  rw [cut_toArray] at ho
  exact ⟨_, _, st.putAt hp hk ho, hq⟩
theorem run_set_ba_ba {sl : Addr} {vl vu : Value} {lo hi : Option Int} {led' : Led} {c : List UInt8} {x y : Nat} {Q : Unit → Loc → Led → Prop} (hp : Put a (baObj l) (baObj (l.take x ++ c ++ l.drop y)) led led') (h2 : (b, baObj c) ∈ led) (hne : a ≠ b) (hs : (sl, slObj vl vu) ∈ led) (hl : IsPart vl lo) (hu : IsPart vu hi)
    (hz : l.length ≤ 50000) (hcz : c.length ≤ 50000) (hb : sliceBounds lo hi none l.length = ((x : Int), (y : Int), 1)) (hxy : x + c.length = y) (hq : Q () loc led') : Run C (setItem (.ref a) (.ref sl) (.ref b)) loc led Q := fun ok s st => by
  refine set_ba_ba (st.at_ hp.mem) (st.at_ h2) hne (st.slc hs) hl hu (by simpa using hz) (by simpa using hcz) (x := x) (y := y) (by simpa using hb) (by simpa using hxy) fun h' hk ho => ?_
  rw [cut_toArray] at ho
  exact ⟨_, _, st.putAt hp hk.extBut ho, hq⟩
end
end
end Fb

/-! F6 -/
namespace Fb
/-! ## attributes -/
structure SlotK (K : Frag) (Cl : Addr) (name : Str) (i : Nat) (p : Addr) : Prop where
  get : plainGet K Cl name = true
  cls : isClsIn K Cl = true
  at_ : findIn K (.ref Cl) name = some (some (.ref p))
  gets : specialIn K (.ref p) "__get__" = some (some (.builtin "member_descriptor.__get__"))
  takes : takesIn K (.ref p) = some true
  idx : slotIn K p Cl = some i
  set : findIn K (.ref Cl) "__setattr__" = some (some (.builtin "object.__setattr__"))
  over : plainOver K Cl = true
  taker : takerIn K Cl name = some (some (.ref p))
  typ : typeIn K (.ref p) = some (.type "member_descriptor")
structure MethK (K : Frag) (Cl : Addr) (name : Str) (f : Addr) : Prop where
  get : plainGet K Cl name = true
  at_ : findIn K (.ref Cl) name = some (some (.ref f))
  fn : isFn K (.ref f) = true
structure ClsV (K : Frag) (Cl : Addr) (name : Str) (v mc : Value) : Prop where
  typ : typeIn K (.ref Cl) = some mc
  reads : readsIn K Cl mc = true
  at_ : findCls K (.ref Cl) mc name = some (.val v)
  handed : handedIn v = true
abbrev inst (Cl dx : Addr) (sl : List (Option Value)) : Obj := ⟨.ref Cl, some dx, .plain, sl.toArray⟩
abbrev dict0 : Obj := W.dictOf [] 0
def setS (sl : List (Option Value)) (i : Nat) (v : Value) : List (Option Value) := (sl ++ List.replicate (i + 1 - sl.length) none).set i (some v)
section
variable {α : Type} {C : Cx} {loc : Loc} {led : Led} {prog : Program} {w : World} {K : Frag} {n : Nat} {sc : List (Str × NameKind)} {x dx Cl p : Addr} {i : Nat} {name : Str} {sl : List (Option Value)} {od : Obj}
theorem Cx.Is.In {s : Shared} (hC : C.Is prog w K n sc) (ok : C.Ok) : K.In C.g := hC.K ▸ ok.X
theorem run_get_slot {v : Value} {e : Bool} {Q : Value → Loc → Led → Prop} (hC : C.Is prog w K n sc) (S : SlotK K Cl name i p) (h1 : (x, inst Cl dx sl) ∈ led) (h2 : (dx, od) ∈ led) (hv : (sl[i]?).join = some v) (hh : handedIn v = true) (hq : Q v loc led) :
    Run C (getAttr (.ref x) name e) loc led Q := Run.any fun ok s hs =>
  get_slot hs.fr (hC.K ▸ ok.X) (InstAt.of_news hs.nw h1 h2) S.get S.cls S.at_ S.gets S.takes S.idx (by simpa using hv) hh ⟨_, _, hs.toks _, hq⟩
theorem run_set_slot {v : Value} {led' : Led} {Q : Unit → Loc → Led → Prop} (hC : C.Is prog w K n sc) (S : SlotK K Cl name i p) (hp : Put x (inst Cl dx sl) (inst Cl dx (setS sl i v)) led led') (h2 : (dx, od) ∈ led) (hz : Nat.blt i 1000 = true) (hq : Q () loc led') :
    Run C (setAttr (.ref x) name v) loc led Q := Run.any fun ok s hs => by
  refine set_slot hs.fr (hC.K ▸ ok.X) hs.nw (InstAt.of_news hs.nw hp.mem h2) S.set S.over S.taker S.typ S.idx (Nat.blt_eq.mp hz) ?_ rfl (hp.upd hs.nd) fun h' F N => ⟨_, _, hs.put hp F N, hq⟩
  unfold inst setS
  congr 1
  apply Array.toList_inj.mp
  simp
theorem run_meth {f : Addr} {pl : Sem Bool} {Q : Value × List Value → Loc → Led → Prop} (hC : C.Is prog w K n sc) (S : MethK K Cl name f) (h1 : (x, inst Cl dx sl) ∈ led) (h2 : (dx, dict0) ∈ led) (hq : Q (.ref f, [.ref x]) loc led) :
    Run C (getMethod (.ref x) name pl) loc led Q := Run.any fun ok s hs =>
  method_inst hs.fr (hC.K ▸ ok.X) (InstAt.of_news hs.nw h1 h2) S.get S.at_ S.fn rfl ⟨_, _, hs, hq⟩
theorem run_clsv {v mc : Value} {e : Bool} {Q : Value → Loc → Led → Prop} (hC : C.Is prog w K n sc) (S : ClsV K Cl name v mc) (hq : Q v loc led) : Run C (getAttr (.ref Cl) name e) loc led Q := Run.any fun ok s hs =>
  cls_val hs.fr (hC.K ▸ ok.X) S.typ S.reads S.at_ S.handed ⟨_, _, hs.toks _, hq⟩
end

/-! ## instances -/
section
variable {prog : Program} {w : World} {A : Around} {s : Shared} {K : Frag} {Cl : Addr}
theorem wpP_here {α : Type} {M : Model} {t : Sem α} {r : α} {Q : α → Shared → Prop} (L : Looks M s.heap t r) (q : Q r s) : wpP M A t Q s := wpP_of_any (L.here q)
theorem codeP_make {rest : List Value} {kw : List (Str × Value)} {fI : Addr} {R : Flow → Shared → Prop} (X : K.In s.heap) (hm : makesIn K Cl = true) (hi : findIn K (.ref Cl) "__init__" = some (some (.ref fI))) (hf : isFn K (.ref fI) = true)
    (hq : codeP (model prog w) (A.under (.builtin "type.__call__" ⟨.ref Cl :: rest, kw⟩)) (.call (.ref fI) ⟨.ref (s.heap.objs.size + 1) :: rest, kw⟩) (fun f s' => f = .ret .none ∧ R (.ret (.ref (s.heap.objs.size + 1))) s') { s with heap := (s.heap.push emptyDict).push (instObj Cl s.heap.objs.size) }) :
    codeP (model prog w) A (.call (.ref Cl) ⟨rest, kw⟩) R s := by
  have Y := makes_of (M := model prog w) X hm
  have hi' := looks_findIn (M := model prog w) X hi
  have hb : ∀ self, Looks (model prog w) s.heap (bindSpecial (.ref fI) self) (.ref fI, [self]) := fun self => bind_fn X self (beq_iff_eq.mp hf)
  have Y' := Y
  obtain ⟨⟨oc, od, cd, sl, hC, e1, e2, e4⟩, made, base, self, top, call_, typ⟩ := Y
  refine codeP_of_tree rfl ?_
  show wpP _ _ (callAny (.ref Cl) _) _ _
  unfold callAny
  refine wpP_bind (wpP_load hC ?_)
  show wpP _ _ (callAny.viaDunder (.ref Cl) _) _ _
  unfold callAny.viaDunder
  refine wpP_bind (wpP_here call_ ?_)
  dsimp only
  rw [tc_bind]
  refine wpP_bind (wpP_pure (wpP_bind (wpP_pure ?_)))
  refine wpP_pure (a := Fin.again (.call (.builtin "type.__call__") ⟨.ref Cl :: rest, kw⟩)) (And.intro rfl ?_)
  refine codeP_of_tree rfl ?_
  show wpP _ A.in1 (do checkBuiltinCall "type.__call__" ⟨.ref Cl :: rest, kw⟩; again (.builtin "type.__call__" ⟨.ref Cl :: rest, kw⟩)) _ s
  refine wpP_bind (wpP_of_any (check_slot tc_kind tc_split typ (tc_args _ _ _) ?_))
  refine wpP_pure ⟨Code.quiet_builtin _ (by decide +kernel), codeP_builtin (calm_id (by decide +kernel)) entry_typeCall ?_⟩
  unfold Builtin.«type.__call__»
  refine wpP_if_false rfl ?_
  have hmr : Looks (model prog w) s.heap (mroOf (.ref Cl)) cd.mro := ((Looks.ld (part := none) hC).andThen .now).andThen .now
  refine wpP_bind (wpP_here hmr ?_)
  refine wpP_if_false e4 ?_
  refine wpP_bind (wpP_here made ?_)
  refine wpP_bind (wpP_pure ?_)
  refine wpP_bind (wpP_holding (wpP_call (codeP_of_any ?_)))
  obtain ⟨h, g, d, t, os⟩ := s
  refine new_K Y' hi' (.inl rfl) ?_
  have k : ∀ b o, h.get? b = some o → ((h.push emptyDict).push (instObj Cl h.objs.size)).get? b = some o := fun b o e => Heap.get?_push_of_some _ (Heap.get?_push_of_some _ e)
  have hx : ((h.push emptyDict).push (instObj Cl h.objs.size)).get? (h.objs.size + 1) = some (instObj Cl h.objs.size) := by heap_get
  have t1 : Looks (model prog w) ((h.push emptyDict).push (instObj Cl h.objs.size)) (typeOf (.ref (h.objs.size + 1))) (.ref Cl) := (Looks.ld hx).andThen .now
  have s1 := self.keeps k
  have i1 := hi'.keeps k
  have b1 := (hb (.ref (h.objs.size + 1))).keeps k
  dsimp only
  unfold isInstance callSpecial? specialOf
  refine wpP_bind (wpP_bind (wpP_of_any (t1.at (wpP_here s1 ?_))))
  refine wpP_if_false rfl ?_
  refine wpP_bind (wpP_holding (wpP_bind (wpP_bind (wpP_of_any (t1.at (wpP_here i1 ?_))))))
  dsimp only
  refine wpP_holding (wpP_bind (wpP_of_any (b1.at ?_)))
  refine wpP_bind (wpP_call (codeP_mono hq fun f s' z => ?_))
  obtain ⟨rfl, z⟩ := z
  exact wpP_pure (wpP_pure z)
end

/-! ## calls, with the ledger joined -/
inductive App : Led → Led → Led → Prop
  | nil {r} : App [] r r
  | cons {x l r t} : App l r t → App (x :: l) r (x :: t)
theorem App.eq {l r t : Led} (h : App l r t) : l ++ r = t := by
  induction h with
  | nil => rfl
  | cons _ ih => rw [List.cons_append, ih]
section
variable {α : Type} {C : Cx} {loc : Loc} {led : Led} {prog : Program} {w : World} {K : Frag} {m n : Nat} {sc : List (Str × NameKind)}
theorem run_call {fv : Value} {args : List Value} {kw : List (Str × Value)} {fp rest : Led} {Q' : Value → Led → Prop} {Q : Value → Loc → Led → Prop}
    (hC : C.Is prog w K m sc) (hs : CallP prog w K fv args kw n fp Q') (hn : Nat.ble n m = true) (hp : Pick led fp rest) (h : ∀ v led', Q' v led' → ∃ led2, App led' rest led2 ∧ Q v loc led2) : Run C (call fv args kw) loc led Q :=
  Run.call hC hs hn hp fun v led' hq => by
    obtain ⟨led2, ha, hq⟩ := h v led' hq
    rw [ha.eq]; exact hq
/-- a call that leaves its objects as they were -/
theorem run_call0 {fv : Value} {args : List Value} {kw : List (Str × Value)} {fp rest : Led} {P : Value → Prop} {Q : Value → Loc → Led → Prop}
    (hC : C.Is prog w K m sc) (hs : CallP prog w K fv args kw n fp (fun v led' => P v ∧ led' = fp)) (hn : Nat.ble n m = true) (hp : Pick led fp rest) (h : ∀ v, P v → Q v loc led) : Run C (call fv args kw) loc led Q := fun ok s st => by
  have key := Run.call (C := C) (loc := loc) (led := led) (Q := fun v l d => l = loc ∧ d = fp ++ rest ∧ P v) hC hs hn hp (fun v led' hq => ⟨rfl, by rw [hq.2], hq.1⟩) ok s st
  refine wpP_mono key fun v s' hv => ?_
  obtain ⟨l, d, st', rfl, rfl, hP⟩ := hv
  exact ⟨_, _, st'.perm hp.perm.symm, h v hP⟩
theorem CallP.mono {fv : Value} {args : List Value} {kw : List (Str × Value)} {pre : Led} {Q Q' : Value → Led → Prop} (h : CallP prog w K fv args kw n pre Q) (hQ : ∀ v l, Q v l → Q' v l) : CallP prog w K fv args kw n pre Q' :=
  fun A g s h1 h2 h3 h4 h5 h6 h7 h8 => codeP_mono (h A g s h1 h2 h3 h4 h5 h6 h7 h8) fun f s' ⟨v, l, a, b, c, d, e, f, q⟩ => ⟨v, l, a, b, c, d, e, f, hQ v l q⟩
theorem CallP.make {Cl fI : Addr} {args : List Value} {kw : List (Str × Value)} {pre : Led} {Q : Value → Led → Prop} (hm : makesIn K Cl = true) (hi : findIn K (.ref Cl) "__init__" = some (some (.ref fI))) (hf : isFn K (.ref fI) = true)
    (hs : ∀ x dx, CallP prog w K (.ref fI) (.ref x :: args) kw n ((x, inst Cl dx []) :: (dx, dict0) :: pre) (fun v led' => v = .none ∧ Q (.ref x) led')) : CallP prog w K (.ref Cl) args kw (n + 1) pre Q := by
  intro A g s hh hd hu X T hsz hext hown
  refine codeP_make (X.keeps hext) hm hi hf ?_
  have gnone : ∀ b, s.heap.objs.size ≤ b → g.get? b = none := fun b hb => by
    cases q : g.get? b with
    | none => rfl
    | some o => exact absurd (Heap.lt_size q) (Nat.not_lt.mpr (Nat.le_trans hsz hb))
  have hx : ((s.heap.push emptyDict).push (instObj Cl s.heap.objs.size)).get? (s.heap.objs.size + 1) = some (instObj Cl s.heap.objs.size) := by heap_get
  have hdx : ((s.heap.push emptyDict).push (instObj Cl s.heap.objs.size)).get? s.heap.objs.size = some emptyDict := Heap.get?_push_of_some _ (Heap.get?_push_size _ rfl)
  have k : ∀ b o, s.heap.get? b = some o → ((s.heap.push emptyDict).push (instObj Cl s.heap.objs.size)).get? b = some o := fun b o e => Heap.get?_push_of_some _ (Heap.get?_push_of_some _ e)
  have lt : ∀ p ∈ pre, p.1 < s.heap.objs.size := fun p hp => Heap.lt_size (hown.at_ p hp).1
  refine codeP_mono (hs (s.heap.objs.size + 1) s.heap.objs.size _ g { s with heap := (s.heap.push emptyDict).push (instObj Cl s.heap.objs.size) } hh (by show A.depth + 1 + 8 * n ≤ 900; omega) (by show A.units + 1 + 40 * n ≤ 9000; omega) X T ?_ (fun b o e => k b o (hext b o e)) ⟨?_, ?_⟩) fun f s' hq => ?_
  · show g.objs.size ≤ ((s.heap.push emptyDict).push (instObj Cl s.heap.objs.size)).objs.size
    rw [Heap.size_push, Heap.size_push]; omega
  · intro p hp
    rcases List.mem_cons.mp hp with rfl | hp
    · exact ⟨hx, gnone _ (Nat.le_succ _)⟩
    rcases List.mem_cons.mp hp with rfl | hp
    · exact ⟨hdx, gnone _ (Nat.le_refl _)⟩
    · exact ⟨k _ _ (hown.at_ p hp).1, (hown.at_ p hp).2⟩
  · rw [List.map_cons, List.map_cons, List.nodup_cons, List.nodup_cons]
    refine ⟨fun hm => ?_, fun hm => ?_, hown.nd⟩
    · rcases List.mem_cons.mp hm with e | hm
      · exact absurd e (Nat.succ_ne_self _)
      · obtain ⟨p, hp, e⟩ := List.mem_map.mp hm
        exact absurd (e ▸ lt p hp) (Nat.not_lt.mpr (Nat.le_succ _))
    · obtain ⟨p, hp, e⟩ := List.mem_map.mp hm
      exact absurd (e ▸ lt p hp) (Nat.lt_irrefl _)
  · obtain ⟨v, l, rfl, a, b, c, d, e, rfl, q⟩ := hq
    exact ⟨rfl, _, l, rfl, a, b, c, d, e, q⟩
end
end Fb

/-! F7 -/
namespace Fb
/-! ## a class attribute that is a built-in type -/
structure ClsT (K : Frag) (Cl : Addr) (name : Str) (T : String) : Prop where
  reads : readsIn K Cl (.type "type") = true
  meta_ : findIn K (.type "type") name = some none
  at_ : findIn K (.ref Cl) name = some (some (.type T))
  ga : specialIn K (.ref Cl) "__getattribute__" = some (some (.builtin "type.__getattribute__"))
namespace Ft
theorem int_is_type : typeOf (.type "int") = pure (.type "type") := by kernel_rfl
theorem type_get : typeLookup (.type "type") "__get__" = pure none := by rw [typeLookup_type, builtinLookup_eq_fast]; kernel_rfl
theorem int_handed : handedOut (.type "int") = pure (.type "int") := handedOut_of rfl
end Ft
section
variable {prog : Program} {w : World} {A : Around} {E : Value → Shared → Prop} {s : Shared} {K : Frag} {Cl : Addr} {name : Str}
theorem cls_int {expr : Bool} {Q : Value → Shared → Prop} (X : K.In s.heap) (S : ClsT K Cl name "int") (hn : Builtin.heldUnderItsOwnName name (.type "int") = false) (h : Q (.type "int") { s with toks := s.toks + 1 }) : wpAny (model prog w) A (getAttr (.ref Cl) name expr) Q E s := by
  have hr := S.reads
  simp only [readsIn, Bool.and_eq_true, beq_iff_eq] at hr
  obtain ⟨⟨⟨⟨a, b⟩, hga⟩, d⟩, hi⟩ := hr
  obtain ⟨hk, d⟩ := Option.isSome_iff_exists.mp d
  have ho := looks_opaque (M := model prog w) (C := Cl) X a
  have ht := looks_typeIn (M := model prog w) X b
  have hb := looks_hook (M := model prog w) X d
  have L1 := looks_findIn (M := model prog w) X S.meta_
  have L2 := looks_findIn (M := model prog w) X S.at_
  refine wpAny_bind (wpAny_mkText (wpAny_holding (wpAny_bind (ht _ _ _ _ (fun _ _ e => e) (wpAny_bind (looks_findIn X hga _ _ _ _ (fun _ _ e => e) ?_))))))
  dsimp only
  rw [show (onTheHeap (Value.type "type") && Value.builtin "type.__getattribute__" == Value.builtin "object.__getattribute__") = false from by rw [show (Value.builtin "type.__getattribute__" == Value.builtin "object.__getattribute__") = false from by decide +kernel, Bool.and_false], if_neg (by decide)]
  refine wpAny_bind (hb _ _ _ _ (fun _ _ e => e) (wpAny_bind (wpAny_attempt (wpAny_holding ?_))))
  unfold callGetattribute
  rw [show (expr && onTheHeap (Value.builtin "type.__getattribute__")) = false from Bool.and_false _, if_neg (by decide)]
  unfold boundAndCalled
  rw [KF.slot_tga.bind]
  refine wpAny_bind (wpAny_pure ?_)
  show wpAny _ _ (call (.builtin "type.__getattribute__") [.ref Cl, .str name s.toks]) _ _ _
  refine wpAny_call ?_
  refine codeAny_call_builtin KF.slot_tga.plain KF.entry_tga ?_
  refine @check_slot (model prog w) _ _ { s with toks := s.toks + 1 } "type.__getattribute__" "type" "__getattribute__" (.ref Cl) [.str name s.toks] [] _ (by decide +kernel) (by decide +kernel) (ht.andThen (looks_subIn X hi)) (KF.args_tga (.ref Cl) (.str name s.toks)) ?_
  obtain ⟨hh, g, dr, t, os⟩ := s
  dsimp only at X ho ht L1 L2 ⊢
  unfold Builtin.«type.__getattribute__»
  refine wpAny_bind (wpAny_pure (wpAny_bind (ho.at (wpAny_bind (ht.at (wpAny_bind (L1.at ?_)))))))
  refine wpAny_bind (wpAny_pure ?_)
  refine wpAny_bind (L2.at ?_)
  dsimp only
  rw [hn, if_neg Bool.false_ne_true]
  refine wpAny_bind (wpAny_of_eq Ft.int_is_type ?_)
  refine bm_if_false (by decide +kernel) ?_
  unfold specialOf
  refine wpAny_bind (wpAny_bind (wpAny_of_eq Ft.int_is_type (wpAny_of_eq Ft.type_get ?_)))
  dsimp only
  refine wpAny_bind (wpAny_of_eq Ft.int_handed (wpAny_pure ?_))
  exact wpAny_of_eq Ft.int_handed h
end
section
variable {α : Type} {C : Cx} {loc : Loc} {led : Led} {prog : Program} {w : World} {K : Frag} {m n : Nat} {sc : List (Str × NameKind)} {Cl : Addr} {name : Str}
theorem run_meth_int {pl : Sem Bool} {Q : Value × List Value → Loc → Led → Prop} (hC : C.Is prog w K n sc) (S : ClsT K Cl name "int") (hn : Builtin.heldUnderItsOwnName name (.type "int") = false) (hq : Q (.type "int", []) loc led) : Run C (getMethod (.ref Cl) name pl) loc led Q := Run.any fun ok s hs => by
  have X : K.In C.g := hC.K ▸ ok.X
  exact method_of_cls hs.fr X S.ga (cls_int (X.keeps hs.fr.keep) S hn ⟨_, _, hs.toks _, hq⟩)
/-! Struct, as methods -/
theorem stIn {s : Shared} {a : Addr} {o : Obj} (hC : C.Is prog w K n sc) (ok : C.Ok) (hs : St C loc led s) (e : K.lookup a = some o) : s.heap.get? a = some o := hs.fr.keep _ _ ((show K.In C.g from hC.K ▸ ok.X) _ _ e)
theorem run_meth_pack {a : Addr} {f : Array UInt8} {t : Tok} {pl : Sem Bool} {Q : Value × List Value → Loc → Led → Prop} (hC : C.Is prog w K n sc) (e : K.lookup a = some (stObj f t)) (hq : Q (.builtin "_struct.Struct.pack_into", [.ref a]) loc led) : Run C (getMethod (.ref a) "pack_into" pl) loc led Q := Run.any fun ok s hs =>
  have z := stIn hC ok hs e
  getMethod_builtin ⟨_, z, rfl⟩ Ft.plain_S Ft.slot_pack Ft.type_pack (fun a e => by cases e; exact ⟨_, z, rfl⟩) ⟨_, _, hs, hq⟩
theorem run_meth_unpack {a : Addr} {f : Array UInt8} {t : Tok} {pl : Sem Bool} {Q : Value × List Value → Loc → Led → Prop} (hC : C.Is prog w K n sc) (e : K.lookup a = some (stObj f t)) (hq : Q (.builtin "_struct.Struct.unpack_from", [.ref a]) loc led) : Run C (getMethod (.ref a) "unpack_from" pl) loc led Q := Run.any fun ok s hs =>
  have z := stIn hC ok hs e
  getMethod_builtin ⟨_, z, rfl⟩ Ft.plain_S Ft.slot_unpack Ft.type_unpack (fun a e => by cases e; exact ⟨_, z, rfl⟩) ⟨_, _, hs, hq⟩
def natL (raw : List UInt8) : Nat := raw.foldr (fun c n => n * 256 + c.toNat) 0
inductive Fmt : Array UInt8 → Char → Nat → Int → Int → Prop
  | B : Fmt #[60, 66] 'B' 1 0 256
  | H : Fmt #[60, 72] 'H' 2 0 (2 ^ 16)
  | I : Fmt #[60, 73] 'I' 4 0 (2 ^ 32)
  | i : Fmt #[60, 105] 'i' 4 (-(2 ^ 31)) (2 ^ 31)
/-- what is read -/
def readL (c : Char) (n : Nat) (raw : List UInt8) : Int := if (c.isLower && decide (natL raw ≥ 2 ^ (8 * n - 1))) = true then (natL raw : Int) - 2 ^ (8 * n) else natL raw
theorem run_unpack {a b : Addr} {f : Array UInt8} {t u : Tok} {c : Char} {n' : Nat} {lo hi : Int} {l : List UInt8} {off : Int} {Q : Value → Loc → Led → Prop} (F : Fmt f c n' lo hi) (hC : C.Is prog w K n sc) (e : K.lookup a = some (stObj f t)) (hb : (b, baObj l) ∈ led)
    (h0 : 0 ≤ off) (h1 : off + n' ≤ l.length) (hz : l.length ≤ 100000) (hq : ∀ r t, Q (.ref r) loc ((r, tupObj [.int (readL c n' ((l.drop off.toNat).take n')) t]) :: led)) : Run C (call (.builtin "_struct.Struct.unpack_from") [.ref a, .ref b, .int off u]) loc led Q := Run.any fun ok s hs => by
  have z := stIn hC ok hs e
  have zb := hs.at_ hb
  have ex : ∀ k, natL ((l.drop off.toNat).take k) = Builtin.Struct.natOf false (l.toArray.extract (off.toNat + 0 + 0 * k) (off.toNat + 0 + (0 + 1) * k)) := fun k => by
    unfold natL Builtin.Struct.natOf Builtin.Memoryview.littleEndian
    simp only [Bool.false_eq_true, if_false]
    rw [← Array.foldr_toList]
    congr 1
    simp [List.take_drop]
  have fin : ∀ {v : Int} {E : Value → Shared → Prop} {A : Around}, v = readL c n' ((l.drop off.toNat).take n') → wpAny (model C.prog C.w) A (do let v ← mkInt v; newTuple [v]) (fun v s' => ∃ loc' led', St C loc' led' s' ∧ Q v loc' led') E s := fun {v E A} hv => by
    subst hv
    refine wpAny_bind (wpAny_mkInt ?_)
    exact wpAny_newObj_type ⟨_, _, (hs.toks (s.toks + 1)).push (tupObj _), hq _ _⟩ (by show 1 ≤ sizeLine; rw [sizeLine_eq]; decide)
  cases F with
  | B => exact unpack_K z Ft.parse_B zb h0 (by simpa [fmtOf] using h1) (by omega) (by rw [Ft.unpacked_B]; refine fin ?_; unfold readL; rw [ex]; rfl)
  | H => exact unpack_K z Ft.parse_H zb h0 (by simpa [fmtOf] using h1) (by omega) (by rw [Ft.unpacked_H]; refine fin ?_; unfold readL; rw [ex]; rfl)
  | I => exact unpack_K z Ft.parse_I zb h0 (by simpa [fmtOf] using h1) (by omega) (by rw [Ft.unpacked_I]; refine fin ?_; unfold readL; rw [ex]; rfl)
  | i => exact unpack_K z Ft.parse_i zb h0 (by simpa [fmtOf] using h1) (by omega) (by rw [Ft.unpacked_i]; refine fin ?_; unfold readL; rw [ex])
theorem run_pack {a b : Addr} {f : Array UInt8} {t u t2 : Tok} {c : Char} {n' : Nat} {lo hi v : Int} {l : List UInt8} {off : Int} {led' : Led} {Q : Value → Loc → Led → Prop} (F : Fmt f c n' lo hi) (hC : C.Is prog w K n sc) (e : K.lookup a = some (stObj f t))
    (hp : Put b (baObj l) (baObj (patchL l off.toNat (leB n' (v % 2 ^ (8 * n')).toNat))) led led') (h0 : 0 ≤ off) (h1 : off + n' ≤ l.length) (hz : l.length ≤ 100000) (hlo : lo ≤ v) (hhi : v < hi) (hq : Q .none loc led') :
    Run C (call (.builtin "_struct.Struct.pack_into") [.ref a, .ref b, .int off u, .int v t2]) loc led Q := Run.any fun ok s hs => by
  have z := stIn hC ok hs e
  have zb := hs.at_ hp.mem
  have ex : (Builtin.Struct.intBytes false n' v).toList = leB n' (v % 2 ^ (8 * n')).toNat := by
    unfold Builtin.Struct.intBytes Builtin.Memoryview.toLittleEndian leB
    simp
  cases F with
  | B => exact pack_any (c := 'B') (n := 1) z Ft.parse_B (fun h => each_B hlo hhi h) zb h0 h1 hz fun h' hs' ho => ⟨_, _, hs.putAt hp hs'.extBut (ex ▸ ho), hq⟩
  | H => exact pack_any (c := 'H') (n := 2) z Ft.parse_H (fun h => each_H hlo hhi h) zb h0 h1 hz fun h' hs' ho => ⟨_, _, hs.putAt hp hs'.extBut (ex ▸ ho), hq⟩
  | I => exact pack_any (c := 'I') (n := 4) z Ft.parse_I (fun h => each_I hlo hhi h) zb h0 h1 hz fun h' hs' ho => ⟨_, _, hs.putAt hp hs'.extBut (ex ▸ ho), hq⟩
  | i => exact pack_any (c := 'i') (n := 4) z Ft.parse_i (fun h => each_i hlo hhi h) zb h0 h1 hz fun h' hs' ho => ⟨_, _, hs.putAt hp hs'.extBut (ex ▸ ho), hq⟩
end
end Fb

/-! F8 -/
namespace Fb
theorem memH {α : Type} {a : α} {l : List α} : a ∈ a :: l := .head _
theorem memT {α : Type} {a b : α} {l : List α} (h : a ∈ l) : a ∈ b :: l := .tail _ h
def noneL (l : List Str) : Loc := l.map fun x => (x, none)
theorem Run.dropPost {α : Type} {C : Cx} {loc : Loc} {led : Led} {t : Sem α} {Q : α → Loc → Led → Prop} (h : Run C t loc led (fun a loc led => ∃ led' rest, Pick led led' rest ∧ Q a loc led')) : Run C t loc led Q := fun ok s st =>
  wpP_mono (h ok s st) fun a s' ⟨l, d, st', led', rest, hp, q⟩ => ⟨l, led', st'.sub (fun p hm => hp.perm.mem_iff.mpr (List.mem_append_left _ hm)) (by
    have := (hp.perm.map (·.1)).nodup_iff.mp st'.nd
    rw [List.map_append] at this
    exact (List.nodup_append.mp this).1), q⟩
/-- enter a def: its frame's names told, the cells ahead of the ledger -/
theorem CallP.fn1 {prog : Program} {w : World} {K : Frag} {f : Addr} {oc : Value} {od : Option Addr} {osl : Array (Option Value)} {name qual : Str} {params : Arguments} {body : List Stmt} {scope : Scope} {dV kV doc pm cdv ct : Value} {an : Option Addr}
    {args : List Value} {kw : List (Str × Value)} {n : Nat} {pre : Led} {Q : Value → Led → Prop} {binds : List (Str × Value)} (sc : List (Str × NameKind)) (names cn : List Str) {loc0 loc cloc0 cloc : Loc}
    (ho : K.lookup f = some ⟨oc, od, .func (fnOf name qual params body scope dV kV doc pm an cdv ct), osl⟩) (hcd : codeIn K cdv qual = true)
    (hsc : scope.names = sc) (hbind : ∀ s : Shared, K.In s.heap → BindsTo s (fnOf name qual params body scope dV kV doc pm an cdv ct) ⟨args, kw⟩ binds)
    (hsn : decide ((sc.map (·.1)).Nodup ∧ (∀ x ∈ names, (x, NameKind.local) ∈ sc) ∧ names.Nodup ∧ (∀ x ∈ names, (x == ("__debug__" : Str)) = false) ∧ cn = (cellsFrom 0 sc []).map (·.1) ∧ cn.Nodup) = true)
    (hl0 : noneL names = loc0) (hc0 : noneL cn = cloc0) (hcn : cloc.map (·.1) = cn)
    (hb : Binds sc binds loc0 loc) (hbc : BindsC sc binds cloc0 cloc)
    (hco : scope.isCoroutine = false) (hgen : scope.isGenerator = false) (hk : scope.kind = .function)
    (h : ∀ (C : Cx) (cells led : Led), C.Is prog w K n sc → CellLed C cloc cells → App cells pre led → Run C (execs body C.env) loc led (fun fl _ led => ∃ led' rest, Pick led led' rest ∧ Q (retV fl) led')) :
    CallP prog w K (.ref f) args kw (n + 1) pre Q := by
  obtain ⟨h1, h2, h3, h4, h5, h6⟩ := of_decide_eq_true hsn
  subst hsc hl0 hc0
  have e : cloc.map (·.1) = (cellsFrom 0 scope.names []).map (·.1) := hcn.trans h5
  refine CallP.fn (names := names) (cloc := cloc) ho hcd hbind h1 h2 h3 h4 hb (by rw [hcn]; exact hbc) e (by rw [hcn]; exact h6) hco hgen hk fun C cells hC hcl => (h C cells _ hC hcl ?_).dropPost
  have app : ∀ (l r : Led), App l r (l ++ r) := fun l r => by
    induction l with
    | nil => exact .nil
    | cons x l ih => exact .cons ih
  exact app cells pre
/-- without cells -/
theorem CallP.fn0 {prog : Program} {w : World} {K : Frag} {f : Addr} {oc : Value} {od : Option Addr} {osl : Array (Option Value)} {name qual : Str} {params : Arguments} {body : List Stmt} {scope : Scope} {dV kV doc pm cdv ct : Value} {an : Option Addr}
    {args : List Value} {kw : List (Str × Value)} {n : Nat} {pre : Led} {Q : Value → Led → Prop} {binds : List (Str × Value)} (sc : List (Str × NameKind)) (names : List Str) {loc0 loc : Loc}
    (ho : K.lookup f = some ⟨oc, od, .func (fnOf name qual params body scope dV kV doc pm an cdv ct), osl⟩) (hcd : codeIn K cdv qual = true)
    (hsc : scope.names = sc) (hbind : ∀ s : Shared, K.In s.heap → BindsTo s (fnOf name qual params body scope dV kV doc pm an cdv ct) ⟨args, kw⟩ binds)
    (hsn : decide ((sc.map (·.1)).Nodup ∧ (∀ x ∈ names, (x, NameKind.local) ∈ sc) ∧ names.Nodup ∧ (∀ x ∈ names, (x == ("__debug__" : Str)) = false) ∧ [] = (cellsFrom 0 sc []).map (·.1) ∧ ([] : List Str).Nodup) = true)
    (hl0 : noneL names = loc0)
    (hb : Binds sc binds loc0 loc) (hbc : BindsC sc binds [] [])
    (hco : scope.isCoroutine = false) (hgen : scope.isGenerator = false) (hk : scope.kind = .function)
    (h : ∀ (C : Cx), C.Is prog w K n sc → Run C (execs body C.env) loc pre (fun fl _ led => ∃ led' rest, Pick led led' rest ∧ Q (retV fl) led')) :
    CallP prog w K (.ref f) args kw (n + 1) pre Q :=
  CallP.fn1 sc names [] ho hcd hsc hbind hsn hl0 rfl rfl hb hbc hco hgen hk fun C cells led hC hcl ha => by
    cases hcl
    cases ha
    exact h C hC
section
variable {C : Cx} {loc : Loc} {led : Led}
theorem run_ExprC {e : Expr} {pos : Pos} {Q : Flow → Loc → Led → Prop} (h : Run C (eval e C.env) loc led (fun v loc led => Q .next loc led)) (hs : swapsWith e none pos.line C.env = pure false := by with_unfolding_all rfl) : Run C (exec (.Expr e pos) C.env) loc led Q := fun ok s st =>
  run_Expr h (by unfold interactive; rw [ok.kf]; rfl) hs ok s st
/-- an if whose test is told -/
theorem run_IfT {test : Expr} {body orelse : List Stmt} {pos : Pos} {Q : Flow → Loc → Led → Prop} (h : Run C (isTrue test C.env (eval test C.env)) loc led (fun b loc led => b = true ∧ Run C (execs body C.env) loc led Q)) : Run C (exec (.If test body orelse pos) C.env) loc led Q :=
  run_If (h.mono fun b l d h => ⟨fun _ => h.2, fun e => by rw [h.1] at e; cases e⟩)
theorem run_IfF {test : Expr} {body orelse : List Stmt} {pos : Pos} {Q : Flow → Loc → Led → Prop} (h : Run C (isTrue test C.env (eval test C.env)) loc led (fun b loc led => b = false ∧ Run C (execs orelse C.env) loc led Q)) : Run C (exec (.If test body orelse pos) C.env) loc led Q :=
  run_If (h.mono fun b l d h => ⟨fun e => (by rw [h.1] at e; cases e), fun _ => h.2⟩)
theorem run_isCmp2T {env : Env} {l o1 o2 r1 r2 pos whole} {Q : Bool → Loc → Led → Prop}
    (h : Run C (eval l env) loc led (fun a loc led => Run C (eval r1 env) loc led (fun b loc led => Run C (compareOp o1 a b) loc led (fun c loc led => c = .bool true ∧ Run C (eval r2 env) loc led (fun d loc led => Run C (compareOp o2 b d) loc led (fun e loc led => Run C (truthy e) loc led Q))))))
    (hm : lastMarks [o1, o2] [r1, r2] = false := by with_unfolding_all rfl) : Run C (isTrue (.Compare l [o1, o2] [r1, r2] pos) env whole) loc led Q :=
  run_isCmp2 (h.mono fun a _ _ h => h.mono fun b _ _ h => h.mono fun c _ _ h => by
    obtain ⟨rfl, h⟩ := h
    exact run_truthy_bool (by rw [if_pos rfl]; exact h)) hm
theorem run_isAndF {env : Env} {x rest pos whole} {Q : Bool → Loc → Led → Prop} (h : Run C (isTrue x env (eval x env)) loc led (fun c loc led => c = false ∧ Q false loc led)) : Run C (isTrue (.BoolOp .And (x :: rest) pos) env whole) loc led Q :=
  run_isAnd (h.mono fun c _ _ h => by obtain ⟨rfl, h⟩ := h; exact h)
theorem run_isAndT {env : Env} {x rest pos whole} {Q : Bool → Loc → Led → Prop} (h : Run C (isTrue x env (eval x env)) loc led (fun c loc led => c = true ∧ Run C (isTrue (.BoolOp .And rest pos) env whole) loc led Q)) : Run C (isTrue (.BoolOp .And (x :: rest) pos) env whole) loc led Q :=
  run_isAnd (h.mono fun c _ _ h => by obtain ⟨rfl, h⟩ := h; rw [if_pos rfl]; exact h)
theorem run_isOrT {env : Env} {x rest pos whole} {Q : Bool → Loc → Led → Prop} (h : Run C (isTrue x env (eval x env)) loc led (fun c loc led => c = true ∧ Q true loc led)) : Run C (isTrue (.BoolOp .Or (x :: rest) pos) env whole) loc led Q :=
  run_isOr (h.mono fun c _ _ h => by obtain ⟨rfl, h⟩ := h; exact h)
theorem run_isOrF {env : Env} {x rest pos whole} {Q : Bool → Loc → Led → Prop} (h : Run C (isTrue x env (eval x env)) loc led (fun c loc led => c = false ∧ Run C (isTrue (.BoolOp .Or rest pos) env whole) loc led Q)) : Run C (isTrue (.BoolOp .Or (x :: rest) pos) env whole) loc led Q :=
  run_isOr (h.mono fun c _ _ h => by obtain ⟨rfl, h⟩ := h; rw [if_neg (by decide)]; exact h)
end
/-! slots set in place -/
inductive SetO : Nat → Value → List (Option Value) → List (Option Value) → Prop
  | z {v o l} : SetO 0 v (o :: l) (some v :: l)
  | s {i v o l l'} : SetO i v l l' → SetO (i + 1) v (o :: l) (o :: l')
theorem SetO.eq {i : Nat} {v : Value} {l l' : List (Option Value)} (h : SetO i v l l') : setS l i v = l' := by
  have hlt : i < l.length ∧ l.set i (some v) = l' := by
    induction h with
    | z => exact ⟨Nat.succ_pos _, rfl⟩
    | s _ ih => exact ⟨Nat.succ_lt_succ ih.1, by rw [List.set_cons_succ, ih.2]⟩
  unfold setS
  have : i + 1 - l.length = 0 := by omega
  rw [this, List.replicate_zero, List.append_nil]
  exact hlt.2
section
variable {C : Cx} {loc : Loc} {led : Led} {prog : Program} {w : World} {K : Frag} {n : Nat} {sc : List (Str × NameKind)} {x dx Cl p : Addr} {i : Nat} {name : Str} {sl sl' : List (Option Value)} {od : Obj}
theorem run_setO {v : Value} {led' : Led} {Q : Unit → Loc → Led → Prop} (hC : C.Is prog w K n sc) (S : SlotK K Cl name i p) (hp : Put x (inst Cl dx sl) (inst Cl dx sl') led led') (hs : SetO i v sl sl') (h2 : (dx, od) ∈ led) (hz : Nat.blt i 1000 = true) (hq : Q () loc led') :
    Run C (setAttr (.ref x) name v) loc led Q := run_set_slot hC S (by rw [hs.eq]; exact hp) h2 hz hq
end
end Fb

/-! F9 -/
namespace Fb
section
variable {C : Cx} {loc : Loc} {led : Led} {a b i : Int} {t u : Tok} {Q : Value → Loc → Led → Prop}
theorem run_mulb {b : List UInt8} (hb : b ≠ []) (hlo : -1000 ≤ i) (hn : i ≤ 1000) (hs : b.length ≤ 16) (h : ∀ t, Q (.bytes ((List.replicate i.toNat b).flatten).toArray t) loc led) : Run C (binaryOp .Mult (.bytes b.toArray t) (.int i u)) loc led Q := Run.any fun ok s hs' =>
  bytes_mul_any hb (by omega) (by omega) hs fun t' k => ⟨_, _, hs'.toks _, h _⟩
theorem run_min (h : ∀ t, Q (.int (if b < a then b else a) t) loc led) : Run C (call (.builtin "min") [.int a t, .int b u]) loc led Q := Run.any fun ok s hs =>
  min_two_N ok.hd hs.fr hs.nw fun h' tk F N => ⟨_, _, ⟨hs.nm, F, N, hs.nd, hs.gens, hs.dr, hs.os⟩, h _⟩
end
def padI (x s : Nat) : Nat := (s - x % s) % s
theorem align_gen (x k : Nat) (hk : 0 < k) : Builtin.bitAnd (Builtin.bitNot (x : Int) + 1) (((2 ^ k : Nat) : Int) - 1) = (padI x (2 ^ k) : Nat) := by
  have hp : 0 < 2 ^ k := Nat.two_pow_pos k
  have e1 : Builtin.bitNot (x : Int) + 1 = -(x : Int) := by unfold Builtin.bitNot; omega
  rw [e1]
  have hy : (0 : Int) ≤ ((2 ^ k : Nat) : Int) - 1 := by omega
  have ey : (((2 ^ k : Nat) : Int) - 1).toNat = 2 ^ k - 1 := by omega
  unfold padI
  by_cases hx : x = 0
  · subst hx
    rw [bitAnd_pp (by omega) hy]
    simp
  · rw [bitAnd_np (by omega) hy, ey]
    have e2 : (Builtin.bitNot (-(x : Int))).toNat = x - 1 := by unfold Builtin.bitNot; omega
    rw [e2, Nat.and_comm, Nat.and_two_pow_sub_one_eq_mod]
    have hm := Nat.mod_lt x hp
    have hm1 := Nat.mod_lt (x - 1) hp
    by_cases h0 : x % 2 ^ k = 0
    · have : (x - 1) % 2 ^ k = 2 ^ k - 1 := by
        obtain ⟨q, hq⟩ := Nat.dvd_of_mod_eq_zero h0
        obtain ⟨q', rfl⟩ : ∃ q', q = q' + 1 := ⟨q - 1, by rcases q with _ | q; simp at hq; omega; rfl⟩
        rw [hq, Nat.mul_succ, Nat.add_sub_assoc hp, Nat.mul_add_mod, Nat.mod_eq_of_lt (by omega)]
      rw [this, h0, Nat.sub_zero, Nat.mod_self]
      omega
    · have : (x - 1) % 2 ^ k = x % 2 ^ k - 1 := by
        have e := Nat.div_add_mod x (2 ^ k)
        have : x - 1 = 2 ^ k * (x / 2 ^ k) + (x % 2 ^ k - 1) := by omega
        rw [this, Nat.mul_add_mod, Nat.mod_eq_of_lt (by omega)]
      rw [this, Nat.mod_eq_of_lt (a := 2 ^ k - x % 2 ^ k) (by omega)]
      omega
theorem align4 (x : Nat) : Builtin.bitAnd (Builtin.bitNot (x : Int) + 1) (4 - 1) = (padI x 4 : Nat) := align_gen x 2 (by decide)
theorem align2 (x : Nat) : Builtin.bitAnd (Builtin.bitNot (x : Int) + 1) (2 - 1) = (padI x 2 : Nat) := align_gen x 1 (by decide)
theorem align1 (x : Nat) : Builtin.bitAnd (Builtin.bitNot (x : Int) + 1) (1 - 1) = (padI x 1 : Nat) := by
  have e1 : Builtin.bitNot (x : Int) + 1 = -(x : Int) := by unfold Builtin.bitNot; omega
  have e3 : padI x 1 = 0 := by unfold padI; omega
  rw [e1, e3]
  by_cases hx : x = 0
  · subst hx; rfl
  · rw [bitAnd_np (by omega) (by decide)]
    simp
end Fb

/-! F10 -/
namespace Fb
/-- what is asked behind the run, as a letter of its own (short terms) -/
theorem Run.post {α : Type} {C : Cx} {loc : Loc} {led : Led} {t : Sem α} {P : α → Loc → Led → Prop} (h : ∀ Qf : α → Loc → Led → Prop, (∀ a l d, P a l d → Qf a l d) → Run C t loc led Qf) : Run C t loc led P := h P fun _ _ _ h => h
end Fb

/-! I1 -/
namespace Fb
/-! ## iterators -/
section
variable {C : Cx} {loc : Loc} {led : Led} {a b c i : Int} {t u v : Tok} {it l d : Addr} {its : List Value} {k : Nat}
theorem run_range1 {Q : Value → Loc → Led → Prop} (h : ∀ r t u v, Q (.ref r) loc ((r, { cls := .type "range", data := .fields #[.int 0 t, .int b u, .int 1 v] }) :: led)) : Run C (call (.type "range") [.int b u]) loc led Q := Run.any fun ok s hs =>
  call_range_1 ⟨_, _, (hs.push _).toks _, h _ _ _ _⟩
theorem run_range3 {Q : Value → Loc → Led → Prop} (hc : c ≠ 0) (hz : c.natAbs < 1073741824) (h : ∀ r, Q (.ref r) loc ((r, { cls := .type "range", data := .fields #[.int a t, .int b u, .int c v] }) :: led)) : Run C (call (.type "range") [.int a t, .int b u, .int c v]) loc led Q := Run.any fun ok s hs =>
  call_range_3 hc ⟨_, _, (hs.push _).toks _, h _⟩ (.inl (PyProof.noPylong_small hz))
abbrev riObj (x left step : Int) : Obj := { cls := .type "range_iterator", data := .fields #[rawInt x, rawInt left, rawInt step] }
theorem run_iter_range {r : Addr} {Q : Value → Loc → Led → Prop} (h : (r, { cls := .type "range", data := .fields #[.int a t, .int b u, .int c v] }) ∈ led) (hs : Builtin.Range.small a b c = true) (hq : ∀ i, Q (.ref i) loc ((i, riObj a (Builtin.Range.rangeSize a b c) c) :: led)) :
    Run C (pyIter (.ref r)) loc led Q := Run.any fun ok s st => wpAny_pyIter_range (st.at_ h) hs ⟨_, _, st.push _, hq _⟩
theorem iterRange (it : Addr) (a c : Int) (n : Nat) : IterP C it (fun _ => True) (fun i o => o = riObj (a + (i : Nat) * c) ((n : Int) - (i : Nat)) c) n (fun i v => ∃ t, v = .int (a + (i : Nat) * c) t) where
  next i o loc led Q hi hP _ hq := Run.any fun ok s st => by
    subst hP
    refine wpAny_pyNext_range_item (st.at_ (.head _)) (by omega) fun h' hit' hs' => ?_
    have e1 : a + ((i + 1 : Nat) : Int) * c = a + (i : Int) * c + c := by push_cast; rw [Int.add_mul, Int.one_mul, Int.add_assoc]
    have e2 : (n : Int) - ((i + 1 : Nat) : Int) = (n : Int) - (i : Int) - 1 := by push_cast; omega
    exact ⟨_, _, st.set1 hs'.extBut hit', hq _ _ ⟨_, rfl⟩ (by rw [e1, e2])⟩
  done o loc led Q hP _ hq := Run.any fun ok s st => by
    subst hP
    exact wpAny_pyNext_range_end ok.hd (st.at_ (.head _)) (by omega) fun h' he => ⟨_, _, st.but he, hq⟩
  self o loc led Q hP _ hq := Run.any fun ok s st => by
    subst hP
    exact wpAny_pyIter_rangeiter (st.at_ (.head _)) ⟨_, _, st, hq⟩
/-- a list in the ledger, walked -/
abbrev liP (l : Addr) (i : Nat) (o : Obj) : Prop := o.cls = .type "list_iterator" ∧ o.data = .fields #[.ref l, .int (i : Nat) 0]
theorem run_iter_list {Q : Value → Loc → Led → Prop} (h : (l, lstObj its k) ∈ led) (hq : ∀ i, Q (.ref i) loc ((i, { cls := .type "list_iterator", data := .fields #[.ref l, .int 0 0] }) :: led)) : Run C (pyIter (.ref l)) loc led Q := Run.any fun ok s st =>
  wpAny_pyIter_list (st.lst h) ⟨_, _, st.push _, hq _⟩
theorem iterList (it l : Addr) (its : List Value) (k : Nat) : IterP C it (fun led => (l, lstObj its k) ∈ led) (liP l) its.length (fun i v => its[i]? = some v) where
  next i o loc led Q hi hP hs hq := Run.any fun ok s st => by
    refine wpAny_pyNext_list_item (it := it) (l := l) (i := i) ⟨o, st.at_ (.head _), hP.1, hP.2⟩ (st.lst (.tail _ hs)) (x := its[i]) (by simp [hi]) fun h' hit' hs' => ?_
    obtain ⟨o', ho', hc, hd⟩ := hit'
    exact ⟨_, _, st.set1 hs'.extBut ho', hq _ _ (by simp [hi]) ⟨hc, hd⟩⟩
  done o loc led Q hP hs hq := Run.any fun ok s st =>
    wpAny_pyNext_list_end (it := it) (l := l) (i := its.length) ok.hd ⟨o, st.at_ (.head _), hP.1, hP.2⟩ (st.lst (.tail _ hs)) (by simp) fun h' he => ⟨_, _, st.but he, hq⟩
  self o loc led Q hP hs hq := Run.any fun ok s st => wpAny_pyIter_listiter (it := it) (l := l) (i := 0) ⟨o, st.at_ (.head _), hP.1, hP.2⟩ ⟨_, _, st, hq⟩
/-- a tuple in the ledger, walked -/
abbrev tiP (l : Addr) (i : Nat) (o : Obj) : Prop := o.cls = .type "tuple_iterator" ∧ o.data = .fields #[.ref l, .int (i : Nat) 0]
theorem run_iter_tup {Q : Value → Loc → Led → Prop} (h : (l, tupObj its) ∈ led) (hq : ∀ i, Q (.ref i) loc ((i, { cls := .type "tuple_iterator", data := .fields #[.ref l, .int 0 0] }) :: led)) : Run C (pyIter (.ref l)) loc led Q := Run.any fun ok s st =>
  wpAny_pyIter_tuple (st.tup h) ⟨_, _, st.push _, hq _⟩
theorem wpAny_pyIter_tupiter {prog : Program} {w : World} {A : Around} {E : Value → Shared → Prop} {s : Shared} {it l : Addr} {i : Nat} {Q : Value → Shared → Prop} (hit : s.heap.IsTupleIter it l i) (h : Q (.ref it) s) : wpAny (model prog w) A (pyIter (.ref it)) Q E s := by
  refine wpAny_pyIter_slot hit.typeIs F.slot_tuple_iterator_iter (wpAny_call_entry F.slot_tuple_iterator_iter hit.typeIs F.entry_tuple_iterator_iter ?_ (F.args_tuple_iterator_iter_1 _))
  show wpAny _ _ (ret (.ref it)) _ _ s
  exact wpAny_pure ⟨_, rfl, "tuple_iterator", _, hit.typeIs, F.slot_tuple_iterator_next.lookup, h⟩
theorem iterTup (it l : Addr) (its : List Value) : IterP C it (fun led => (l, tupObj its) ∈ led) (tiP l) its.length (fun i v => its[i]? = some v) where
  next i o loc led Q hi hP hs hq := Run.any fun ok s st => by
    refine wpAny_pyNext_tuple_item (it := it) (t := l) (i := i) ⟨o, st.at_ (.head _), hP.1, hP.2⟩ (st.tup (.tail _ hs)) (x := its[i]) (by simp [hi]) fun h' hit' hs' => ?_
    obtain ⟨o', ho', hc, hd⟩ := hit'
    exact ⟨_, _, st.set1 hs'.extBut ho', hq _ _ (by simp [hi]) ⟨hc, hd⟩⟩
  done o loc led Q hP hs hq := Run.any fun ok s st =>
    wpAny_pyNext_tuple_end (it := it) (t := l) (i := its.length) ok.hd ⟨o, st.at_ (.head _), hP.1, hP.2⟩ (st.tup (.tail _ hs)) (by simp) fun h' he => ⟨_, _, st.but he, hq⟩
  self o loc led Q hP hs hq := Run.any fun ok s st => wpAny_pyIter_tupiter (it := it) (l := l) (i := 0) ⟨o, st.at_ (.head _), hP.1, hP.2⟩ ⟨_, _, st, hq⟩
/-- reversed(list) -/
abbrev rvP (l : Addr) (n i : Nat) (o : Obj) : Prop := o.cls = .type "list_reverseiterator" ∧ o.data = .fields #[.ref l, rawInt ((n : Int) - 1 - (i : Nat))]
theorem run_reversed {Q : Value → Loc → Led → Prop} (h : (l, lstObj its k) ∈ led) (hq : ∀ i, Q (.ref i) loc ((i, revObj l ((its.length : Int) - 1)) :: led)) : Run C (call (.type "reversed") [.ref l]) loc led Q := Run.any fun ok s st => by
  refine call_reversed_list (st.lst h) ?_
  rw [List.size_toArray]
  exact ⟨_, _, st.push _, hq _⟩
theorem iter_revSelf {o : Obj} {led : Led} {n i : Nat} {Q : Value → Loc → Led → Prop} (h : (it, o) ∈ led) (hP : rvP l n i o) (hq : Q (.ref it) loc led) : Run C (pyIter (.ref it)) loc led Q := Run.any fun ok s st => by
  have hit : s.TypeIs (.ref it) "list_reverseiterator" := ⟨o, st.at_ h, hP.1⟩
  refine wpAny_pyIter_slot hit F.slot_lri_iter (wpAny_call_entry F.slot_lri_iter hit F.entry_lri_iter ?_ (F.args_lri_iter_1 _))
  show wpAny _ _ (ret (.ref it)) _ _ s
  exact wpAny_pure ⟨_, rfl, "list_reverseiterator", _, hit, F.slot_lri_next.lookup, _, _, st, hq⟩
theorem iterRev (it l : Addr) (its : List Value) (k : Nat) : IterP C it (fun led => (l, lstObj its k) ∈ led) (rvP l its.length) its.length (fun i v => its[its.length - 1 - i]? = some v) where
  next i o loc led Q hi hP hs hq := Run.any fun ok s st => by
    have e1 : (its.length : Int) - 1 - (i : Nat) = ((its.length - 1 - i : Nat) : Int) := by omega
    have hlt : its.length - 1 - i < its.length := by omega
    refine wpAny_pyNext_rev_item (it := it) (l := l) (i := its.length - 1 - i) ⟨o, st.at_ (.head _), hP.1, by rw [hP.2, e1]⟩ (st.lst (.tail _ hs)) (x := its[its.length - 1 - i]) (by simp [hlt]) fun h' hit' hs' => ?_
    obtain ⟨o', ho', hc, hd⟩ := hit'
    refine ⟨_, _, st.set1 hs'.extBut ho', hq _ _ (by simp [hlt]) ⟨hc, ?_⟩⟩
    rw [hd]
    have e2 : ((its.length - 1 - i : Nat) : Int) - 1 = (its.length : Int) - 1 - ((i + 1 : Nat) : Int) := by omega
    rw [e2]
  done o loc led Q hP hs hq := Run.any fun ok s st => by
    have e1 : (its.length : Int) - 1 - (its.length : Nat) = -1 := by omega
    exact wpAny_pyNext_rev_end (it := it) (l := l) ok.hd ⟨o, st.at_ (.head _), hP.1, by rw [hP.2, e1]⟩ fun h' he => ⟨_, _, st.but he, hq⟩
  self o loc led Q hP hs hq := iter_revSelf (.head _) hP hq
end
end Fb

/-! L1 -/
namespace Fb
section
variable {C : Cx} {loc : Loc} {led : Led} {prog : Program} {w : World} {K : Frag} {n : Nat} {sc : List (Str × NameKind)} {l a d : Addr} {its vs : List Value} {ns : List Int} {k : Nat} {o : Obj}
theorem run_meth_append {pl : Sem Bool} {Q : Value × List Value → Loc → Led → Prop} (h : (l, lstObj its k) ∈ led) (hq : Q (.builtin "list.append", [.ref l]) loc led) : Run C (getMethod (.ref l) "append" pl) loc led Q := Run.any fun ok s st =>
  getMethod_builtin (st.lst h).typeIs PySem.F.plainAttrs_list PySem.F.slot_list_append PySem.F.type_list_append (fun b e => by cases e; exact ⟨_, st.at_ h, rfl⟩) ⟨_, _, st, hq⟩
theorem run_tuple_of {Q : Value → Loc → Led → Prop} (h : (l, lstObj its k) ∈ led) (hz : its.length ≤ 10000) (hq : ∀ t, Q (.ref t) loc ((t, tupObj its) :: led)) : Run C (call (.type "tuple") [.ref l]) loc led Q := Run.any fun ok s st =>
  kde_tupleOf st.fr st.nw (st.lst h) (by rw [List.size_toArray]; omega) rfl fun D h' F N lt => ⟨_, _, st.new F N fun p hp => Nat.ne_of_lt (lt p hp), hq D⟩
theorem itemsInt {prog : Program} {w : World} : ∀ {vs : List Value} {ns : List Int}, IntsAre vs ns → PySem.ItemsAre (intKind prog w) ns vs
  | _, _, .nil => .nil
  | _, _, .cons i t h => .cons (by simp [intKind, Value.isInt]) (itemsInt h)
/-- a dict in the ledger that has no entry -/
structure Dict0 (prog : Program) (w : World) (d : Addr) (o : Obj) : Prop where
  low : (d == sysModules) = false
  is : o.IsDictOf (intKind prog w) []
theorem run_dict0 {env : Env} {pos : Pos} {Q : Value → Loc → Led → Prop} (hC : C.Is prog w K n sc) (hq : ∀ d o, Dict0 prog w d o → Q (.ref d) loc ((d, o) :: led)) : Run C (eval (.Dict [] [] pos) env) loc led Q := Run.any fun ok s st => by
  obtain ⟨p0, l0, mg, mb, T⟩ := ok.T
  refine newDict_K st.fr st.nw T.nolimit fun d h' o F N lt lo hs _ hi _ => ⟨_, _, st.new F N fun p hp => Nat.ne_of_lt (lt p hp), hq d o ⟨lo, ?_⟩⟩
  rw [← hC.prog, ← hC.w]; exact hi
theorem run_meth_get0 {pl : Sem Bool} {Q : Value × List Value → Loc → Led → Prop} (hC : C.Is prog w K n sc) (hm : (d, o) ∈ led) (hd : Dict0 prog w d o) (hq : Q (.builtin "dict.get", [.ref d]) loc led) : Run C (getMethod (.ref d) "get" pl) loc led Q := Run.any fun ok s st =>
  getMethod_tupTab_get (knd := intKind C.prog C.w) (enc := PyData.int) st.nw (TupTab.ofEmpty (knd' := intKind C.prog C.w) hm hd.low (by rw [hC.prog, hC.w]; exact hd.is)) ⟨_, _, st, hq⟩
theorem run_get0 {Q : Value → Loc → Led → Prop} (hC : C.Is prog w K n sc) (hm : (d, o) ∈ led) (hd : Dict0 prog w d o) (hk : (a, tupObj vs) ∈ led) (hi : IntsAre vs ns) (hq : Q .none loc led) : Run C (call (.builtin "dict.get") [.ref d, .ref a]) loc led Q := Run.any fun ok s st => by
  refine call_get1_tupTab (knd := intKind C.prog C.w) (enc := PyData.int) (ks := ns) same_int' (by have := ok.un; show C.A.units + 1 < 9900; omega) st.nw (TupTab.ofEmpty (knd' := intKind C.prog C.w) hm hd.low (by rw [hC.prog, hC.w]; exact hd.is)) hk (TupKeyObj.made (itemsInt hi)) fun v hv => ?_
  have : v = .none := by
    have hv' : PyProof.V.Flat v .none := hv
    have r := hv' s.heap
    cases r; rfl
  subst this
  exact ⟨_, _, st.toks _, hq⟩
/-- d[tuple] = int: the dict is left out behind it -/
theorem run_set0 {i : Int} {t : Tok} {led2 : Led} {Q : Unit → Loc → Led → Prop} (hC : C.Is prog w K n sc) (hr : Rem (d, o) led led2) (hd : Dict0 prog w d o) (hk : (a, tupObj vs) ∈ led) (hi : IntsAre vs ns) (hq : Q () loc led2) : Run C (setItem (.ref d) (.ref a) (.int i t)) loc led Q := Run.any fun ok s st => by
  have hm : (d, o) ∈ led := hr.perm.mem_iff.mpr (.head _)
  have nd := (hr.perm.map (·.1)).nodup_iff.mp st.nd
  rw [List.map_cons] at nd
  have nd := List.nodup_cons.mp nd
  refine setItem_tupTab (knd := intKind C.prog C.w) (enc := PyData.int) (ks := ns) (dv := .int i) same_int' (by have := ok.un; show C.A.units + 1 < 9900; omega) (.int i t) st.fr st.nw (TupTab.ofEmpty (knd' := intKind C.prog C.w) hm hd.low (by rw [hC.prog, hC.w]; exact hd.is)) hk (TupKeyObj.made (itemsInt hi)) (fun h' news' F N _ _ keep => ?_) (Nat.zero_le _)
  refine ⟨_, led2, ⟨st.nm, F, fun p hp => N p (keep p (hr.perm.mem_iff.mpr (.tail _ hp)) fun e => nd.1 (by have := List.mem_map_of_mem (f := (·.1)) hp; rw [e] at this; exact this)), nd.2, st.gens, st.dr, st.os⟩, hq⟩
/-- tuples taken apart -/
theorem run_asTup2 {x y : Str} {px py pos : Pos} {kk : Nat} {v1 v2 : Value} {loc1 loc2 : Loc} {Q : Unit → Loc → Led → Prop} (h : (a, tupObj [v1, v2]) ∈ led) (h1 : SetL x v1 loc loc1) (h2 : SetL y v2 loc1 loc2) (hq : Q () loc2 led) : Run C (assign (.Tuple [.Name x px, .Name y py] kk pos) C.env (.ref a)) loc led Q := by
  rw [PySem.arm_assign_Tuple]
  refine Run.at_ ?_
  unfold unpack
  refine Run.bind (Run.holding (Run.any fun ok s st => unpackItemsN_ st.fr st.nw (st.tup h) ok.hd rfl fun h' F N => ⟨_, _, ⟨st.nm, F, N, st.nd, st.gens, st.dr, st.os⟩, ?_⟩))
  show Run C (do holding [v2] (assign (.Name x px) C.env v1); do holding [] (assign (.Name y py) C.env v2); pure ()) loc led Q
  exact Run.bind (Run.holding (run_asName h1 (Run.bind (Run.holding (run_asName h2 (Run.pure hq))))))
end
end Fb

/-! L2 -/
namespace Fb
open Builtin.Struct in
def fmt4 : Format := ⟨true, false, [⟨'B', 1, 0, 1⟩, ⟨'B', 1, 1, 1⟩, ⟨'B', 1, 2, 1⟩, ⟨'B', 1, 3, 1⟩], 4, 4⟩
namespace Ft
open Builtin.Struct
theorem kind_unp : builtinKind "_struct.unpack" = none := by decide +kernel
theorem plain_unp : plainId "_struct.unpack" = true := by decide +kernel
theorem entry_unp : entryFor table "_struct.unpack" = some Builtin.«_struct.unpack» := entryFor_of_tree (by kernel_rfl)
theorem args_unp (a b : Value) : argsOk "_struct.unpack" ⟨[a, b], []⟩ := by unfold argsOk; kernel_rfl
theorem unp_fmt (t : Tok) : moduleFormat (.str ">BBBB" t) = pure fmt4 := by kernel_rfl
theorem unp_tree (a b : Value) : Builtin.«_struct.unpack» ⟨[a, b], []⟩ = (do let f ← moduleFormat a; unpackExact "_struct.unpack" (pure f) b) := by kernel_rfl
theorem unp_vals (id : String) : unpacked id fmt4 #[70, 65, 84, 49] 0 = (do
    let a ← mkInt 70
    let b ← mkInt 65
    let c ← mkInt 84
    let d ← mkInt 49
    newTuple [a, b, c, d]) := by kernel_rfl
end Ft
section
variable {C : Cx} {loc : Loc} {led : Led} {t u : Tok}
theorem run_unpack4 {Q : Value → Loc → Led → Prop} (hq : ∀ r a b c d, Q (.ref r) loc ((r, tupObj [.int 70 a, .int 65 b, .int 84 c, .int 49 d]) :: led)) : Run C (call (.builtin "_struct.unpack") [.str ">BBBB" t, .bytes [70, 65, 84, 49].toArray u]) loc led Q := Run.any fun ok s st => by
  refine Calls.call_function_entry Ft.kind_unp Ft.plain_unp Ft.entry_unp (Ft.args_unp _ _) ?_
  rw [Ft.unp_tree]
  refine wpAny_bind (wpAny_of_eq (Ft.unp_fmt t) ?_)
  unfold Builtin.Struct.unpackExact
  refine wpAny_bind ?_
  unfold Builtin.Bytes.bytesLike
  refine wpAny_bind (wa_buffer_bytes (wpAny_pure ?_))
  refine wpAny_bind (wpAny_pure ?_)
  refine bm_if_false (by rfl) ?_
  refine wpAny_bind ?_
  rw [Ft.unp_vals]
  refine wpAny_bind (wpAny_mkInt (wpAny_bind (wpAny_mkInt (wpAny_bind (wpAny_mkInt (wpAny_bind (wpAny_mkInt ?_)))))))
  refine wpAny_newObj_type (wpAny_pure ⟨_, rfl, _, _, (st.toks _).push (tupObj _), hq _ _ _ _ _⟩) (by show 4 ≤ sizeLine; rw [sizeLine_eq]; decide)
end
end Fb

/-! L3 -/
namespace Fb
/-! ## the dict of files -/
abbrev Files := List (Int × List UInt8)
inductive KV : List (Int × Value) → Files → Prop
  | nil : KV [] []
  | cons {k : Int} {c : List UInt8} {kvs F} (t : Tok) : KV kvs F → KV ((k, .bytes c.toArray t) :: kvs) ((k, c) :: F)
def look (F : Files) (k : Int) : Option (List UInt8) := (F.find? fun p => p.1 = k).map (·.2)
def putF (F : Files) (k : Int) (c : List UInt8) : Files := if F.any (fun p => p.1 = k) then F.map (fun p => if p.1 = k then (p.1, c) else p) else F ++ [(k, c)]
def remF (F : Files) (k : Int) : Files := F.filter fun p => decide (p.1 ≠ k)
theorem KV.length {kvs F} (h : KV kvs F) : kvs.length = F.length := by
  induction h with
  | nil => rfl
  | cons t _ ih => simp [ih]
theorem KV.keys {kvs F} (h : KV kvs F) : kvs.map (·.1) = F.map (·.1) := by
  induction h with
  | nil => rfl
  | cons t _ ih => simp [ih]
theorem KV.some {kvs F} (h : KV kvs F) {k : Int} {c : List UInt8} (e : look F k = some c) : ∃ t, valueAt kvs k = some (.bytes c.toArray t) := by
  induction h with
  | nil => cases e
  | @cons k' c' kvs F t _ ih =>
    unfold look valueAt at *
    rw [List.find?_cons] at e ⊢
    by_cases hk : k' = k
    · simp only [hk, decide_true] at e ⊢
      cases e
      exact ⟨t, rfl⟩
    · simp only [hk, decide_false] at e ⊢
      exact ih e
theorem KV.isSome {kvs F} (h : KV kvs F) (k : Int) : (valueAt kvs k).isSome = decide (k ∈ F.map (·.1)) := by
  induction h with
  | nil => rfl
  | @cons k' c' kvs F t _ ih =>
    unfold valueAt at *
    rw [List.find?_cons]
    by_cases hk : k' = k
    · simp [hk]
    · have hk' : ¬ k = k' := fun e => hk e.symm
      simp only [hk, decide_false, List.map_cons, List.mem_cons, hk', false_or]
      exact ih
theorem KV.any {kvs F} (h : KV kvs F) (k : Int) : kvs.any (fun kv => kv.1 = k) = F.any (fun kv => kv.1 = k) := by
  induction h with
  | nil => rfl
  | cons t _ ih => simp [ih]
theorem KV.upd {kvs F} (h : KV kvs F) (k : Int) (c : List UInt8) (t : Tok) : KV (kvs.map fun kv => if kv.1 = k then (kv.1, .bytes c.toArray t) else kv) (F.map fun p => if p.1 = k then (p.1, c) else p) := by
  induction h with
  | nil => exact .nil
  | @cons k' c' kvs F t' _ ih =>
    rw [List.map_cons, List.map_cons]
    by_cases hk : k' = k
    · simp only [hk, if_true]; exact .cons t ih
    · simp only [hk, if_false]; exact .cons t' ih
theorem KV.snoc {kvs F} (h : KV kvs F) (k : Int) (c : List UInt8) (t : Tok) : KV (kvs ++ [(k, .bytes c.toArray t)]) (F ++ [(k, c)]) := by
  induction h with
  | nil => exact .cons t .nil
  | cons t' _ ih => exact .cons t' ih
theorem KV.stored {kvs F} (h : KV kvs F) (k : Int) (c : List UInt8) (t : Tok) : KV (stored kvs k (.bytes c.toArray t)) (putF F k c) := by
  unfold PySem.stored putF
  rw [h.any]
  split
  · exact h.upd k c t
  · exact h.snoc k c t
theorem KV.without {kvs F} (h : KV kvs F) (k : Int) : KV (without kvs k) (remF F k) := by
  unfold PySem.without remF
  induction h with
  | nil => exact .nil
  | @cons k' c' kvs F t' _ ih =>
    rw [List.filter_cons, List.filter_cons]
    by_cases hk : k' = k
    · simp only [hk, ne_eq, not_true, decide_false, if_false, Bool.false_eq_true]; simpa using ih
    · simp only [ne_eq, hk, not_false_eq_true, decide_true, if_true]; exact .cons t' (by simpa using ih)
theorem KV.at {kvs F} (h : KV kvs F) {i : Nat} {k : Int} {x : Value} (e : kvs[i]? = .some (k, x)) : ∃ c, F[i]? = .some (k, c) := by
  induction h generalizing i with
  | nil => simp at e
  | @cons k' c' kvs F t' _ ih =>
    cases i with
    | zero => simp at e ⊢; exact e.1
    | succ i => simp at e ⊢; exact ih e
structure FD (prog : Program) (w : World) (d : Addr) (o : Obj) (F : Files) : Prop where
  low : (d == sysModules) = false
  is : ∃ kvs, o.IsDictOf (intKind prog w) kvs ∧ KV kvs F
section
variable {C : Cx} {loc : Loc} {led : Led} {prog : Program} {w : World} {K : Frag} {n : Nat} {sc : List (Str × NameKind)} {l a d : Addr} {its vs : List Value} {ns ms : List Int} {k : Int} {t : Tok} {o : Obj} {F : Files} {kk : Nat}
theorem FD.ofDict0 (h : Dict0 prog w d o) : FD prog w d o [] := ⟨h.low, [], h.is, .nil⟩
theorem FD.dict {s : Shared} (hC : C.Is prog w K n sc) (st : St C loc led s) (hm : (d, o) ∈ led) (hd : FD prog w d o F) : ∃ kvs, s.heap.DictOf (intKind C.prog C.w) d kvs ∧ KV kvs F := by
  obtain ⟨kvs, h1, h2⟩ := hd.is
  rw [hC.prog, hC.w]
  exact ⟨kvs, Heap.dictOf_iff.mpr ⟨o, st.at_ hm, h1⟩, h2⟩
theorem run_in_dict {Q : Value → Loc → Led → Prop} (hC : C.Is prog w K n sc) (hm : (d, o) ∈ led) (hd : FD prog w d o F) (hq : Q (.bool (decide (k ∈ F.map (·.1)))) loc led) : Run C (compareOp .In (.int k t) (.ref d)) loc led Q := Run.any fun ok s st => by
  obtain ⟨kvs, h1, h2⟩ := hd.dict hC st hm
  exact wpAny_in_of (intKind_is _ _ k t) hd.low h1.mapOf (by rw [h2.isSome]; exact ⟨_, _, st.toks _, hq⟩)
theorem run_notin_dict {Q : Value → Loc → Led → Prop} (hC : C.Is prog w K n sc) (hm : (d, o) ∈ led) (hd : FD prog w d o F) (hq : Q (.bool (!decide (k ∈ F.map (·.1)))) loc led) : Run C (compareOp .NotIn (.int k t) (.ref d)) loc led Q := Run.any fun ok s st => by
  obtain ⟨kvs, h1, h2⟩ := hd.dict hC st hm
  exact wpAny_notIn_of (intKind_is _ _ k t) hd.low h1.mapOf (by rw [h2.isSome]; exact ⟨_, _, st.toks _, hq⟩)
theorem run_py_dict {Q : Bool → Loc → Led → Prop} (hC : C.Is prog w K n sc) (hm : (d, o) ∈ led) (hd : FD prog w d o F) (hq : Q false loc led) : Run C (getitemInPython (.ref d)) loc led Q := Run.any fun ok s st => by
  obtain ⟨kvs, h1, h2⟩ := hd.dict hC st hm
  unfold getitemInPython
  exact wpAny_bind (wpAny_specialOf h1.typeIs slot_dict_getitem.lookup (wpAny_pure ⟨_, _, st, hq⟩))
theorem run_get_dict {c : List UInt8} {Q : Value → Loc → Led → Prop} (hC : C.Is prog w K n sc) (hm : (d, o) ∈ led) (hd : FD prog w d o F) (hl : look F k = some c) (hq : ∀ u, Q (.bytes c.toArray u) loc led) : Run C (getItem (.ref d) (.int k t)) loc led Q := Run.any fun ok s st => by
  obtain ⟨kvs, h1, h2⟩ := hd.dict hC st hm
  obtain ⟨u, hu⟩ := h2.some hl
  exact wpAny_getItem_of (intKind_is _ _ k t) h1.mapOf hu ⟨_, _, st.toks _, hq u⟩
theorem run_set_dict {c : List UInt8} {u : Tok} {Q : Unit → Loc → Led → Prop} (hC : C.Is prog w K n sc) (hm : (d, o) ∈ led) (hd : FD prog w d o F) (hz : F.length ≤ 1000) (hq : ∀ o', FD prog w d o' (putF F k c) → ∃ led', Put d o o' led led' ∧ Q () loc led') : Run C (setItem (.ref d) (.int k t) (.bytes c.toArray u)) loc led Q := Run.any fun ok s st => by
  obtain ⟨kvs, h1, h2⟩ := hd.dict hC st hm
  refine wpAny_setItem_pairs (hsz := by rw [h2.length, sizeLine_eq]; omega) (intKind_is _ _ k t) h1 fun h' hmm hs => ?_
  obtain ⟨o', ho', hd'⟩ := Heap.dictOf_iff.mp hmm
  rw [hC.prog, hC.w] at hd'
  obtain ⟨led', hp, hq⟩ := hq o' ⟨hd.low, _, hd', h2.stored k c u⟩
  exact ⟨_, _, st.putAt hp hs.extBut ho', hq⟩
theorem run_meth_pop {pl : Sem Bool} {Q : Value × List Value → Loc → Led → Prop} (hC : C.Is prog w K n sc) (hm : (d, o) ∈ led) (hd : FD prog w d o F) (hq : Q (.builtin "dict.pop", [.ref d]) loc led) : Run C (getMethod (.ref d) "pop" pl) loc led Q := Run.any fun ok s st => by
  obtain ⟨kvs, h1, h2⟩ := hd.dict hC st hm
  exact getMethod_builtin h1.typeIs PySem.F.plainAttrs_dict PySem.F.slot_dict_pop PySem.F.type_dict_pop h1.mapOf.noDict ⟨_, _, st, hq⟩
theorem run_pop {c : List UInt8} {Q : Value → Loc → Led → Prop} (hC : C.Is prog w K n sc) (hm : (d, o) ∈ led) (hd : FD prog w d o F) (hz : F.length ≤ 1000) (hl : look F k = some c) (hq : ∀ u o', FD prog w d o' (remF F k) → ∃ led', Put d o o' led led' ∧ Q (.bytes c.toArray u) loc led') : Run C (call (.builtin "dict.pop") [.ref d, .int k t]) loc led Q := Run.any fun ok s st => by
  obtain ⟨kvs, h1, h2⟩ := hd.dict hC st hm
  obtain ⟨u, hu⟩ := h2.some hl
  refine call_meetsIn PySem.F.slot_dict_pop h1.typeIs PySem.F.entry_dict_pop (PySem.F.args_dict_pop_2 _ _) (meets_dict_pop_there (intKind C.prog C.w) d (intKind_is _ _ k t) [] (.inl rfl) rfl) ⟨kvs, _, h1, by rw [h2.length, sizeLine_eq]; omega, hu, fun h' hmm hs => ?_⟩
  obtain ⟨o', ho', hd'⟩ := Heap.dictOf_iff.mp hmm
  rw [hC.prog, hC.w] at hd'
  obtain ⟨led', hp, hq⟩ := hq u o' ⟨hd.low, _, hd', h2.without k⟩
  exact ⟨_, _, st.putAt hp hs.extBut ho', hq⟩
theorem run_len_dict {Q : Value → Loc → Led → Prop} (hC : C.Is prog w K n sc) (hm : (d, o) ∈ led) (hd : FD prog w d o F) (hz : F.length ≤ 1000) (hq : ∀ u, Q (.int F.length u) loc led) : Run C (call (.builtin "len") [.ref d]) loc led Q := Run.any fun ok s st => by
  obtain ⟨kvs, h1, h2⟩ := hd.dict hC st hm
  refine call_len_dict hd.low h1 (by rw [h2.length]; omega) ?_
  rw [h2.length]
  exact ⟨_, _, st.toks _, hq _⟩
/-- its keys, walked -/
def diP (d : Addr) (m ep i : Nat) (o : Obj) : Prop := o.cls = .type "dict_keyiterator" ∧ o.data = .fields #[.ref d, .int i 0, .int m 0, .int ep 0]
structure FDe (prog : Program) (w : World) (d : Addr) (o : Obj) (F : Files) (ep : Nat) : Prop where
  low : (d == sysModules) = false
  is : ∃ kvs es, o.ExactDict ∧ o.data = .dict es ep ∧ KeysOf (intKind prog w) es ∧ Pairs (intKind prog w) es.toList kvs ∧ (kvs.map (·.1)).Nodup ∧ KV kvs F
theorem FD.ep (h : FD prog w d o F) : ∃ ep, FDe prog w d o F ep := by
  obtain ⟨kvs, ⟨es, ep, h1, h2, h3, h4, h5⟩, h6⟩ := h.is
  exact ⟨ep, h.low, kvs, es, h1, h2, h3, h4, h5, h6⟩
theorem FDe.at_ {s : Shared} {ep : Nat} (hC : C.Is prog w K n sc) (st : St C loc led s) (hm : (d, o) ∈ led) (hd : FDe prog w d o F ep) : ∃ kvs, s.heap.DictAt (intKind C.prog C.w) d kvs ep ∧ KV kvs F := by
  obtain ⟨kvs, es, h1, h2, h3, h4, h5, h6⟩ := hd.is
  rw [hC.prog, hC.w]
  exact ⟨kvs, ⟨o, es, st.at_ hm, h1, h2, h3, h4, h5⟩, h6⟩
theorem run_iter_dict {Q : Value → Loc → Led → Prop} {ep : Nat} (hC : C.Is prog w K n sc) (hm : (d, o) ∈ led) (hd : FDe prog w d o F ep) (hq : ∀ i oi, diP d F.length ep 0 oi → Q (.ref i) loc ((i, oi) :: led)) : Run C (pyIter (.ref d)) loc led Q := Run.any fun ok s st => by
  obtain ⟨kvs, h1, h2⟩ := hd.at_ hC st hm
  exact wpAny_pyIter_dict hd.low h1 ⟨_, _, st.push _, hq _ _ ⟨rfl, by rw [← h2.length]; rfl⟩⟩
theorem iterDict (hC : C.Is prog w K n sc) (it d : Addr) (o : Obj) (F : Files) {ep : Nat} (hd : FDe prog w d o F ep) : IterP C it (fun led => (d, o) ∈ led) (diP d F.length ep) F.length (fun i v => ∃ x t, (F.map (·.1))[i]? = some x ∧ v = .int x t) where
  next i oi loc led Q hi hP hs hq := Run.any fun ok s st => by
    obtain ⟨kvs, h1, h2⟩ := hd.at_ hC st (.tail _ hs)
    have hlt : i < kvs.length := by rw [h2.length]; exact hi
    obtain ⟨⟨k, x⟩, hx⟩ : ∃ p, kvs[i]? = some p := ⟨_, List.getElem?_eq_getElem hlt⟩
    have hP' : oi.data = .fields #[.ref d, .int i 0, .int kvs.length 0, .int ep 0] := by rw [h2.length]; exact hP.2
    refine wpAny_pyNext_dict_item (it := it) (i := i) ⟨oi, st.at_ (.head _), hP.1, hP'⟩ h1 hx fun key h' hkey hit' hs' => ?_
    obtain ⟨o', ho', hc', hd'⟩ := hit'
    obtain ⟨t, rfl⟩ := Value.isInt_shape hkey
    obtain ⟨c, hc⟩ := h2.at hx
    exact ⟨_, _, st.set1 hs'.extBut ho', hq _ _ ⟨k, t, by rw [List.getElem?_map, hc]; rfl, rfl⟩ ⟨hc', by rw [hd', h2.length]⟩⟩
  done oi loc led Q hP hs hq := Run.any fun ok s st => by
    obtain ⟨kvs, h1, h2⟩ := hd.at_ hC st (.tail _ hs)
    have hP' : oi.data = .fields #[.ref d, .int F.length 0, .int kvs.length 0, .int ep 0] := by rw [h2.length]; exact hP.2
    exact wpAny_pyNext_dict_end (it := it) (i := F.length) ok.hd ⟨oi, st.at_ (.head _), hP.1, hP'⟩ h1 (by rw [← h2.length]; simp) fun h' he => ⟨_, _, st.but he, hq⟩
  self oi loc led Q hP hs hq := Run.any fun ok s st =>
    wpAny_pyIter_keyiter (it := it) (d := d) (i := 0) ⟨oi, st.at_ (.head _), hP.1, hP.2⟩ ⟨_, _, st, hq⟩
end
end Fb

/-! L4 -/
namespace Fb
section
variable {C : Cx} {loc : Loc} {led : Led} {prog : Program} {w : World} {K : Frag} {n : Nat} {sc : List (Str × NameKind)} {l l2 a d sl : Addr} {its vs us : List Value} {ns ms : List Int} {k i : Int} {t u : Tok} {o : Obj} {F : Files} {kk k2 : Nat} {b c : List UInt8}
theorem St.mk' {s : Shared} {h' : Heap} {tk : Nat} (st : St C loc led s) (Fr' : Fr C.g C.env.locals h' (vfun loc)) (N : News C.g C.env.locals h' led) : St C loc led { s with heap := h', toks := tk } := ⟨st.nm, Fr', N, st.nd, st.gens, st.dr, st.os⟩
theorem run_bytes_list {Q : Value → Loc → Led → Prop} (h : (l, lstObj vs kk) ∈ led) (hi : IntsAre vs ns) (hr : ∀ n ∈ ns, 0 ≤ n ∧ n < 256) (hz : vs.length ≤ 1000) (hq : ∀ t, Q (.bytes (ns.map fun n => n.toNat.toUInt8).toArray t) loc led) : Run C (call (.type "bytes") [.ref l]) loc led Q := Run.any fun ok s st =>
  bytes_K st.fr st.nw (st.lst h) hi hr (by rw [sizeLine_eq]; omega) ok.hd fun h' t k F N _ => ⟨_, _, st.mk' F N, hq t⟩
theorem run_len_bytes {Q : Value → Loc → Led → Prop} (hz : b.length ≤ 1000000) (hq : ∀ t, Q (.int b.length t) loc led) : Run C (call (.builtin "len") [.bytes b.toArray t]) loc led Q := Run.any fun ok s st =>
  len_bytes (by simp; omega) (by simpa using ⟨_, _, st.toks _, hq _⟩)
theorem run_py_bytes {Q : Bool → Loc → Led → Prop} (hq : Q false loc led) : Run C (getitemInPython (.bytes b.toArray t)) loc led Q := Run.any fun ok s st => by
  unfold getitemInPython
  exact wpAny_bind (wpAny_specialOf (typeIs_bytes _ _ _) FB.slot_bytes_getitem.lookup (wpAny_pure ⟨_, _, st, hq⟩))
theorem run_get_bytes {Q : Value → Loc → Led → Prop} (hz : b.length ≤ 1000000) (h0 : 0 ≤ i) (h1 : i < b.length) (hq : ∀ t, Q (.int (b.getD i.toNat 0).toNat t) loc led) : Run C (getItem (.bytes b.toArray t) (.int i u)) loc led Q := Run.any fun ok s st =>
  getItem_bytes (by omega) h0 h1 ⟨_, _, st.toks _, hq _⟩
theorem run_eq_bytes {Q : Value → Loc → Led → Prop} (hq : Q (.bool (b == c)) loc led) : Run C (compareOp .Eq (.bytes b.toArray t) (.bytes c.toArray u)) loc led Q := Run.any fun ok s st =>
  eq_bytes ⟨_, _, st, by simpa using hq⟩
theorem run_ne_bytes {Q : Value → Loc → Led → Prop} (hq : Q (.bool (b != c)) loc led) : Run C (compareOp .NotEq (.bytes b.toArray t) (.bytes c.toArray u)) loc led Q := Run.any fun ok s st =>
  ne_bytes ⟨_, _, st, by simpa using hq⟩
theorem run_sum {Q : Value → Loc → Led → Prop} (h : (l, lstObj vs kk) ∈ led) (hi : IntsAre vs ns) (hq : ∀ t, Q (.int ns.sum t) loc led) : Run C (call (.builtin "sum") [.ref l]) loc led Q := Run.any fun ok s st =>
  LSm.sum_ints st.fr st.nw ok.hd (st.lst h) hi fun h' tk t' F N => ⟨_, _, st.mk' F N, hq _⟩
theorem run_sorted_ints {Q : Value → Loc → Led → Prop} (h : (l, lstObj vs kk) ∈ led) (hi : IntsAre vs ns) (hz : ns.length ≤ 60) (hq : ∀ D vs' ns' c, IntsAre vs' ns' → ns'.Perm ns → ns'.Pairwise (· ≤ ·) → Q (.ref D) loc ((D, lstObj vs' c) :: led)) : Run C (call (.builtin "sorted") [.ref l]) loc led Q := Run.any fun ok s st =>
  kso_sorted st.fr st.nw (st.lst h) hi (by omega) fun D vs' ns' c h' F N lt i1 _ pm pw _ => ⟨_, _, st.new F N fun p hp => Nat.ne_of_lt (lt p hp), hq D vs' ns' c i1 pm pw⟩
theorem run_in_list {Q : Value → Loc → Led → Prop} (h : (l, lstObj vs kk) ∈ led) (hi : IntsAre vs ns) (hq : Q (.bool (ns.any (· == k))) loc led) : Run C (compareOp .In (.int k t) (.ref l)) loc led Q := Run.any fun ok s st =>
  in_list_ints (st.lst h) hi ⟨_, _, st, hq⟩
theorem run_eq_lists {Q : Value → Loc → Led → Prop} (h : (l, lstObj vs kk) ∈ led) (hi : IntsAre vs ns) (h2 : (l2, lstObj us k2) ∈ led) (hi2 : IntsAre us ms) (hq : Q (.bool (decide (ns = ms))) loc led) : Run C (compareOp .Eq (.ref l) (.ref l2)) loc led Q := Run.any fun ok s st =>
  eq_intsK (st.lst h) hi (st.lst h2) hi2 (by have := ok.un; show C.A.units + 64 < 9900; omega) ⟨_, _, st, hq⟩
theorem run_eq_bool {p q : Bool} {Q : Value → Loc → Led → Prop} (hq : Q (.bool (p == q)) loc led) : Run C (compareOp .Eq (.bool p) (.bool q)) loc led Q := Run.any fun ok s st => PyProof.Rows.eq_bool ⟨_, _, st, hq⟩
theorem run_truthy_list {Q : Bool → Loc → Led → Prop} (h : (l, lstObj vs kk) ∈ led) (hz : vs.length ≤ 1000) (hq : Q (!vs.isEmpty) loc led) : Run C (truthy (.ref l)) loc led Q := Run.any fun ok s st =>
  wpAny_truthy_list (st.lst h) (by rw [List.size_toArray]; omega) ⟨_, _, st.toks _, by simpa using hq⟩
theorem intsOf_keys {prog : Program} {w : World} {kvs : List (Int × Value)} {F : Files} (hk : KV kvs F) : ∀ {vs : List Value}, vs.length = kvs.length → (∀ (j : Nat) (v : Value), vs[j]? = some v → ∃ k x, kvs[j]? = some (k, x) ∧ (intKind prog w).is k v = true) → IntsAre vs (F.map (·.1)) := by
  induction hk with
  | nil => intro vs hl hv; cases vs with
    | nil => exact .nil
    | cons v vs => simp at hl
  | @cons k' c' kvs F t' _ ih =>
    intro vs hl hv
    cases vs with
    | nil => simp at hl
    | cons v vs =>
      obtain ⟨k, x, e, hk⟩ := hv 0 v rfl
      simp at e
      obtain ⟨t, rfl⟩ := Value.isInt_shape hk
      rw [List.map_cons, e.1]
      exact .cons k t (ih (by simpa using hl) fun j u hu => hv (j + 1) u (by simpa using hu))
theorem run_sorted_dict {Q : Value → Loc → Led → Prop} (hC : C.Is prog w K n sc) (hm : (d, o) ∈ led) (hd : FD prog w d o F) (hz : F.length ≤ 60) (hq : ∀ D vs' ns' c, IntsAre vs' ns' → ns'.Perm (F.map (·.1)) → ns'.Pairwise (· ≤ ·) → Q (.ref D) loc ((D, lstObj vs' c) :: led)) : Run C (call (.builtin "sorted") [.ref d]) loc led Q := Run.any fun ok s st => by
  obtain ⟨ep, he⟩ := hd.ep
  obtain ⟨kvs, h1, h2⟩ := he.at_ hC st hm
  refine kdu_sorted (kdl_dict (knd := intKind C.prog C.w) (kvs := kvs) (ep := ep) hd.low) ok.hd st.fr st.nw h1 (by rw [h2.length, sizeLine_eq]; omega) fun D h' tk vs F' N' lt hl hv => ?_
  have hi := intsOf_keys h2 hl hv
  have st' : St C loc ((D, lstObj vs 0) :: led) { s with heap := h', toks := tk } := st.new F' N' fun p hp => Nat.ne_of_lt (lt p hp)
  have hoL : h'.get? D = some (seqObj "list" vs.toArray 0) := st'.at_ (.head _)
  refine wpAny_call_entry slot_list_sort ⟨_, hoL, rfl⟩ entry_list_sort (list_sort_tree hoL hi (by have := hi.length; simp at this; omega) fun out ns' a1 a2 a3 => ?_) (args_list_sort _)
  obtain ⟨e, hs⟩ := sortedHeap_at (vs := vs) (out := out) hoL
  refine ⟨_, rfl, ?_⟩
  have st2 := st'.set1 (h' := sortedHeap h' D vs out) (o' := lstObj out.toList e) (k := tk) (fun b o hb hbo => by rw [sortedHeap_old hb (Heap.lt_size hbo)]; exact hbo) (by rw [hs]; simp [lstObj, W.listOf, seqObj])
  exact ⟨_, _, st2, hq D out.toList ns' e a1 a2 a3⟩
theorem adjust_to (a n : Nat) : Builtin.Slice.sliceAdjust none (some (a : Int)) 1 (n : Int) = (0, ((min a n : Nat) : Int)) := by
  unfold Builtin.Slice.sliceAdjust
  have h1 : ¬ ((1 : Int) < 0) := by omega
  have h2 : ¬ ((a : Int) < 0) := by omega
  simp only [h1, h2, if_false]
  congr 1
  omega
theorem places_to (a : Nat) : Builtin.Slice.slicePlaces 0 (a : Int) 1 = a := by
  unfold Builtin.Slice.slicePlaces
  have h1 : (1 : Int) > 0 := by omega
  simp only [h1, if_true, Int.ediv_one]
  split <;> omega
theorem sliceApplied_to {prog : Program} {w : World} {A : Around} {E : Value → Shared → Prop} {s : Shared} {sl : Addr} {a n : Nat} {u : Tok} {Q : Int × Int × Nat → Shared → Prop} (hs : s.heap.IsSliceOf sl .none (.int a u) .none) (h : Q ((0 : Int), 1, min a n) s) :
    wpAny (model prog w) A (Builtin.Slice.sliceApplied (.ref sl) (pure (n : Int))) Q E s := by
  obtain ⟨os, hos, hcs, hds⟩ := id hs
  unfold Builtin.Slice.sliceApplied Builtin.Slice.sliceFields
  refine wpAny_bind (wpAny_bind (wpAny_field hos hds (x := .none) rfl (wpAny_bind (wpAny_field hos hds (x := .int a u) rfl (wpAny_bind (wpAny_field hos hds (x := .none) rfl (wpAny_pure ?_)))))))
  refine wpAny_bind (slicePart_none ?_)
  show wpAny _ _ (if ((1 : Int) == 0) = true then _ else _) _ _ s
  rw [if_neg (by decide)]
  refine wpAny_bind (slicePart_none (wpAny_bind (slicePart_int (wpAny_bind (wpAny_pure ?_)))))
  show wpAny _ _ (match Builtin.Slice.sliceAdjust none (some (a : Int)) 1 (n : Int) with | (lo, hi) => pure (lo, (1 : Int), Builtin.Slice.slicePlaces lo hi 1)) _ _ s
  rw [adjust_to a n]
  show wpAny _ _ (pure ((0 : Int), (1 : Int), Builtin.Slice.slicePlaces 0 ((min a n : Nat) : Int) 1)) _ _ s
  rw [places_to]
  exact wpAny_pure h
theorem pick_to (xs : Array Value) (a : Nat) : ((List.range (min a xs.size)).filterMap fun (k : Nat) => xs[((0 : Int) + (k : Int) * 1).toNat]?).toArray = (xs.toList.take a).toArray := by
  have e : (fun (k : Nat) => xs[((0 : Int) + (k : Int) * 1).toNat]?) = fun k => xs[0 + k]? := by
    funext k
    have : ((0 : Int) + (k : Int) * 1).toNat = 0 + k := by omega
    rw [this]
  rw [e]
  have := pick_run xs 0 (min a xs.size)
  rw [List.filterMap_map] at this
  have e2 : ((fun x => xs[x]?) ∘ fun x => 0 + x) = fun k => xs[0 + k]? := rfl
  rw [e2] at this
  rw [this, List.drop_zero]
  congr 1
  have : xs.toList.length = xs.size := by simp
  rw [← this, ← List.take_take, List.take_length]
theorem run_cut_tup {m : Nat} {Q : Value → Loc → Led → Prop} (h : (a, tupObj its) ∈ led) (hs : (sl, slObj .none (.int m u)) ∈ led) (hm : m < its.length) (hz : its.length ≤ 1000) (hq : ∀ c, Q (.ref c) loc ((c, tupObj (its.take m)) :: led)) : Run C (getItem (.ref a) (.ref sl)) loc led Q := Run.any fun ok s st => by
  have ht := st.tup h
  have hdrop : sizeOk (.seq (its.toArray.toList.take m).toArray) := by
    show (its.toArray.toList.take m).toArray.size ≤ sizeLine
    rw [List.size_toArray, List.length_take, sizeLine_eq]
    omega
  have hss := st.slc hs
  obtain ⟨os, hos, hcs, hds⟩ := id hss
  have hTs : s.TypeIs (.ref sl) "slice" := ⟨os, hos, hcs⟩
  unfold getItem
  try with_reducible refine wpAny_holding ?_
  first | refine wpAny_bind (wpAny_pure ?_) | skip
  refine wpAny_bind (wpAny_sequenceKey ht.typeIs (by decide) ?_)
  refine wpAny_bind (wpAny_callSpecial?_slot (name := Str.ofString "__getitem__") ht.typeIs slot_tuple_getitem
    (wpAny_call_entry slot_tuple_getitem ht.typeIs entry_tuple_getitem ?_ (args_tuple_getitem _ _)))
  show wpAny _ _ (Builtin.Tuple.tupleItemsOf (.ref a) >>= _) _ _ s
  refine wpAny_bind (tupleItemsOf_ ht ?_)
  refine wpAny_bind (wpAny_typeOf hTs ?_)
  rw [if_pos (by decide)]
  refine wpAny_bind (sliceApplied_to hss ?_)
  have hno : ¬ (((0 : Int) == 0 && (1 : Int) == 1 && (min m its.toArray.size) == its.toArray.size) = true) := by
    have : ((min m its.toArray.size) == its.toArray.size) = false := by rw [beq_eq_false_iff_ne, List.size_toArray]; omega
    rw [this]; simp
  show wpAny _ _ (if ((0 : Int) == 0 && (1 : Int) == 1 && (min m its.toArray.size) == its.toArray.size) = true then _ else _) _ _ s
  rw [if_neg hno, pick_to its.toArray m]
  have fin : ∃ loc' led', St C loc' led' { s with heap := s.heap.push { cls := .type "tuple", data := .seq (its.toArray.toList.take m).toArray } } ∧ Q (.ref s.heap.objs.size) loc' led' := ⟨_, _, st.push _, hq _⟩
  first
    | exact wpAny_bind (m := Builtin.Tuple.tupleExact _) (wpAny_newObj_type (wpAny_pure ⟨_, rfl, wpAny_pure fin⟩) hdrop)
    | exact wpAny_bind (m := Builtin.Tuple.tupleExact _) (wpAny_newObj_type (wpAny_bind (wpAny_pure (wpAny_pure ⟨_, rfl, wpAny_pure fin⟩))) hdrop)
    | exact wpAny_bind (wpAny_bind (m := Builtin.Tuple.tupleExact _) (wpAny_newObj_type (wpAny_pure (wpAny_pure ⟨_, rfl, wpAny_pure fin⟩)) hdrop))
    | exact wpAny_bind (wpAny_bind (m := Builtin.Tuple.tupleExact _) (wpAny_newObj_type (wpAny_pure ⟨_, rfl, wpAny_pure fin⟩) hdrop))
/-- the whole tuple -/
theorem run_cut_tup_all {m : Nat} {Q : Value → Loc → Led → Prop} (h : (a, tupObj its) ∈ led) (hs : (sl, slObj .none (.int m u)) ∈ led) (hm : its.length ≤ m) (hz : its.length ≤ 1000) (hq : Q (.ref a) loc led) : Run C (getItem (.ref a) (.ref sl)) loc led Q := Run.any fun ok s st => by
  have ht := st.tup h
  have hss := st.slc hs
  obtain ⟨os, hos, hcs, hds⟩ := id hss
  have hTs : s.TypeIs (.ref sl) "slice" := ⟨os, hos, hcs⟩
  unfold getItem
  try with_reducible refine wpAny_holding ?_
  first | refine wpAny_bind (wpAny_pure ?_) | skip
  refine wpAny_bind (wpAny_sequenceKey ht.typeIs (by decide) ?_)
  refine wpAny_bind (wpAny_callSpecial?_slot (name := Str.ofString "__getitem__") ht.typeIs slot_tuple_getitem
    (wpAny_call_entry slot_tuple_getitem ht.typeIs entry_tuple_getitem ?_ (args_tuple_getitem _ _)))
  show wpAny _ _ (Builtin.Tuple.tupleItemsOf (.ref a) >>= _) _ _ s
  refine wpAny_bind (tupleItemsOf_ ht ?_)
  refine wpAny_bind (wpAny_typeOf hTs ?_)
  rw [if_pos (by decide)]
  refine wpAny_bind (sliceApplied_to hss ?_)
  have hno : (((0 : Int) == 0 && (1 : Int) == 1 && (min m its.toArray.size) == its.toArray.size) = true) := by
    have : ((min m its.toArray.size) == its.toArray.size) = true := by rw [beq_iff_eq, List.size_toArray]; omega
    rw [this]; simp
  show wpAny _ _ (if ((0 : Int) == 0 && (1 : Int) == 1 && (min m its.toArray.size) == its.toArray.size) = true then _ else _) _ _ s
  rw [if_pos hno]
  have hex : ∀ Q' : Bool → Shared → Prop, Q' true s → wpAny (model C.prog C.w) C.A.in1 (Builtin.Tuple.tupleIsExact (.ref a)) Q' (fun _ _ => False) s := fun Q' hq' => by
    unfold Builtin.Tuple.tupleIsExact
    exact wpAny_bind (wpAny_typeOf ht.typeIs (wpAny_pure hq'))
  refine wpAny_bind (hex _ ?_)
  rw [if_pos rfl]
  refine wpAny_bind (wpAny_rule ?_)
  exact wpAny_pure ⟨_, rfl, wpAny_pure ⟨_, _, st, hq⟩⟩
end
end Fb

/-! L5 -/
namespace Fb
theorem Pick.all : ∀ {ts : Led}, Pick ts ts []
  | [] => .nil
  | x :: ts => .cons .here Pick.all
theorem Pick.skip {l ts rest : Led} {x : Addr × Obj} (h : Pick l ts rest) : Pick (x :: l) ts (x :: rest) := by
  induction h with
  | nil => exact .nil
  | cons hr _ ih => exact .cons (.there hr) ih
section
variable {C : Cx} {loc : Loc} {led : Led} {prog : Program} {w : World} {K : Frag} {n : Nat} {sc : List (Str × NameKind)} {a c : Addr} {o : Obj}
theorem run_asCell {x : Str} {p : Pos} {v : Value} {v0 : Option Value} {Q : Unit → Loc → Led → Prop} (hC : C.Is prog w K n sc) (hk : (x, NameKind.cell) ∈ sc) (hc : C.env.cells.lookup x = some c) (hm : (c, o) ∈ led) (hd : o.data = .cell v0)
    (hq : ∀ o', o'.data = .cell (some v) → ∃ led', Put c o o' led led' ∧ Q () loc led') : Run C (assign (.Name x p) C.env v) loc led Q := Run.at_ (Run.any fun ok s st => by
  refine wpAny_bindName (wpAny_storeName_cell ok.kf (hC.kind ok hk) hc ⟨o, st.at_ hm, hd⟩ fun h' hv hs => ?_)
  obtain ⟨o', ho', hd'⟩ := hv
  obtain ⟨led', hp, hq⟩ := hq o' hd'
  exact ⟨_, _, st.putAt (k := s.toks) hp hs.extBut ho', hq⟩)
/-- a loop whose target is assigned by a rule of its own -/
theorem RunC.forA {x : Str} {px : Pos} {body : List Stmt} {it : Addr} {side : Led → Prop} {P : Nat → Obj → Prop} {n : Nat} {val : Nat → Value → Prop} (hI : IterP C it side P n val) (I : Nat → Loc → Led → Prop) {R : Flow → Loc → Led → Prop}
    (hside : ∀ i loc led, I i loc led → side led)
    (turn : ∀ i v o loc led, i < n → val i v → P (i + 1) o → I i loc led → Run C (assign (.Name x px) C.env v) loc ((it, o) :: led) (fun _ loc1 led1 => Run C (execs body C.env) loc1 led1 (Turn I it P R i)))
    (done : ∀ loc led, I n loc led → R .next loc led) :
    ∀ k i o loc led, n - i = k → i ≤ n → P i o → I i loc led → RunC C (.forLoop (.Name x px) (.ref it) body [] C.env) loc ((it, o) :: led) R := by
  intro k
  induction k with
  | zero =>
    intro i o loc led hk hle hP hi
    obtain rfl : i = n := by omega
    refine RunC.tree rfl rfl rfl ?_
    show Run C ((forTurn (.Name x px) (.ref it) body [] C.env).onRaise _) _ _ _
    refine Run.onRaise ?_
    unfold forTurn
    refine Run.at_ (Run.bind (Run.onRaise (hI.done o loc led _ hP (hside _ _ _ hi) ?_)))
    refine Run.pure (a := Fin.again (.block [] C.env)) ⟨rfl, RunC.tree rfl rfl rfl ?_⟩
    show Run C ((execs [] C.env).onRaise _ >>= fun f => pure (Fin.done f)) _ _ _
    exact Run.bind (Run.onRaise (run_execs_nil (Run.pure (done loc led hi))))
  | succ k ih =>
    intro i o loc led hk hle hP hi
    have hlt : i < n := by omega
    refine RunC.tree rfl rfl rfl ?_
    show Run C ((forTurn (.Name x px) (.ref it) body [] C.env).onRaise _) _ _ _
    refine Run.onRaise ?_
    unfold forTurn
    refine Run.at_ (Run.bind (Run.onRaise (hI.next i o loc led _ hlt hP (hside _ _ _ hi) fun v o' hv hP' => ?_)))
    have hr := turn i v o' loc led hlt hv hP' hi
    show Run C (do
      letOwnedTupleGo (.Name x px) (.ref it) v
      assign (.Name x px) C.env v
      match ← execs body C.env with
      | .next | .cont => again (.forLoop (.Name x px) (.ref it) body [] C.env)
      | .brk => pure (.done .next)
      | .ret v => pure (.done (.ret v))) _ _ _
    refine Run.bind (Run.pure (Run.bind (hr.mono fun _ loc1 led1 hr => Run.bind (hr.mono fun f loc2 led2 hf => ?_))))
    have again_ : (∃ o led1 rest, Pick led2 ((it, o) :: led1) rest ∧ P (i + 1) o ∧ I (i + 1) loc2 led1) → RunC C (.forLoop (.Name x px) (.ref it) body [] C.env) loc2 led2 R := fun ⟨o2, led3, rest, hp, hP2, hi2⟩ =>
      RunC.drop hp (ih (i + 1) o2 loc2 led3 (by omega) (by omega) hP2 hi2)
    cases f with
    | next => exact Run.pure (a := Fin.again _) ⟨rfl, again_ hf⟩
    | cont => exact Run.pure (a := Fin.again _) ⟨rfl, again_ hf⟩
    | brk => exact Run.pure hf
    | ret v => exact Run.pure hf
theorem run_asTup2A {x y : Str} {px py pos : Pos} {kk : Nat} {v1 v2 : Value} {Q : Unit → Loc → Led → Prop} (h : (a, tupObj [v1, v2]) ∈ led) (hq : Run C (assign (.Name x px) C.env v1) loc led (fun _ loc led => Run C (assign (.Name y py) C.env v2) loc led Q)) : Run C (assign (.Tuple [.Name x px, .Name y py] kk pos) C.env (.ref a)) loc led Q := by
  rw [PySem.arm_assign_Tuple]
  refine Run.at_ ?_
  unfold unpack
  refine Run.bind (Run.holding (Run.any fun ok s st => unpackItemsN_ st.fr st.nw (st.tup h) ok.hd rfl fun h' F N => ⟨_, _, ⟨st.nm, F, N, st.nd, st.gens, st.dr, st.os⟩, ?_⟩))
  show Run C (do holding [v2] (assign (.Name x px) C.env v1); do holding [] (assign (.Name y py) C.env v2); pure ()) loc led Q
  exact Run.bind (Run.holding (hq.mono fun _ _ _ hq => Run.bind (Run.holding (hq.mono fun _ _ _ hq => Run.pure hq))))
theorem App.app : ∀ (l r : Led), App l r (l ++ r)
  | [], r => .nil
  | x :: l, r => .cons (App.app l r)
theorem self_swap {it D : Addr} {oi ol : Obj} {side : Led → Prop} {P : Nat → Obj → Prop} {m : Nat} {val : Nat → Value → Prop} (hI : IterP C it side P m val) (h0 : P 0 oi) (hs : side ((D, ol) :: led)) :
    ∀ Q : Value → Loc → Led → Prop, Q (.ref it) loc ((D, ol) :: (it, oi) :: led) → Run C (pyIter (.ref it)) loc ((D, ol) :: (it, oi) :: led) Q := fun Q hq ok s st => by
  have hp : List.Perm ((D, ol) :: (it, oi) :: led) ((it, oi) :: (D, ol) :: led) := .swap ..
  have key := hI.self oi loc ((D, ol) :: led) (fun v l d => v = .ref it ∧ l = loc ∧ d = (it, oi) :: (D, ol) :: led) h0 hs ⟨rfl, rfl, rfl⟩ ok s (st.perm hp)
  refine wpP_mono key fun v s' hv => ?_
  obtain ⟨l, d, st', rfl, rfl, rfl⟩ := hv
  exact ⟨_, _, st'.perm hp.symm, hq⟩
theorem RunC.compGo0 {elt iter : Expr} {x : Str} {px : Pos} {scope : Scope} {pos : Pos} {it D : Addr} {side : Led → Prop} {P : Nat → Obj → Prop} {m : Nat} {val : Nat → Value → Prop} (hI : IterP C it side P m val)
    (I : Nat → List Value → Led → Prop) {R : Flow → Loc → Led → Prop} (hside : ∀ i items k led, I i items led → side ((D, lstObj items k) :: led)) (hmax : ∀ i items led, I i items led → items.length ≤ 1000)
    (turn : ∀ i v o k items led, i < m → val i v → P (i + 1) o → I i items led → Run C (eval elt C.env) [(x, some v)] ((it, o) :: (D, lstObj items k) :: led)
      (fun r loc led => loc = [(x, some v)] ∧ ∃ o k led1 rest, Pick led ((it, o) :: (D, lstObj items k) :: led1) rest ∧ P (i + 1) o ∧ I (i + 1) (items ++ [r]) led1))
    (done : ∀ k (ov : Option Value) items led, I m items led → R .next [(x, ov)] ((D, lstObj items k) :: led)) {oi : Obj} (h0 : P 0 oi) (hi : I 0 [] led) :
    RunC C (.compStart (.ListComp elt [⟨.Name x px, iter, [], 0⟩] scope pos) 0 (.ref it) (.ref D) C.env) [(x, none)] ((D, lstObj [] 0) :: (it, oi) :: led) R := by
  refine RunC.compStart ?_ (self_swap hI h0 (hside _ _ _ _ hi))
  refine RunC.drop (keep := (it, oi) :: (D, lstObj [] 0) :: led) (rest := []) (.cons (.there .here) (.cons .here .all)) ?_
  refine RunC.comp hI I hside hmax (fun i v o k items led hlt hv hP hi => run_tests0 ?_) done m 0 oi 0 [] none led rfl (Nat.zero_le _) h0 hi
  rw [if_pos rfl]
  exact turn i v o k items led hlt hv hP hi
theorem RunC.compGo1 {elt iter c : Expr} {x : Str} {px : Pos} {scope : Scope} {pos : Pos} {it D : Addr} {side : Led → Prop} {P : Nat → Obj → Prop} {m : Nat} {val : Nat → Value → Prop} (hI : IterP C it side P m val)
    (I : Nat → List Value → Led → Prop) {R : Flow → Loc → Led → Prop} (hside : ∀ i items k led, I i items led → side ((D, lstObj items k) :: led)) (hmax : ∀ i items led, I i items led → items.length ≤ 1000)
    (turn : ∀ i v o k items led, i < m → val i v → P (i + 1) o → I i items led → Run C (isTrue c C.env (eval c C.env)) [(x, some v)] ((it, o) :: (D, lstObj items k) :: led)
      (fun ok loc led => (ok = true → Run C (eval elt C.env) loc led (fun r loc led => loc = [(x, some v)] ∧ ∃ o k led1 rest, Pick led ((it, o) :: (D, lstObj items k) :: led1) rest ∧ P (i + 1) o ∧ I (i + 1) (items ++ [r]) led1)) ∧
        (ok = false → loc = [(x, some v)] ∧ ∃ o k led1 rest, Pick led ((it, o) :: (D, lstObj items k) :: led1) rest ∧ P (i + 1) o ∧ I (i + 1) items led1)))
    (done : ∀ k (ov : Option Value) items led, I m items led → R .next [(x, ov)] ((D, lstObj items k) :: led)) {oi : Obj} (h0 : P 0 oi) (hi : I 0 [] led) :
    RunC C (.compStart (.ListComp elt [⟨.Name x px, iter, [c], 0⟩] scope pos) 0 (.ref it) (.ref D) C.env) [(x, none)] ((D, lstObj [] 0) :: (it, oi) :: led) R := by
  refine RunC.compStart ?_ (self_swap hI h0 (hside _ _ _ _ hi))
  refine RunC.drop (keep := (it, oi) :: (D, lstObj [] 0) :: led) (rest := []) (.cons (.there .here) (.cons .here .all)) ?_
  refine RunC.comp hI I hside hmax (fun i v o k items led hlt hv hP hi => run_tests1 ((turn i v o k items led hlt hv hP hi).mono fun ok loc led ht => ?_)) done m 0 oi 0 [] none led rfl (Nat.zero_le _) h0 hi
  cases ok with
  | true => rw [if_pos rfl]; exact ht.1 rfl
  | false => rw [if_neg (by decide)]; exact ht.2 rfl
end
end Fb

/-! L6 -/
namespace Fb
/-- the questions of a sort answered by a table; whether each was one that the table knows -/
def kRun {α : Type} (lt : Nat → Nat → Bool) (n : Nat) : KasT α → α × Bool
  | .ret a => (a, true)
  | .ask i j k => ((kRun lt n (k (lt i j))).1, decide (i < n ∧ j < n ∧ i ≠ j) && (kRun lt n (k (lt i j))).2)
theorem kRun_wp {α : Type} {lt : Nat → Nat → Bool} {n : Nat} {ask : Nat → Nat → (Bool → Shared → Prop) → Shared → Prop} {s : Shared} {Q : α → Shared → Prop} (h : ∀ i j C, i < n → j < n → i ≠ j → C (lt i j) s → ask i j C s) : ∀ t : KasT α, (kRun lt n t).2 = true → Q (kRun lt n t).1 s → t.kasWp ask Q s
  | .ret a, _, hq => hq
  | .ask i j k, h2, hq => by
    obtain ⟨h3, h4⟩ := Bool.and_eq_true_iff.mp h2
    obtain ⟨h5, h6, h7⟩ := of_decide_eq_true h3
    exact h i j _ h5 h6 h7 (kRun_wp h (k (lt i j)) h4 hq)
def tab3 (a b c : Bool) (i j : Nat) : Bool := match i, j with
  | 0, 1 => a | 1, 0 => !a | 0, 2 => b | 2, 0 => !b | 1, 2 => c | 2, 1 => !c | _, _ => false
def isPerm : List Nat → List Nat → Bool
  | [], l => l.isEmpty
  | a :: r, l => l.contains a && isPerm r (l.erase a)
theorem isPerm_perm : ∀ {r l : List Nat}, isPerm r l = true → r.Perm l
  | [], l, h => by cases l with
    | nil => exact .refl _
    | cons a l => cases h
  | a :: r, l, h => by
    obtain ⟨h1, h2⟩ := Bool.and_eq_true_iff.mp h
    have hm : a ∈ l := by simpa using h1
    exact ((isPerm_perm h2).cons a).trans (List.perm_cons_erase hm).symm
def upOk (lt : Nat → Nat → Bool) : List Nat → Bool
  | [] => true
  | a :: r => r.all (fun b => lt a b) && upOk lt r
theorem sort2 : ∀ a : Bool, (kRun (tab3 a false false) 2 (kas_sort 2)).2 = true ∧ isPerm (kRun (tab3 a false false) 2 (kas_sort 2)).1.toList [0, 1] = true ∧ upOk (tab3 a false false) (kRun (tab3 a false false) 2 (kas_sort 2)).1.toList = true := by decide +kernel
theorem sort3 : ∀ a b c : Bool, ((a && c && !b) || (!a && !c && b)) = false → (kRun (tab3 a b c) 3 (kas_sort 3)).2 = true ∧ isPerm (kRun (tab3 a b c) 3 (kas_sort 3)).1.toList [0, 1, 2] = true ∧ upOk (tab3 a b c) (kRun (tab3 a b c) 3 (kas_sort 3)).1.toList = true := by decide +kernel
theorem upOk_pw {lt : Nat → Nat → Bool} : ∀ {l : List Nat}, upOk lt l = true → l.Pairwise fun a b => lt a b = true
  | [], _ => .nil
  | a :: r, h => by
    obtain ⟨h1, h2⟩ := Bool.and_eq_true_iff.mp h
    exact .cons (fun b hb => List.all_eq_true.mp h1 b hb) (upOk_pw h2)
theorem kRun_congr {α : Type} {lt lt' : Nat → Nat → Bool} {n : Nat} (h : ∀ i j, i < n → j < n → i ≠ j → lt i j = lt' i j) : ∀ t : KasT α, (kRun lt' n t).2 = true → kRun lt n t = kRun lt' n t
  | .ret a, _ => rfl
  | .ask i j k, h2 => by
    obtain ⟨h3, h4⟩ := Bool.and_eq_true_iff.mp h2
    obtain ⟨h5, h6, h7⟩ := of_decide_eq_true h3
    have e := h i j h5 h6 h7
    unfold kRun
    rw [e, kRun_congr h _ h4]
theorem tab_diag (a b c : Bool) : ∀ i : Nat, tab3 a b c i i = false
  | 0 => rfl
  | 1 => rfl
  | 2 => rfl
  | _ + 3 => rfl
theorem sort_by {lt lt' : Nat → Nat → Bool} {n : Nat} (h : ∀ i j, i < n → j < n → i ≠ j → lt i j = lt' i j) (hd : ∀ i, lt' i i = false) (h1 : (kRun lt' n (kas_sort n)).2 = true) (h2 : isPerm (kRun lt' n (kas_sort n)).1.toList (List.range n) = true) (h3 : upOk lt' (kRun lt' n (kas_sort n)).1.toList = true) :
    (kRun lt n (kas_sort n)).2 = true ∧ (kRun lt n (kas_sort n)).1.toList.Perm (List.range n) ∧ ((kRun lt n (kas_sort n)).1.toList.Pairwise fun a b => lt a b = true) := by
  rw [kRun_congr h _ h1]
  have hp := isPerm_perm h2
  refine ⟨h1, hp, (upOk_pw h3).imp_of_mem fun {a b} ha hb hab => ?_⟩
  have ha := List.mem_range.mp (hp.mem_iff.mp ha)
  have hb := List.mem_range.mp (hp.mem_iff.mp hb)
  rw [h a b ha hb (fun e => by rw [e, hd] at hab; cases hab)]
  exact hab
theorem flip {x y : Int} (h : x ≠ y) : decide (y < x) = !decide (x < y) := by
  by_cases h1 : x < y
  · rw [decide_eq_true h1, decide_eq_false (by omega)]; rfl
  · rw [decide_eq_false h1, decide_eq_true (by omega)]; rfl
/-- sorting up to three distinct keys -/
theorem sort_small {ks : List Int} (hn : ks.Nodup) (h2 : 2 ≤ ks.length) (h3 : ks.length ≤ 3) : (kRun (fun i j => decide (ks.getD i 0 < ks.getD j 0)) ks.length (kas_sort ks.length)).2 = true ∧
    (kRun (fun i j => decide (ks.getD i 0 < ks.getD j 0)) ks.length (kas_sort ks.length)).1.toList.Perm (List.range ks.length) ∧ ((kRun (fun i j => decide (ks.getD i 0 < ks.getD j 0)) ks.length (kas_sort ks.length)).1.toList.Pairwise fun a b => decide (ks.getD a 0 < ks.getD b 0) = true) := by
  match ks, h2, h3 with
  | [x, y], _, _ =>
    have hxy : x ≠ y := by simp at hn; exact hn
    obtain ⟨g1, g2, g3⟩ := sort2 (decide (x < y))
    refine sort_by (n := 2) (fun i j hi hj hij => ?_) (tab_diag _ _ _) g1 g2 g3
    match i, hi, j, hj with
    | 0, _, 1, _ => rfl
    | 1, _, 0, _ => exact flip hxy
    | 0, _, 0, _ => exact absurd rfl hij
    | 1, _, 1, _ => exact absurd rfl hij
  | [x, y, z], _, _ =>
    have hn' : (x ≠ y ∧ x ≠ z) ∧ y ≠ z := by simp at hn; exact hn
    obtain ⟨⟨hxy, hxz⟩, hyz⟩ := hn'
    obtain ⟨g1, g2, g3⟩ := sort3 (decide (x < y)) (decide (x < z)) (decide (y < z)) (by
      by_cases p : x < y <;> by_cases q : x < z <;> by_cases r : y < z <;> simp [p, q, r] <;> omega)
    refine sort_by (n := 3) (fun i j hi hj hij => ?_) (tab_diag _ _ _) g1 g2 g3
    match i, hi, j, hj with
    | 0, _, 1, _ => rfl
    | 0, _, 2, _ => rfl
    | 1, _, 2, _ => rfl
    | 1, _, 0, _ => exact flip hxy
    | 2, _, 0, _ => exact flip hxz
    | 2, _, 1, _ => exact flip hyz
    | 0, _, 0, _ => exact absurd rfl hij
    | 1, _, 1, _ => exact absurd rfl hij
    | 2, _, 2, _ => exact absurd rfl hij
end Fb

/-! L8 -/
namespace Fb
/-- an object that is a list of these items -/
def IsL (o : Obj) (its : List Value) : Prop := o.cls = .type "list" ∧ ∃ k, o.data = .seq its.toArray k
section
variable {C : Cx} {loc : Loc} {led : Led} {a sl : Addr} {o : Obj} {its r : List Value} {i : Int} {t : Tok} {v vl vu : Value} {lo hi : Option Int}
theorem St.lstO {s : Shared} (st : St C loc led s) (h : (a, o) ∈ led) (hL : IsL o its) : s.heap.IsList a its.toArray := ⟨_, st.at_ h, hL.1, hL.2⟩
theorem run_truthy_listO {Q : Bool → Loc → Led → Prop} (h : (a, o) ∈ led) (hL : IsL o its) (hz : its.length ≤ 1000) (hq : Q (!its.isEmpty) loc led) : Run C (truthy (.ref a)) loc led Q := Run.any fun ok s st =>
  wpAny_truthy_list (st.lstO h hL) (by rw [List.size_toArray]; omega) ⟨_, _, st.toks _, by simpa using hq⟩
theorem run_py_listO {Q : Bool → Loc → Led → Prop} (h : (a, o) ∈ led) (hL : IsL o its) (hq : Q false loc led) : Run C (getitemInPython (.ref a)) loc led Q := Run.any fun ok s st => by
  unfold getitemInPython
  exact wpAny_bind (wpAny_specialOf (st.lstO h hL).typeIs slot_list_getitem.lookup (wpAny_pure ⟨_, _, st, hq⟩))
theorem run_get_listO {Q : Value → Loc → Led → Prop} (h : (a, o) ∈ led) (hL : IsL o its) (h0 : 0 ≤ i) (h1 : i < 2 ^ 62) (hx : its[i.toNat]? = some v) (hq : Q v loc led) : Run C (getItem (.ref a) (.int i t)) loc led Q := Run.any fun ok s st =>
  wpAny_getItem_list (st.lstO h hL) h0 (by omega) (by simpa using hx) ⟨_, _, st, hq⟩
theorem run_cut_list_atO {Q : Value → Loc → Led → Prop} (h : (a, o) ∈ led) (hL : IsL o its) (hs : (sl, slObj vl vu) ∈ led) (hl : IsPart vl lo) (hu : IsPart vu hi) (hz : its.length ≤ 100000)
    (e : (its.drop (lo.elim 0 (clipAt its.length))).take (hi.elim its.length (clipAt its.length) - lo.elim 0 (clipAt its.length)) = r) (hq : ∀ c, Q (.ref c) loc ((c, lstObj r 0) :: led)) : Run C (getItem (.ref a) (.ref sl)) loc led Q := Run.any fun ok s st => by
  refine wpAny_getItem_list_slice (st.lstO h hL) (st.slc hs) hl hu .none (fun e => nomatch e) ?_ (by rw [List.size_toArray, sizeLine_eq]; omega)
  rw [pick_plain, e]
  exact ⟨_, _, st.push _, hq _⟩
end
end Fb

/-! F11 -/
namespace Fb
section
variable {C : Cx} {loc : Loc} {led : Led} {prog : Program} {w : World} {K : Frag} {m : Nat} {sc : List (Str × NameKind)}
/-- the loop's rule, the turn's post as a letter (short terms) -/
theorem RunC.forT {x : Str} {px : Pos} {body : List Stmt} {it : Addr} {side : Led → Prop} {P : Nat → Obj → Prop} {n : Nat} {val : Nat → Value → Prop} (hI : IterP C it side P n val) (I : Nat → Loc → Led → Prop) {R : Flow → Loc → Led → Prop}
    (hside : ∀ i loc led, I i loc led → side led)
    (turn : ∀ T : Nat → Flow → Loc → Led → Prop, (∀ i f l d, Turn I it P R i f l d → T i f l d) → ∀ i v o loc led, i < n → val i v → P (i + 1) o → I i loc led → ∃ loc1, SetL x v loc loc1 ∧ Run C (execs body C.env) loc1 ((it, o) :: led) (T i))
    (done : ∀ loc led, I n loc led → R .next loc led) :
    ∀ k i o loc led, n - i = k → i ≤ n → P i o → I i loc led → RunC C (.forLoop (.Name x px) (.ref it) body [] C.env) loc ((it, o) :: led) R :=
  RunC.for hI I hside (fun i v o loc led a b c d => turn (Turn I it P R) (fun _ _ _ _ h => h) i v o loc led a b c d) done
/-- over range(n) -/
theorem RunC.forR {x : Str} {px : Pos} {body : List Stmt} {it : Addr} {side : Led → Prop} {P : Nat → Obj → Prop} {n : Nat} (hI : IterP C it side P n (fun i v => ∃ t, v = .int (0 + (i : Nat) * 1) t)) (I : Nat → Loc → Led → Prop) {R : Flow → Loc → Led → Prop}
    (hside : ∀ i loc led, I i loc led → side led)
    (turn : ∀ T : Nat → Flow → Loc → Led → Prop, (∀ i f l d, Turn I it P R i f l d → T i f l d) → ∀ (i : Nat) (t : Tok) (o : Obj) loc led, i < n → P (i + 1) o → I i loc led → ∃ loc1, SetL x (.int (i : Nat) t) loc loc1 ∧ Run C (execs body C.env) loc1 ((it, o) :: led) (T i))
    (done : ∀ loc led, I n loc led → R .next loc led) :
    ∀ k i o loc led, n - i = k → i ≤ n → P i o → I i loc led → RunC C (.forLoop (.Name x px) (.ref it) body [] C.env) loc ((it, o) :: led) R :=
  RunC.forT hI I hside (fun T hT i v o loc led a b c d => by
    obtain ⟨t, rfl⟩ := b
    rw [Int.zero_add, Int.mul_one]
    exact turn T hT i t o loc led a c d) done
theorem RunC.forAT {x : Str} {px : Pos} {body : List Stmt} {it : Addr} {side : Led → Prop} {P : Nat → Obj → Prop} {n : Nat} {val : Nat → Value → Prop} (hI : IterP C it side P n val) (I : Nat → Loc → Led → Prop) {R : Flow → Loc → Led → Prop}
    (hside : ∀ i loc led, I i loc led → side led)
    (turn : ∀ T : Nat → Flow → Loc → Led → Prop, (∀ i f l d, Turn I it P R i f l d → T i f l d) → ∀ i v o loc led, i < n → val i v → P (i + 1) o → I i loc led → Run C (assign (.Name x px) C.env v) loc ((it, o) :: led) (fun _ loc1 led1 => Run C (execs body C.env) loc1 led1 (T i)))
    (done : ∀ loc led, I n loc led → R .next loc led) :
    ∀ k i o loc led, n - i = k → i ≤ n → P i o → I i loc led → RunC C (.forLoop (.Name x px) (.ref it) body [] C.env) loc ((it, o) :: led) R :=
  RunC.forA hI I hside (fun i v o loc led a b c d => turn (Turn I it P R) (fun _ _ _ _ h => h) i v o loc led a b c d) done
theorem RunC.whileT {test : Expr} {body : List Stmt} (I : Nat → Loc → Led → Prop) {R : Flow → Loc → Led → Prop}
    (turn : ∀ T : Nat → Flow → Loc → Led → Prop, (∀ i f l d, TurnW I R i f l d → T i f l d) → ∀ m loc led, I m loc led → Run C (isTrue test C.env (eval test C.env)) loc led (fun b loc led => (b = true → Run C (execs body C.env) loc led (T m)) ∧ (b = false → R .next loc led))) :
    ∀ m loc led, I m loc led → RunC C (.whileLoop test body [] C.env) loc led R :=
  RunC.while I (fun m loc led h => turn (TurnW I R) (fun _ _ _ _ h => h) m loc led h)
theorem RunC.compGo0T {elt iter : Expr} {x : Str} {px : Pos} {scope : Scope} {pos : Pos} {it D : Addr} {side : Led → Prop} {P : Nat → Obj → Prop} {m : Nat} {val : Nat → Value → Prop} (hI : IterP C it side P m val)
    (I : Nat → List Value → Led → Prop) {R : Flow → Loc → Led → Prop} (hside : ∀ i items k led, I i items led → side ((D, lstObj items k) :: led)) (hmax : ∀ i items led, I i items led → items.length ≤ 1000)
    (turn : ∀ T : Nat → Value → List Value → Value → Loc → Led → Prop,
      (∀ i v items r loc led, (loc = [(x, some v)] ∧ ∃ o k led1 rest, Pick led ((it, o) :: (D, lstObj items k) :: led1) rest ∧ P (i + 1) o ∧ I (i + 1) (items ++ [r]) led1) → T i v items r loc led) →
      ∀ i v o k items led, i < m → val i v → P (i + 1) o → I i items led → Run C (eval elt C.env) [(x, some v)] ((it, o) :: (D, lstObj items k) :: led) (T i v items))
    (done : ∀ k (ov : Option Value) items led, I m items led → R .next [(x, ov)] ((D, lstObj items k) :: led)) {oi : Obj} (h0 : P 0 oi) (hi : I 0 [] led) :
    RunC C (.compStart (.ListComp elt [⟨.Name x px, iter, [], 0⟩] scope pos) 0 (.ref it) (.ref D) C.env) [(x, none)] ((D, lstObj [] 0) :: (it, oi) :: led) R :=
  RunC.compGo0 hI I hside hmax (fun i v o k items led a b c d => turn _ (fun _ _ _ _ _ _ h => h) i v o k items led a b c d) done h0 hi
theorem RunC.compGo1T {elt iter c : Expr} {x : Str} {px : Pos} {scope : Scope} {pos : Pos} {it D : Addr} {side : Led → Prop} {P : Nat → Obj → Prop} {m : Nat} {val : Nat → Value → Prop} (hI : IterP C it side P m val)
    (I : Nat → List Value → Led → Prop) {R : Flow → Loc → Led → Prop} (hside : ∀ i items k led, I i items led → side ((D, lstObj items k) :: led)) (hmax : ∀ i items led, I i items led → items.length ≤ 1000)
    (turn : ∀ (T : Nat → Value → List Value → Value → Loc → Led → Prop) (T' : Nat → Value → List Value → Loc → Led → Prop),
      (∀ i v items r loc led, (loc = [(x, some v)] ∧ ∃ o k led1 rest, Pick led ((it, o) :: (D, lstObj items k) :: led1) rest ∧ P (i + 1) o ∧ I (i + 1) (items ++ [r]) led1) → T i v items r loc led) →
      (∀ i v items loc led, (loc = [(x, some v)] ∧ ∃ o k led1 rest, Pick led ((it, o) :: (D, lstObj items k) :: led1) rest ∧ P (i + 1) o ∧ I (i + 1) items led1) → T' i v items loc led) →
      ∀ i v o k items led, i < m → val i v → P (i + 1) o → I i items led → Run C (isTrue c C.env (eval c C.env)) [(x, some v)] ((it, o) :: (D, lstObj items k) :: led)
      (fun ok loc led => (ok = true → Run C (eval elt C.env) loc led (T i v items)) ∧ (ok = false → T' i v items loc led)))
    (done : ∀ k (ov : Option Value) items led, I m items led → R .next [(x, ov)] ((D, lstObj items k) :: led)) {oi : Obj} (h0 : P 0 oi) (hi : I 0 [] led) :
    RunC C (.compStart (.ListComp elt [⟨.Name x px, iter, [c], 0⟩] scope pos) 0 (.ref it) (.ref D) C.env) [(x, none)] ((D, lstObj [] 0) :: (it, oi) :: led) R :=
  RunC.compGo1 hI I hside hmax (fun i v o k items led a b c d => turn _ _ (fun _ _ _ _ _ _ h => h) (fun _ _ _ _ _ h => h) i v o k items led a b c d) done h0 hi
theorem rng0 {i : Nat} {v : Value} (h : ∃ t, v = .int (0 + (i : Nat) * 1) t) : ∃ t, v = .int (i : Nat) t := by
  rw [Int.zero_add, Int.mul_one] at h
  exact h
/-- a call that gives a number back, its objects as they were -/
theorem run_callI {fv : Value} {args : List Value} {kw : List (Str × Value)} {fp rest : Led} {N : Int} {n : Nat} {Q : Value → Loc → Led → Prop}
    (hC : C.Is prog w K m sc) (hs : CallP prog w K fv args kw n fp (fun v led' => (∃ t, v = .int N t) ∧ led' = fp)) (hn : Nat.ble n m = true) (hp : Pick led fp rest) (h : ∀ t, Q (.int N t) loc led) : Run C (call fv args kw) loc led Q :=
  run_call0 hC hs hn hp fun v ⟨t, e⟩ => e ▸ h t
/-- a call that gives nothing back -/
theorem run_callN {fv : Value} {args : List Value} {kw : List (Str × Value)} {fp rest : Led} {u : Value} {n : Nat} {Q : Value → Loc → Led → Prop}
    (hC : C.Is prog w K m sc) (hs : CallP prog w K fv args kw n fp (fun v led' => v = u ∧ led' = fp)) (hn : Nat.ble n m = true) (hp : Pick led fp rest) (h : Q u loc led) : Run C (call fv args kw) loc led Q :=
  run_call0 hC hs hn hp fun v e => e ▸ h
end
/-! openings by one rule -/
section
theorem ex2 {A1 A2 : Type} {p : A1 → A2 → Prop} {G : Prop} (h : ∃ a1 a2, p a1 a2) (f : ∀ a1 a2, p a1 a2 → G) : G :=
  h.elim fun a1 h => h.elim fun a2 h => f a1 a2 h
theorem ex3 {A1 A2 A3 : Type} {p : A1 → A2 → A3 → Prop} {G : Prop} (h : ∃ a1 a2 a3, p a1 a2 a3) (f : ∀ a1 a2 a3, p a1 a2 a3 → G) : G :=
  h.elim fun a1 h => h.elim fun a2 h => h.elim fun a3 h => f a1 a2 a3 h
theorem ex5 {A1 A2 A3 A4 A5 : Type} {p : A1 → A2 → A3 → A4 → A5 → Prop} {G : Prop} (h : ∃ a1 a2 a3 a4 a5, p a1 a2 a3 a4 a5) (f : ∀ a1 a2 a3 a4 a5, p a1 a2 a3 a4 a5 → G) : G :=
  h.elim fun a1 h => h.elim fun a2 h => h.elim fun a3 h => h.elim fun a4 h => h.elim fun a5 h => f a1 a2 a3 a4 a5 h
theorem ex7 {A1 A2 A3 A4 A5 A6 A7 : Type} {p : A1 → A2 → A3 → A4 → A5 → A6 → A7 → Prop} {G : Prop} (h : ∃ a1 a2 a3 a4 a5 a6 a7, p a1 a2 a3 a4 a5 a6 a7) (f : ∀ a1 a2 a3 a4 a5 a6 a7, p a1 a2 a3 a4 a5 a6 a7 → G) : G :=
  h.elim fun a1 h => h.elim fun a2 h => h.elim fun a3 h => h.elim fun a4 h => h.elim fun a5 h => h.elim fun a6 h => h.elim fun a7 h => f a1 a2 a3 a4 a5 a6 a7 h
theorem ex8 {A1 A2 A3 A4 A5 A6 A7 A8 : Type} {p : A1 → A2 → A3 → A4 → A5 → A6 → A7 → A8 → Prop} {G : Prop} (h : ∃ a1 a2 a3 a4 a5 a6 a7 a8, p a1 a2 a3 a4 a5 a6 a7 a8) (f : ∀ a1 a2 a3 a4 a5 a6 a7 a8, p a1 a2 a3 a4 a5 a6 a7 a8 → G) : G :=
  h.elim fun a1 h => h.elim fun a2 h => h.elim fun a3 h => h.elim fun a4 h => h.elim fun a5 h => h.elim fun a6 h => h.elim fun a7 h => h.elim fun a8 h => f a1 a2 a3 a4 a5 a6 a7 a8 h
theorem ex9 {A1 A2 A3 A4 A5 A6 A7 A8 A9 : Type} {p : A1 → A2 → A3 → A4 → A5 → A6 → A7 → A8 → A9 → Prop} {G : Prop} (h : ∃ a1 a2 a3 a4 a5 a6 a7 a8 a9, p a1 a2 a3 a4 a5 a6 a7 a8 a9) (f : ∀ a1 a2 a3 a4 a5 a6 a7 a8 a9, p a1 a2 a3 a4 a5 a6 a7 a8 a9 → G) : G :=
  h.elim fun a1 h => h.elim fun a2 h => h.elim fun a3 h => h.elim fun a4 h => h.elim fun a5 h => h.elim fun a6 h => h.elim fun a7 h => h.elim fun a8 h => h.elim fun a9 h => f a1 a2 a3 a4 a5 a6 a7 a8 a9 h
theorem ex11 {A1 A2 A3 A4 A5 A6 A7 A8 A9 A10 A11 : Type} {p : A1 → A2 → A3 → A4 → A5 → A6 → A7 → A8 → A9 → A10 → A11 → Prop} {G : Prop} (h : ∃ a1 a2 a3 a4 a5 a6 a7 a8 a9 a10 a11, p a1 a2 a3 a4 a5 a6 a7 a8 a9 a10 a11) (f : ∀ a1 a2 a3 a4 a5 a6 a7 a8 a9 a10 a11, p a1 a2 a3 a4 a5 a6 a7 a8 a9 a10 a11 → G) : G :=
  h.elim fun a1 h => h.elim fun a2 h => h.elim fun a3 h => h.elim fun a4 h => h.elim fun a5 h => h.elim fun a6 h => h.elim fun a7 h => h.elim fun a8 h => h.elim fun a9 h => h.elim fun a10 h => h.elim fun a11 h => f a1 a2 a3 a4 a5 a6 a7 a8 a9 a10 a11 h
theorem ex12 {A1 A2 A3 A4 A5 A6 A7 A8 A9 A10 A11 A12 : Type} {p : A1 → A2 → A3 → A4 → A5 → A6 → A7 → A8 → A9 → A10 → A11 → A12 → Prop} {G : Prop} (h : ∃ a1 a2 a3 a4 a5 a6 a7 a8 a9 a10 a11 a12, p a1 a2 a3 a4 a5 a6 a7 a8 a9 a10 a11 a12) (f : ∀ a1 a2 a3 a4 a5 a6 a7 a8 a9 a10 a11 a12, p a1 a2 a3 a4 a5 a6 a7 a8 a9 a10 a11 a12 → G) : G :=
  h.elim fun a1 h => h.elim fun a2 h => h.elim fun a3 h => h.elim fun a4 h => h.elim fun a5 h => h.elim fun a6 h => h.elim fun a7 h => h.elim fun a8 h => h.elim fun a9 h => h.elim fun a10 h => h.elim fun a11 h => h.elim fun a12 h => f a1 a2 a3 a4 a5 a6 a7 a8 a9 a10 a11 a12 h
theorem ex15 {A1 A2 A3 A4 A5 A6 A7 A8 A9 A10 A11 A12 A13 A14 A15 : Type} {p : A1 → A2 → A3 → A4 → A5 → A6 → A7 → A8 → A9 → A10 → A11 → A12 → A13 → A14 → A15 → Prop} {G : Prop} (h : ∃ a1 a2 a3 a4 a5 a6 a7 a8 a9 a10 a11 a12 a13 a14 a15, p a1 a2 a3 a4 a5 a6 a7 a8 a9 a10 a11 a12 a13 a14 a15) (f : ∀ a1 a2 a3 a4 a5 a6 a7 a8 a9 a10 a11 a12 a13 a14 a15, p a1 a2 a3 a4 a5 a6 a7 a8 a9 a10 a11 a12 a13 a14 a15 → G) : G :=
  h.elim fun a1 h => h.elim fun a2 h => h.elim fun a3 h => h.elim fun a4 h => h.elim fun a5 h => h.elim fun a6 h => h.elim fun a7 h => h.elim fun a8 h => h.elim fun a9 h => h.elim fun a10 h => h.elim fun a11 h => h.elim fun a12 h => h.elim fun a13 h => h.elim fun a14 h => h.elim fun a15 h => f a1 a2 a3 a4 a5 a6 a7 a8 a9 a10 a11 a12 a13 a14 a15 h
@[elab_as_elim] theorem andL0 {L0 L : Loc} {D0 D : Led} {G : Loc → Led → Prop} (h : L0 = L ∧ D0 = D) (f : G L D) : G L0 D0 := by
  obtain ⟨rfl, rfl⟩ := h
  exact f 
@[elab_as_elim] theorem andL1 {p1 : Prop} {L0 L : Loc} {D0 D : Led} {G : Loc → Led → Prop} (h : p1 ∧ L0 = L ∧ D0 = D) (f : p1 → G L D) : G L0 D0 := by
  obtain ⟨h1, rfl, rfl⟩ := h
  exact f h1
@[elab_as_elim] theorem andL2 {p1 p2 : Prop} {L0 L : Loc} {D0 D : Led} {G : Loc → Led → Prop} (h : p1 ∧ p2 ∧ L0 = L ∧ D0 = D) (f : p1 → p2 → G L D) : G L0 D0 := by
  obtain ⟨h1, h2, rfl, rfl⟩ := h
  exact f h1 h2
@[elab_as_elim] theorem andL3 {p1 p2 p3 : Prop} {L0 L : Loc} {D0 D : Led} {G : Loc → Led → Prop} (h : p1 ∧ p2 ∧ p3 ∧ L0 = L ∧ D0 = D) (f : p1 → p2 → p3 → G L D) : G L0 D0 := by
  obtain ⟨h1, h2, h3, rfl, rfl⟩ := h
  exact f h1 h2 h3
@[elab_as_elim] theorem andL4 {p1 p2 p3 p4 : Prop} {L0 L : Loc} {D0 D : Led} {G : Loc → Led → Prop} (h : p1 ∧ p2 ∧ p3 ∧ p4 ∧ L0 = L ∧ D0 = D) (f : p1 → p2 → p3 → p4 → G L D) : G L0 D0 := by
  obtain ⟨h1, h2, h3, h4, rfl, rfl⟩ := h
  exact f h1 h2 h3 h4
@[elab_as_elim] theorem andL5 {p1 p2 p3 p4 p5 : Prop} {L0 L : Loc} {D0 D : Led} {G : Loc → Led → Prop} (h : p1 ∧ p2 ∧ p3 ∧ p4 ∧ p5 ∧ L0 = L ∧ D0 = D) (f : p1 → p2 → p3 → p4 → p5 → G L D) : G L0 D0 := by
  obtain ⟨h1, h2, h3, h4, h5, rfl, rfl⟩ := h
  exact f h1 h2 h3 h4 h5
end
end Fb

/-! K0 -/
namespace Fb
/-- a statement by its place -/
def nthS : List Stmt → Nat → Stmt
  | a :: _, 0 => a
  | _ :: r, n + 1 => nthS r n
  | [], _ => default
def clsBody : Stmt → List Stmt
  | .ClassDef _ _ _ b _ _ _ _ _ _ _ => b
  | _ => []
/-- what a def's statement lays -/
def fnAt (s : Stmt) (qual : Str) (dV kV doc pm : Value) (an : Option Addr) (cdv ct : Value) : Data := match s with
  | .FunctionDef n a b _ _ _ sc _ _ _ => .func (fnOf n qual a b sc dV kV doc pm an cdv ct)
  | _ => .freed
def mainB : List Stmt := PySem.Challenge.pw_ef5003_01.main.body
/-- nought; a word of its own in the written part -/
def naught : Nat := (fun _ => 0) (Str.ofString "naught")
noncomputable def myK : Params → Frag := fun P => (fun (_ : naught = 0) =>
  (nat_lit 2, ⟨.none, none, (.dict (⟨PyData.keyHash P (Str.ofString "i\x6dport.loaded._struct"), (.str (Str.ofString "i\x6dport.loaded._struct") 186), (.bool true)⟩ :: ⟨PyData.keyHash P (Str.ofString "class._frozen_importlib_external._LoaderBasics"), (.str (Str.ofString "class._frozen_importlib_external._LoaderBasics") 191), (.ref 16)⟩ :: ⟨PyData.keyHash P (Str.ofString "watched.i\x6dport"), (.str (Str.ofString "watched.i\x6dport") 207), (.ref 20)⟩ :: ⟨PyData.keyHash P (Str.ofString "class._frozen_importlib_external.FileLoader"), (.str (Str.ofString "class._frozen_importlib_external.FileLoader") 208), (.ref 22)⟩ :: ⟨PyData.keyHash P (Str.ofString "class._frozen_importlib_external.ExtensionFileLoader"), (.str (Str.ofString "class._frozen_importlib_external.ExtensionFileLoader") 229), (.ref 27)⟩ :: ⟨PyData.keyHash P (Str.ofString "class._frozen_importlib.ModuleSpec"), (.str (Str.ofString "class._frozen_importlib.ModuleSpec") 257), (.ref 33)⟩ :: ⟨PyData.keyHash P (Str.ofString "sys.modules.booked-epoch"), (.str (Str.ofString "sys.modules.booked-epoch") 286), (.int 3 0)⟩ :: ⟨PyData.keyHash P (Str.ofString "class.struct.error"), (.str (Str.ofString "class.struct.error") 303), (.type "struct.error")⟩ :: ⟨PyData.keyHash P (Str.ofString "i\x6dport.later-laid._struct"), (.str (Str.ofString "i\x6dport.later-laid._struct") 305), (.bool true)⟩ :: ⟨PyData.keyHash P (Str.ofString "watched.library"), (.str (Str.ofString "watched.library") 307), (.ref 38)⟩ :: ⟨PyData.keyHash P (Str.ofString "watched.library-objects"), (.str (Str.ofString "watched.library-objects") 0), (.str (Str.ofString "\x0d") 0)⟩ :: []).toArray 11), [].toArray⟩) ::
  (nat_lit 3, ⟨(.type "dict"), none, (.dict (⟨PyData.keyHash P (Str.ofString "__name__"), (.str (Str.ofString "__name__") 165), (.str (Str.ofString "law_ef5003_01") 1363)⟩ :: ⟨PyData.keyHash P (Str.ofString "__doc__"), (.str (Str.ofString "__doc__") 166), .none⟩ :: ⟨PyData.keyHash P (Str.ofString "__package__"), (.str (Str.ofString "__package__") 167), .none⟩ :: ⟨PyData.keyHash P (Str.ofString "__loader__"), (.str (Str.ofString "__loader__") 168), (.builtin "__main__.__loader__#opaque")⟩ :: ⟨PyData.keyHash P (Str.ofString "__spec__"), (.str (Str.ofString "__spec__") 169), .none⟩ :: ⟨PyData.keyHash P (Str.ofString "__annotations__"), (.str (Str.ofString "__annotations__") 170), (.ref 6)⟩ :: ⟨PyData.keyHash P (Str.ofString "__builtins__"), (.str (Str.ofString "__builtins__") 171), (.ref 4)⟩ :: ⟨PyData.keyHash P (Str.ofString "__file__"), (.str (Str.ofString "__file__") 173), (.str (Str.ofString "/claim/cut.py") 172)⟩ :: ⟨PyData.keyHash P (Str.ofString "__cached__"), (.str (Str.ofString "__cached__") 174), .none⟩ :: ⟨PyData.keyHash P (Str.ofString "Struct"), (.str (Str.ofString "Struct") 313), (.type "_struct.Struct")⟩ :: ⟨PyData.keyHash P (Str.ofString "unpack"), (.str (Str.ofString "unpack") 316), (.builtin "_struct.unpack")⟩ :: ⟨PyData.keyHash P (Str.ofString "_wall"), (.str (Str.ofString "_wall") 329), (.ref 49)⟩ :: ⟨PyData.keyHash P (Str.ofString "uint8"), (.str (Str.ofString "uint8") 334), (.ref 50)⟩ :: ⟨PyData.keyHash P (Str.ofString "uint16"), (.str (Str.ofString "uint16") 337), (.ref 51)⟩ :: ⟨PyData.keyHash P (Str.ofString "uint32"), (.str (Str.ofString "uint32") 340), (.ref 52)⟩ :: ⟨PyData.keyHash P (Str.ofString "int32"), (.str (Str.ofString "int32") 343), (.ref 53)⟩ :: ⟨PyData.keyHash P (Str.ofString "uoffset"), (.str (Str.ofString "uoffset") 344), (.ref 52)⟩ :: ⟨PyData.keyHash P (Str.ofString "soffset"), (.str (Str.ofString "soffset") 345), (.ref 53)⟩ :: ⟨PyData.keyHash P (Str.ofString "Uint8Flags"), (.str (Str.ofString "Uint8Flags") 381), (.ref 63)⟩ :: ⟨PyData.keyHash P (Str.ofString "Uint16Flags"), (.str (Str.ofString "Uint16Flags") 415), (.ref 77)⟩ :: ⟨PyData.keyHash P (Str.ofString "Uint32Flags"), (.str (Str.ofString "Uint32Flags") 449), (.ref 91)⟩ :: ⟨PyData.keyHash P (Str.ofString "Int32Flags"), (.str (Str.ofString "Int32Flags") 486), (.ref 105)⟩ :: ⟨PyData.keyHash P (Str.ofString "SOffsetTFlags"), (.str (Str.ofString "SOffsetTFlags") 502), (.ref 119)⟩ :: ⟨PyData.keyHash P (Str.ofString "UOffsetTFlags"), (.str (Str.ofString "UOffsetTFlags") 518), (.ref 131)⟩ :: ⟨PyData.keyHash P (Str.ofString "VOffsetTFlags"), (.str (Str.ofString "VOffsetTFlags") 534), (.ref 143)⟩ :: ⟨PyData.keyHash P (Str.ofString "enforce_number"), (.str (Str.ofString "enforce_number") 542), (.ref 152)⟩ :: ⟨PyData.keyHash P (Str.ofString "FILE_IDENTIFIER_LENGTH"), (.str (Str.ofString "FILE_IDENTIFIER_LENGTH") 546), (.int 4 545)⟩ :: ⟨PyData.keyHash P (Str.ofString "Get"), (.str (Str.ofString "Get") 555), (.ref 159)⟩ :: ⟨PyData.keyHash P (Str.ofString "Get_encode"), (.str (Str.ofString "Get_encode") 556), (.ref 159)⟩ :: ⟨PyData.keyHash P (Str.ofString "Write"), (.str (Str.ofString "Write") 566), (.ref 166)⟩ :: ⟨PyData.keyHash P (Str.ofString "Table"), (.str (Str.ofString "Table") 682), (.ref 248)⟩ :: ⟨PyData.keyHash P (Str.ofString "OffsetArithmeticError"), (.str (Str.ofString "OffsetArithmeticError") 702), (.ref 262)⟩ :: ⟨PyData.keyHash P (Str.ofString "IsNotNestedError"), (.str (Str.ofString "IsNotNestedError") 720), (.ref 275)⟩ :: ⟨PyData.keyHash P (Str.ofString "IsNestedError"), (.str (Str.ofString "IsNestedError") 738), (.ref 288)⟩ :: ⟨PyData.keyHash P (Str.ofString "BuilderSizeError"), (.str (Str.ofString "BuilderSizeError") 756), (.ref 301)⟩ :: ⟨PyData.keyHash P (Str.ofString "BuilderNotFinishedError"), (.str (Str.ofString "BuilderNotFinishedError") 774), (.ref 314)⟩ :: ⟨PyData.keyHash P (Str.ofString "EndVectorLengthMismatched"), (.str (Str.ofString "EndVectorLengthMismatched") 792), (.ref 327)⟩ :: ⟨PyData.keyHash P (Str.ofString "VtableMetadataFields"), (.str (Str.ofString "VtableMetadataFields") 794), (.int 2 793)⟩ :: ⟨PyData.keyHash P (Str.ofString "Builder"), (.str (Str.ofString "Builder") 1339), (.ref 732)⟩ :: ⟨PyData.keyHash P (Str.ofString "GetBufferIdentifier"), (.str (Str.ofString "GetBufferIdentifier") 1351), (.ref 753)⟩ :: ⟨PyData.keyHash P (Str.ofString "BufferHasIdentifier"), (.str (Str.ofString "BufferHasIdentifier") 1362), (.ref 761)⟩ :: ⟨PyData.keyHash P (Str.ofString "_law_row"), (.str (Str.ofString "_law_row") 1373), (.ref 768)⟩ :: ⟨PyData.keyHash P (Str.ofString "_law_need"), (.str (Str.ofString "_law_need") 1380), (.ref 775)⟩ :: ⟨PyData.keyHash P (Str.ofString "_law_image"), (.str (Str.ofString "_law_image") 1386), (.ref 780)⟩ :: ⟨PyData.keyHash P (Str.ofString "_law_open"), (.str (Str.ofString "_law_open") 1392), (.ref 785)⟩ :: ⟨PyData.keyHash P (Str.ofString "_law_at"), (.str (Str.ofString "_law_at") 1401), (.ref 792)⟩ :: ⟨PyData.keyHash P (Str.ofString "_law_set"), (.str (Str.ofString "_law_set") 1411), (.ref 799)⟩ :: ⟨PyData.keyHash P (Str.ofString "_law_find"), (.str (Str.ofString "_law_find") 1421), (.ref 806)⟩ :: ⟨PyData.keyHash P (Str.ofString "_law_chain"), (.str (Str.ofString "_law_chain") 1433), (.ref 813)⟩ :: ⟨PyData.keyHash P (Str.ofString "_law_content"), (.str (Str.ofString "_law_content") 1439), (.ref 818)⟩ :: ⟨PyData.keyHash P (Str.ofString "_law_drop"), (.str (Str.ofString "_law_drop") 1449), (.ref 825)⟩ :: ⟨PyData.keyHash P (Str.ofString "_law_put"), (.str (Str.ofString "_law_put") 1455), (.ref 830)⟩ :: ⟨PyData.keyHash P (Str.ofString "_law_sound"), (.str (Str.ofString "_law_sound") 1461), (.ref 835)⟩ :: ⟨PyData.keyHash P (Str.ofString "_law_fits"), (.str (Str.ofString "_law_fits") 1467), (.ref 840)⟩ :: ⟨PyData.keyHash P (Str.ofString "_law_listed"), (.str (Str.ofString "_law_listed") 1473), (.ref 845)⟩ :: ⟨PyData.keyHash P (Str.ofString "law"), (.str (Str.ofString "law") 1479), (.ref 850)⟩ :: []).toArray 56), [].toArray⟩) ::
  (nat_lit 50, ⟨(.type "_struct.Struct"), none, (.fields [(.bytes [60, 66].toArray 333)].toArray), [].toArray⟩) ::
  (nat_lit 51, ⟨(.type "_struct.Struct"), none, (.fields [(.bytes [60, 72].toArray 336)].toArray), [].toArray⟩) ::
  (nat_lit 52, ⟨(.type "_struct.Struct"), none, (.fields [(.bytes [60, 73].toArray 339)].toArray), [].toArray⟩) ::
  (nat_lit 53, ⟨(.type "_struct.Struct"), none, (.fields [(.bytes [60, 105].toArray 342)].toArray), [].toArray⟩) ::
  (nat_lit 62, ⟨(.type "dict"), none, (.dict (⟨PyData.keyHash P (Str.ofString "__module__"), (.str (Str.ofString "__module__") 355), (.str (Str.ofString "flatbuffers.number_types") 346)⟩ :: ⟨PyData.keyHash P (Str.ofString "__firstlineno__"), (.str (Str.ofString "__firstlineno__") 359), (.int 13 358)⟩ :: ⟨PyData.keyHash P (Str.ofString "bytewidth"), (.str (Str.ofString "bytewidth") 361), (.int 1 360)⟩ :: ⟨PyData.keyHash P (Str.ofString "min_val"), (.str (Str.ofString "min_val") 363), (.int 0 362)⟩ :: ⟨PyData.keyHash P (Str.ofString "max_val"), (.str (Str.ofString "max_val") 369), (.int 255 368)⟩ :: ⟨PyData.keyHash P (Str.ofString "py_type"), (.str (Str.ofString "py_type") 370), (.type "int")⟩ :: ⟨PyData.keyHash P (Str.ofString "name"), (.str (Str.ofString "name") 372), (.str (Str.ofString "uint8") 371)⟩ :: ⟨PyData.keyHash P (Str.ofString "packer_type"), (.str (Str.ofString "packer_type") 373), (.ref 50)⟩ :: ⟨PyData.keyHash P (Str.ofString "__static_attributes__"), (.str (Str.ofString "__static_attributes__") 374), (.ref 61)⟩ :: ⟨PyData.keyHash P (Str.ofString "__dict__"), (.str (Str.ofString "__dict__") 376), (.ref 64)⟩ :: ⟨PyData.keyHash P (Str.ofString "__weakref__"), (.str (Str.ofString "__weakref__") 378), (.ref 65)⟩ :: ⟨PyData.keyHash P (Str.ofString "__doc__"), (.str (Str.ofString "__doc__") 379), .none⟩ :: []).toArray 4), [].toArray⟩) ::
  (nat_lit 63, ⟨(.type "type"), none, (.cls ⟨(Str.ofString "Uint8Flags"), [(.type "object")], [(.ref 63), (.type "object")], 62, (Str.ofString "Uint8Flags"), true, [], [], false, none, false⟩), [(some (.ref 54)), none, (some (.str (Str.ofString "Uint8Flags") 348)), (some (.str (Str.ofString "Uint8Flags") 356)), (some (.builtin "object.__new__")), (some (.bool true))].toArray⟩) ::
  (nat_lit 76, ⟨(.type "dict"), none, (.dict (⟨PyData.keyHash P (Str.ofString "__module__"), (.str (Str.ofString "__module__") 389), (.str (Str.ofString "flatbuffers.number_types") 346)⟩ :: ⟨PyData.keyHash P (Str.ofString "__firstlineno__"), (.str (Str.ofString "__firstlineno__") 393), (.int 20 392)⟩ :: ⟨PyData.keyHash P (Str.ofString "bytewidth"), (.str (Str.ofString "bytewidth") 395), (.int 2 394)⟩ :: ⟨PyData.keyHash P (Str.ofString "min_val"), (.str (Str.ofString "min_val") 397), (.int 0 396)⟩ :: ⟨PyData.keyHash P (Str.ofString "max_val"), (.str (Str.ofString "max_val") 403), (.int 65535 402)⟩ :: ⟨PyData.keyHash P (Str.ofString "py_type"), (.str (Str.ofString "py_type") 404), (.type "int")⟩ :: ⟨PyData.keyHash P (Str.ofString "name"), (.str (Str.ofString "name") 406), (.str (Str.ofString "uint16") 405)⟩ :: ⟨PyData.keyHash P (Str.ofString "packer_type"), (.str (Str.ofString "packer_type") 407), (.ref 51)⟩ :: ⟨PyData.keyHash P (Str.ofString "__static_attributes__"), (.str (Str.ofString "__static_attributes__") 408), (.ref 75)⟩ :: ⟨PyData.keyHash P (Str.ofString "__dict__"), (.str (Str.ofString "__dict__") 410), (.ref 78)⟩ :: ⟨PyData.keyHash P (Str.ofString "__weakref__"), (.str (Str.ofString "__weakref__") 412), (.ref 79)⟩ :: ⟨PyData.keyHash P (Str.ofString "__doc__"), (.str (Str.ofString "__doc__") 413), .none⟩ :: []).toArray 4), [].toArray⟩) ::
  (nat_lit 77, ⟨(.type "type"), none, (.cls ⟨(Str.ofString "Uint16Flags"), [(.type "object")], [(.ref 77), (.type "object")], 76, (Str.ofString "Uint16Flags"), true, [], [(.ref 143)], false, none, false⟩), [(some (.ref 68)), none, (some (.str (Str.ofString "Uint16Flags") 382)), (some (.str (Str.ofString "Uint16Flags") 390)), (some (.builtin "object.__new__")), (some (.bool true))].toArray⟩) ::
  (nat_lit 90, ⟨(.type "dict"), none, (.dict (⟨PyData.keyHash P (Str.ofString "__module__"), (.str (Str.ofString "__module__") 423), (.str (Str.ofString "flatbuffers.number_types") 346)⟩ :: ⟨PyData.keyHash P (Str.ofString "__firstlineno__"), (.str (Str.ofString "__firstlineno__") 427), (.int 27 426)⟩ :: ⟨PyData.keyHash P (Str.ofString "bytewidth"), (.str (Str.ofString "bytewidth") 429), (.int 4 428)⟩ :: ⟨PyData.keyHash P (Str.ofString "min_val"), (.str (Str.ofString "min_val") 431), (.int 0 430)⟩ :: ⟨PyData.keyHash P (Str.ofString "max_val"), (.str (Str.ofString "max_val") 437), (.int 4294967295 436)⟩ :: ⟨PyData.keyHash P (Str.ofString "py_type"), (.str (Str.ofString "py_type") 438), (.type "int")⟩ :: ⟨PyData.keyHash P (Str.ofString "name"), (.str (Str.ofString "name") 440), (.str (Str.ofString "uint32") 439)⟩ :: ⟨PyData.keyHash P (Str.ofString "packer_type"), (.str (Str.ofString "packer_type") 441), (.ref 52)⟩ :: ⟨PyData.keyHash P (Str.ofString "__static_attributes__"), (.str (Str.ofString "__static_attributes__") 442), (.ref 89)⟩ :: ⟨PyData.keyHash P (Str.ofString "__dict__"), (.str (Str.ofString "__dict__") 444), (.ref 92)⟩ :: ⟨PyData.keyHash P (Str.ofString "__weakref__"), (.str (Str.ofString "__weakref__") 446), (.ref 93)⟩ :: ⟨PyData.keyHash P (Str.ofString "__doc__"), (.str (Str.ofString "__doc__") 447), .none⟩ :: []).toArray 4), [].toArray⟩) ::
  (nat_lit 91, ⟨(.type "type"), none, (.cls ⟨(Str.ofString "Uint32Flags"), [(.type "object")], [(.ref 91), (.type "object")], 90, (Str.ofString "Uint32Flags"), true, [], [(.ref 131)], false, none, false⟩), [(some (.ref 82)), none, (some (.str (Str.ofString "Uint32Flags") 416)), (some (.str (Str.ofString "Uint32Flags") 424)), (some (.builtin "object.__new__")), (some (.bool true))].toArray⟩) ::
  (nat_lit 104, ⟨(.type "dict"), none, (.dict (⟨PyData.keyHash P (Str.ofString "__module__"), (.str (Str.ofString "__module__") 457), (.str (Str.ofString "flatbuffers.number_types") 346)⟩ :: ⟨PyData.keyHash P (Str.ofString "__firstlineno__"), (.str (Str.ofString "__firstlineno__") 461), (.int 34 460)⟩ :: ⟨PyData.keyHash P (Str.ofString "bytewidth"), (.str (Str.ofString "bytewidth") 463), (.int 4 462)⟩ :: ⟨PyData.keyHash P (Str.ofString "min_val"), (.str (Str.ofString "min_val") 468), (.int (-2147483648) 467)⟩ :: ⟨PyData.keyHash P (Str.ofString "max_val"), (.str (Str.ofString "max_val") 474), (.int 2147483647 473)⟩ :: ⟨PyData.keyHash P (Str.ofString "py_type"), (.str (Str.ofString "py_type") 475), (.type "int")⟩ :: ⟨PyData.keyHash P (Str.ofString "name"), (.str (Str.ofString "name") 477), (.str (Str.ofString "int32") 476)⟩ :: ⟨PyData.keyHash P (Str.ofString "packer_type"), (.str (Str.ofString "packer_type") 478), (.ref 53)⟩ :: ⟨PyData.keyHash P (Str.ofString "__static_attributes__"), (.str (Str.ofString "__static_attributes__") 479), (.ref 103)⟩ :: ⟨PyData.keyHash P (Str.ofString "__dict__"), (.str (Str.ofString "__dict__") 481), (.ref 106)⟩ :: ⟨PyData.keyHash P (Str.ofString "__weakref__"), (.str (Str.ofString "__weakref__") 483), (.ref 107)⟩ :: ⟨PyData.keyHash P (Str.ofString "__doc__"), (.str (Str.ofString "__doc__") 484), .none⟩ :: []).toArray 4), [].toArray⟩) ::
  (nat_lit 105, ⟨(.type "type"), none, (.cls ⟨(Str.ofString "Int32Flags"), [(.type "object")], [(.ref 105), (.type "object")], 104, (Str.ofString "Int32Flags"), true, [], [(.ref 119)], false, none, false⟩), [(some (.ref 96)), none, (some (.str (Str.ofString "Int32Flags") 450)), (some (.str (Str.ofString "Int32Flags") 458)), (some (.builtin "object.__new__")), (some (.bool true))].toArray⟩) ::
  (nat_lit 118, ⟨(.type "dict"), none, (.dict [⟨PyData.keyHash P (Str.ofString "__module__"), (.str (Str.ofString "__module__") 494), (.str (Str.ofString "flatbuffers.number_types") 346)⟩, ⟨PyData.keyHash P (Str.ofString "__firstlineno__"), (.str (Str.ofString "__firstlineno__") 498), (.int 41 497)⟩, ⟨PyData.keyHash P (Str.ofString "__static_attributes__"), (.str (Str.ofString "__static_attributes__") 499), (.ref 117)⟩, ⟨PyData.keyHash P (Str.ofString "__doc__"), (.str (Str.ofString "__doc__") 500), .none⟩].toArray 2), [].toArray⟩) ::
  (nat_lit 119, ⟨(.type "type"), none, (.cls ⟨(Str.ofString "SOffsetTFlags"), [(.ref 105)], [(.ref 119), (.ref 105), (.type "object")], 118, (Str.ofString "SOffsetTFlags"), true, [], [], false, none, false⟩), [(some (.ref 110)), none, (some (.str (Str.ofString "SOffsetTFlags") 487)), (some (.str (Str.ofString "SOffsetTFlags") 495)), (some (.builtin "object.__new__")), (some (.bool true))].toArray⟩) ::
  (nat_lit 130, ⟨(.type "dict"), none, (.dict [⟨PyData.keyHash P (Str.ofString "__module__"), (.str (Str.ofString "__module__") 510), (.str (Str.ofString "flatbuffers.number_types") 346)⟩, ⟨PyData.keyHash P (Str.ofString "__firstlineno__"), (.str (Str.ofString "__firstlineno__") 514), (.int 43 513)⟩, ⟨PyData.keyHash P (Str.ofString "__static_attributes__"), (.str (Str.ofString "__static_attributes__") 515), (.ref 129)⟩, ⟨PyData.keyHash P (Str.ofString "__doc__"), (.str (Str.ofString "__doc__") 516), .none⟩].toArray 2), [].toArray⟩) ::
  (nat_lit 131, ⟨(.type "type"), none, (.cls ⟨(Str.ofString "UOffsetTFlags"), [(.ref 91)], [(.ref 131), (.ref 91), (.type "object")], 130, (Str.ofString "UOffsetTFlags"), true, [], [], false, none, false⟩), [(some (.ref 122)), none, (some (.str (Str.ofString "UOffsetTFlags") 503)), (some (.str (Str.ofString "UOffsetTFlags") 511)), (some (.builtin "object.__new__")), (some (.bool true))].toArray⟩) ::
  (nat_lit 142, ⟨(.type "dict"), none, (.dict [⟨PyData.keyHash P (Str.ofString "__module__"), (.str (Str.ofString "__module__") 526), (.str (Str.ofString "flatbuffers.number_types") 346)⟩, ⟨PyData.keyHash P (Str.ofString "__firstlineno__"), (.str (Str.ofString "__firstlineno__") 530), (.int 45 529)⟩, ⟨PyData.keyHash P (Str.ofString "__static_attributes__"), (.str (Str.ofString "__static_attributes__") 531), (.ref 141)⟩, ⟨PyData.keyHash P (Str.ofString "__doc__"), (.str (Str.ofString "__doc__") 532), .none⟩].toArray 2), [].toArray⟩) ::
  (nat_lit 143, ⟨(.type "type"), none, (.cls ⟨(Str.ofString "VOffsetTFlags"), [(.ref 77)], [(.ref 143), (.ref 77), (.type "object")], 142, (Str.ofString "VOffsetTFlags"), true, [], [], false, none, false⟩), [(some (.ref 134)), none, (some (.str (Str.ofString "VOffsetTFlags") 519)), (some (.str (Str.ofString "VOffsetTFlags") 527)), (some (.builtin "object.__new__")), (some (.bool true))].toArray⟩) ::
  (nat_lit 151, ⟨(.type "code"), none, (.fields ((.str (Str.ofString "enforce_number") 535) :: (.str (Str.ofString "enforce_number") 536) :: (.str (Str.ofString "/claim/cut.py") 537) :: (.int 47 0) :: (.int 2 0) :: (.int 0 0) :: (.int 0 0) :: (.int 3 0) :: (.ref 146) :: (.bool true) :: (.int 317 0) :: (.ref 147) :: .none :: (.ref 148) :: (.ref 149) :: (.ref 150) :: (.int 540 0) :: (.int 47 0) :: (.str (Str.ofString "/claim/cut.py") 541) :: []).toArray), [].toArray⟩) ::
  (nat_lit 152, ⟨(.type "function"), none, (fnAt (nthS mainB 17) (Str.ofString "enforce_number") .none .none .none (.str (Str.ofString "flatbuffers.number_types") 346) none (.ref 151) .none), [].toArray⟩) ::
  (nat_lit 158, ⟨(.type "code"), none, (.fields ((.str (Str.ofString "Get") 547) :: (.str (Str.ofString "Get") 548) :: (.str (Str.ofString "/claim/cut.py") 549) :: (.int 54 0) :: (.int 3 0) :: (.int 0 0) :: (.int 0 0) :: (.int 3 0) :: (.ref 153) :: (.bool true) :: (.int 317 0) :: (.ref 154) :: .none :: (.ref 155) :: (.ref 156) :: (.ref 157) :: (.int 553 0) :: (.int 54 0) :: (.str (Str.ofString "/claim/cut.py") 554) :: []).toArray), [].toArray⟩) ::
  (nat_lit 159, ⟨(.type "function"), none, (fnAt (nthS mainB 20) (Str.ofString "Get") .none .none .none (.str (Str.ofString "flatbuffers.encode") 543) none (.ref 158) .none), [].toArray⟩) ::
  (nat_lit 165, ⟨(.type "code"), none, (.fields ((.str (Str.ofString "Write") 557) :: (.str (Str.ofString "Write") 558) :: (.str (Str.ofString "/claim/cut.py") 559) :: (.int 57 0) :: (.int 4 0) :: (.int 0 0) :: (.int 0 0) :: (.int 3 0) :: (.ref 160) :: (.bool true) :: (.int 317 0) :: (.ref 161) :: .none :: (.ref 162) :: (.ref 163) :: (.ref 164) :: (.int 564 0) :: (.int 57 0) :: (.str (Str.ofString "/claim/cut.py") 565) :: []).toArray), [].toArray⟩) ::
  (nat_lit 166, ⟨(.type "function"), none, (fnAt (nthS mainB 22) (Str.ofString "Write") .none .none .none (.str (Str.ofString "flatbuffers.encode") 543) none (.ref 165) .none), [].toArray⟩) ::
  (nat_lit 180, ⟨(.type "code"), none, (.fields ((.str (Str.ofString "__init__") 584) :: (.str (Str.ofString "Table.__init__") 585) :: (.str (Str.ofString "/claim/cut.py") 586) :: (.int 63 0) :: (.int 3 0) :: (.int 0 0) :: (.int 0 0) :: (.int 3 0) :: (.ref 175) :: (.bool true) :: (.int 317 0) :: (.ref 176) :: .none :: (.ref 177) :: (.ref 178) :: (.ref 179) :: (.int 590 0) :: (.int 63 0) :: (.str (Str.ofString "/claim/cut.py") 591) :: []).toArray), [].toArray⟩) ::
  (nat_lit 181, ⟨(.type "function"), none, (fnAt (nthS (clsBody (nthS mainB 24)) 1) (Str.ofString "Table.__init__") .none .none .none (.str (Str.ofString "flatbuffers.table") 567) none (.ref 180) .none), [].toArray⟩) ::
  (nat_lit 187, ⟨(.type "code"), none, (.fields ((.str (Str.ofString "Offset") 593) :: (.str (Str.ofString "Table.Offset") 594) :: (.str (Str.ofString "/claim/cut.py") 595) :: (.int 68 0) :: (.int 2 0) :: (.int 0 0) :: (.int 0 0) :: (.int 3 0) :: (.ref 182) :: (.bool true) :: (.int 317 0) :: (.ref 183) :: .none :: (.ref 184) :: (.ref 185) :: (.ref 186) :: (.int 600 0) :: (.int 68 0) :: (.str (Str.ofString "/claim/cut.py") 601) :: []).toArray), [].toArray⟩) ::
  (nat_lit 188, ⟨(.type "function"), none, (fnAt (nthS (clsBody (nthS mainB 24)) 2) (Str.ofString "Table.Offset") .none .none .none (.str (Str.ofString "flatbuffers.table") 567) none (.ref 187) .none), [].toArray⟩) ::
  (nat_lit 194, ⟨(.type "code"), none, (.fields ((.str (Str.ofString "Indirect") 603) :: (.str (Str.ofString "Table.Indirect") 604) :: (.str (Str.ofString "/claim/cut.py") 605) :: (.int 75 0) :: (.int 2 0) :: (.int 0 0) :: (.int 0 0) :: (.int 3 0) :: (.ref 189) :: (.bool true) :: (.int 317 0) :: (.ref 190) :: .none :: (.ref 191) :: (.ref 192) :: (.ref 193) :: (.int 608 0) :: (.int 75 0) :: (.str (Str.ofString "/claim/cut.py") 609) :: []).toArray), [].toArray⟩) ::
  (nat_lit 195, ⟨(.type "function"), none, (fnAt (nthS (clsBody (nthS mainB 24)) 3) (Str.ofString "Table.Indirect") .none .none .none (.str (Str.ofString "flatbuffers.table") 567) none (.ref 194) .none), [].toArray⟩) ::
  (nat_lit 215, ⟨(.type "code"), none, (.fields ((.str (Str.ofString "Vector") 627) :: (.str (Str.ofString "Table.Vector") 628) :: (.str (Str.ofString "/claim/cut.py") 629) :: (.int 85 0) :: (.int 2 0) :: (.int 0 0) :: (.int 0 0) :: (.int 3 0) :: (.ref 210) :: (.bool true) :: (.int 317 0) :: (.ref 211) :: .none :: (.ref 212) :: (.ref 213) :: (.ref 214) :: (.int 633 0) :: (.int 85 0) :: (.str (Str.ofString "/claim/cut.py") 634) :: []).toArray), [].toArray⟩) ::
  (nat_lit 216, ⟨(.type "function"), none, (fnAt (nthS (clsBody (nthS mainB 24)) 6) (Str.ofString "Table.Vector") .none .none .none (.str (Str.ofString "flatbuffers.table") 567) none (.ref 215) .none), [].toArray⟩) ::
  (nat_lit 229, ⟨(.type "code"), none, (.fields ((.str (Str.ofString "Get") 645) :: (.str (Str.ofString "Table.Get") 646) :: (.str (Str.ofString "/claim/cut.py") 647) :: (.int 95 0) :: (.int 3 0) :: (.int 0 0) :: (.int 0 0) :: (.int 3 0) :: (.ref 224) :: (.bool true) :: (.int 317 0) :: (.ref 225) :: .none :: (.ref 226) :: (.ref 227) :: (.ref 228) :: (.int 651 0) :: (.int 95 0) :: (.str (Str.ofString "/claim/cut.py") 652) :: []).toArray), [].toArray⟩) ::
  (nat_lit 230, ⟨(.type "function"), none, (fnAt (nthS (clsBody (nthS mainB 24)) 8) (Str.ofString "Table.Get") .none .none .none (.str (Str.ofString "flatbuffers.table") 567) none (.ref 229) .none), [].toArray⟩) ::
  (nat_lit 247, ⟨(.type "dict"), none, (.dict (⟨PyData.keyHash P (Str.ofString "__module__"), (.str (Str.ofString "__module__") 576), (.str (Str.ofString "flatbuffers.table") 567)⟩ :: ⟨PyData.keyHash P (Str.ofString "__firstlineno__"), (.str (Str.ofString "__firstlineno__") 580), (.int 60 579)⟩ :: ⟨PyData.keyHash P (Str.ofString "__slots__"), (.str (Str.ofString "__slots__") 583), (.ref 174)⟩ :: ⟨PyData.keyHash P (Str.ofString "__init__"), (.str (Str.ofString "__init__") 592), (.ref 181)⟩ :: ⟨PyData.keyHash P (Str.ofString "Offset"), (.str (Str.ofString "Offset") 602), (.ref 188)⟩ :: ⟨PyData.keyHash P (Str.ofString "Indirect"), (.str (Str.ofString "Indirect") 610), (.ref 195)⟩ :: ⟨PyData.keyHash P (Str.ofString "String"), (.str (Str.ofString "String") 618), (.ref 202)⟩ :: ⟨PyData.keyHash P (Str.ofString "VectorLen"), (.str (Str.ofString "VectorLen") 626), (.ref 209)⟩ :: ⟨PyData.keyHash P (Str.ofString "Vector"), (.str (Str.ofString "Vector") 635), (.ref 216)⟩ :: ⟨PyData.keyHash P (Str.ofString "Union"), (.str (Str.ofString "Union") 644), (.ref 223)⟩ :: ⟨PyData.keyHash P (Str.ofString "Get"), (.str (Str.ofString "Get") 653), (.ref 230)⟩ :: ⟨PyData.keyHash P (Str.ofString "GetSlot"), (.str (Str.ofString "GetSlot") 663), (.ref 237)⟩ :: ⟨PyData.keyHash P (Str.ofString "GetVOffsetTSlot"), (.str (Str.ofString "GetVOffsetTSlot") 672), (.ref 244)⟩ :: ⟨PyData.keyHash P (Str.ofString "__static_attributes__"), (.str (Str.ofString "__static_attributes__") 675), (.ref 245)⟩ :: ⟨PyData.keyHash P (Str.ofString "Bytes"), (.str (Str.ofString "Bytes") 677), (.ref 249)⟩ :: ⟨PyData.keyHash P (Str.ofString "Pos"), (.str (Str.ofString "Pos") 679), (.ref 250)⟩ :: ⟨PyData.keyHash P (Str.ofString "__doc__"), (.str (Str.ofString "__doc__") 680), .none⟩ :: []).toArray 4), [].toArray⟩) ::
  (nat_lit 248, ⟨(.type "type"), none, (.cls ⟨(Str.ofString "Table"), [(.type "object")], [(.ref 248), (.type "object")], 247, (Str.ofString "Table"), false, [(Str.ofString "Bytes"), (Str.ofString "Pos")], [], false, none, false⟩), [(some (.ref 167)), none, (some (.str (Str.ofString "Table") 569)), (some (.str (Str.ofString "Table") 577)), (some (.builtin "object.__new__")), (some (.bool false))].toArray⟩) ::
  (nat_lit 249, ⟨(.type "member_descriptor"), none, (.fields [(.str (Str.ofString "Bytes") 676), (.ref 248), (.builtin "proto.slot"), (.builtin "proto.slot#set"), (.int 1 0)].toArray), [].toArray⟩) ::
  (nat_lit 250, ⟨(.type "member_descriptor"), none, (.fields [(.str (Str.ofString "Pos") 678), (.ref 248), (.builtin "proto.slot"), (.builtin "proto.slot#set"), (.int 0 0)].toArray), [].toArray⟩) ::
  (nat_lit 339, ⟨(.type "tuple"), none, (.seq [(.int 1024 824)].toArray 0), [].toArray⟩) ::
  (nat_lit 345, ⟨(.type "code"), none, (.fields ((.str (Str.ofString "__init__") 825) :: (.str (Str.ofString "Builder.__init__") 826) :: (.str (Str.ofString "/claim/cut.py") 827) :: (.int 123 0) :: (.int 2 0) :: (.int 0 0) :: (.int 0 0) :: (.int 3 0) :: (.ref 340) :: (.bool true) :: (.int 317 0) :: (.ref 341) :: .none :: (.ref 342) :: (.ref 343) :: (.ref 344) :: (.int 831 0) :: (.int 123 0) :: (.str (Str.ofString "/claim/cut.py") 832) :: []).toArray), [].toArray⟩) ::
  (nat_lit 346, ⟨(.type "function"), none, (fnAt (nthS (clsBody (nthS mainB 33)) 3) (Str.ofString "Builder.__init__") (.ref 339) .none .none (.str (Str.ofString "flatbuffers.builder") 683) none (.ref 345) .none), [].toArray⟩) ::
  (nat_lit 359, ⟨(.type "code"), none, (.fields ((.str (Str.ofString "Output") 841) :: (.str (Str.ofString "Builder.Output") 842) :: (.str (Str.ofString "/claim/cut.py") 843) :: (.int 141 0) :: (.int 1 0) :: (.int 0 0) :: (.int 0 0) :: (.int 3 0) :: (.ref 354) :: (.bool true) :: (.int 317 0) :: (.ref 355) :: .none :: (.ref 356) :: (.ref 357) :: (.ref 358) :: (.int 845 0) :: (.int 141 0) :: (.str (Str.ofString "/claim/cut.py") 846) :: []).toArray), [].toArray⟩) ::
  (nat_lit 360, ⟨(.type "function"), none, (fnAt (nthS (clsBody (nthS mainB 33)) 5) (Str.ofString "Builder.Output") .none .none .none (.str (Str.ofString "flatbuffers.builder") 683) none (.ref 359) .none), [].toArray⟩) ::
  (nat_lit 366, ⟨(.type "code"), none, (.fields ((.str (Str.ofString "StartObject") 848) :: (.str (Str.ofString "Builder.StartObject") 849) :: (.str (Str.ofString "/claim/cut.py") 850) :: (.int 146 0) :: (.int 2 0) :: (.int 0 0) :: (.int 0 0) :: (.int 3 0) :: (.ref 361) :: (.bool true) :: (.int 317 0) :: (.ref 362) :: .none :: (.ref 363) :: (.ref 364) :: (.ref 365) :: (.int 853 0) :: (.int 146 0) :: (.str (Str.ofString "/claim/cut.py") 854) :: []).toArray), [].toArray⟩) ::
  (nat_lit 367, ⟨(.type "function"), none, (fnAt (nthS (clsBody (nthS mainB 33)) 6) (Str.ofString "Builder.StartObject") .none .none .none (.str (Str.ofString "flatbuffers.builder") 683) none (.ref 366) .none), [].toArray⟩) ::
  (nat_lit 373, ⟨(.type "code"), none, (.fields ((.str (Str.ofString "WriteVtable") 856) :: (.str (Str.ofString "Builder.WriteVtable") 857) :: (.str (Str.ofString "/claim/cut.py") 858) :: (.int 152 0) :: (.int 1 0) :: (.int 0 0) :: (.int 0 0) :: (.int 3 0) :: (.ref 368) :: (.bool true) :: (.int 317 0) :: (.ref 369) :: .none :: (.ref 370) :: (.ref 371) :: (.ref 372) :: (.int 871 0) :: (.int 152 0) :: (.str (Str.ofString "/claim/cut.py") 872) :: []).toArray), [].toArray⟩) ::
  (nat_lit 374, ⟨(.type "function"), none, (fnAt (nthS (clsBody (nthS mainB 33)) 7) (Str.ofString "Builder.WriteVtable") .none .none .none (.str (Str.ofString "flatbuffers.builder") 683) none (.ref 373) .none), [].toArray⟩) ::
  (nat_lit 380, ⟨(.type "code"), none, (.fields ((.str (Str.ofString "EndObject") 874) :: (.str (Str.ofString "Builder.EndObject") 875) :: (.str (Str.ofString "/claim/cut.py") 876) :: (.int 199 0) :: (.int 1 0) :: (.int 0 0) :: (.int 0 0) :: (.int 3 0) :: (.ref 375) :: (.bool true) :: (.int 317 0) :: (.ref 376) :: .none :: (.ref 377) :: (.ref 378) :: (.ref 379) :: (.int 878 0) :: (.int 199 0) :: (.str (Str.ofString "/claim/cut.py") 879) :: []).toArray), [].toArray⟩) ::
  (nat_lit 381, ⟨(.type "function"), none, (fnAt (nthS (clsBody (nthS mainB 33)) 8) (Str.ofString "Builder.EndObject") .none .none .none (.str (Str.ofString "flatbuffers.builder") 683) none (.ref 380) .none), [].toArray⟩) ::
  (nat_lit 387, ⟨(.type "code"), none, (.fields ((.str (Str.ofString "GrowByteBuffer") 881) :: (.str (Str.ofString "Builder.GrowByteBuffer") 882) :: (.str (Str.ofString "/claim/cut.py") 883) :: (.int 204 0) :: (.int 1 0) :: (.int 0 0) :: (.int 0 0) :: (.int 3 0) :: (.ref 382) :: (.bool true) :: (.int 317 0) :: (.ref 383) :: .none :: (.ref 384) :: (.ref 385) :: (.ref 386) :: (.int 888 0) :: (.int 204 0) :: (.str (Str.ofString "/claim/cut.py") 889) :: []).toArray), [].toArray⟩) ::
  (nat_lit 388, ⟨(.type "function"), none, (fnAt (nthS (clsBody (nthS mainB 33)) 9) (Str.ofString "Builder.GrowByteBuffer") .none .none .none (.str (Str.ofString "flatbuffers.builder") 683) none (.ref 387) .none), [].toArray⟩) ::
  (nat_lit 394, ⟨(.type "code"), none, (.fields ((.str (Str.ofString "Head") 891) :: (.str (Str.ofString "Builder.Head") 892) :: (.str (Str.ofString "/claim/cut.py") 893) :: (.int 215 0) :: (.int 1 0) :: (.int 0 0) :: (.int 0 0) :: (.int 3 0) :: (.ref 389) :: (.bool true) :: (.int 317 0) :: (.ref 390) :: .none :: (.ref 391) :: (.ref 392) :: (.ref 393) :: (.int 895 0) :: (.int 215 0) :: (.str (Str.ofString "/claim/cut.py") 896) :: []).toArray), [].toArray⟩) ::
  (nat_lit 395, ⟨(.type "function"), none, (fnAt (nthS (clsBody (nthS mainB 33)) 10) (Str.ofString "Builder.Head") .none .none .none (.str (Str.ofString "flatbuffers.builder") 683) none (.ref 394) .none), [].toArray⟩) ::
  (nat_lit 401, ⟨(.type "code"), none, (.fields ((.str (Str.ofString "Offset") 898) :: (.str (Str.ofString "Builder.Offset") 899) :: (.str (Str.ofString "/claim/cut.py") 900) :: (.int 218 0) :: (.int 1 0) :: (.int 0 0) :: (.int 0 0) :: (.int 3 0) :: (.ref 396) :: (.bool true) :: (.int 317 0) :: (.ref 397) :: .none :: (.ref 398) :: (.ref 399) :: (.ref 400) :: (.int 902 0) :: (.int 218 0) :: (.str (Str.ofString "/claim/cut.py") 903) :: []).toArray), [].toArray⟩) ::
  (nat_lit 402, ⟨(.type "function"), none, (fnAt (nthS (clsBody (nthS mainB 33)) 11) (Str.ofString "Builder.Offset") .none .none .none (.str (Str.ofString "flatbuffers.builder") 683) none (.ref 401) .none), [].toArray⟩) ::
  (nat_lit 408, ⟨(.type "code"), none, (.fields ((.str (Str.ofString "Pad") 905) :: (.str (Str.ofString "Builder.Pad") 906) :: (.str (Str.ofString "/claim/cut.py") 907) :: (.int 221 0) :: (.int 2 0) :: (.int 0 0) :: (.int 0 0) :: (.int 3 0) :: (.ref 403) :: (.bool true) :: (.int 317 0) :: (.ref 404) :: .none :: (.ref 405) :: (.ref 406) :: (.ref 407) :: (.int 911 0) :: (.int 221 0) :: (.str (Str.ofString "/claim/cut.py") 912) :: []).toArray), [].toArray⟩) ::
  (nat_lit 409, ⟨(.type "function"), none, (fnAt (nthS (clsBody (nthS mainB 33)) 12) (Str.ofString "Builder.Pad") .none .none .none (.str (Str.ofString "flatbuffers.builder") 683) none (.ref 408) .none), [].toArray⟩) ::
  (nat_lit 415, ⟨(.type "code"), none, (.fields ((.str (Str.ofString "Prep") 914) :: (.str (Str.ofString "Builder.Prep") 915) :: (.str (Str.ofString "/claim/cut.py") 916) :: (.int 228 0) :: (.int 3 0) :: (.int 0 0) :: (.int 0 0) :: (.int 3 0) :: (.ref 410) :: (.bool true) :: (.int 317 0) :: (.ref 411) :: .none :: (.ref 412) :: (.ref 413) :: (.ref 414) :: (.int 925 0) :: (.int 228 0) :: (.str (Str.ofString "/claim/cut.py") 926) :: []).toArray), [].toArray⟩) ::
  (nat_lit 416, ⟨(.type "function"), none, (fnAt (nthS (clsBody (nthS mainB 33)) 13) (Str.ofString "Builder.Prep") .none .none .none (.str (Str.ofString "flatbuffers.builder") 683) none (.ref 415) .none), [].toArray⟩) ::
  (nat_lit 422, ⟨(.type "code"), none, (.fields ((.str (Str.ofString "PrependSOffsetTRelative") 928) :: (.str (Str.ofString "Builder.PrependSOffsetTRelative") 929) :: (.str (Str.ofString "/claim/cut.py") 930) :: (.int 244 0) :: (.int 2 0) :: (.int 0 0) :: (.int 0 0) :: (.int 3 0) :: (.ref 417) :: (.bool true) :: (.int 317 0) :: (.ref 418) :: .none :: (.ref 419) :: (.ref 420) :: (.ref 421) :: (.int 935 0) :: (.int 244 0) :: (.str (Str.ofString "/claim/cut.py") 936) :: []).toArray), [].toArray⟩) ::
  (nat_lit 423, ⟨(.type "function"), none, (fnAt (nthS (clsBody (nthS mainB 33)) 14) (Str.ofString "Builder.PrependSOffsetTRelative") .none .none .none (.str (Str.ofString "flatbuffers.builder") 683) none (.ref 422) .none), [].toArray⟩) ::
  (nat_lit 429, ⟨(.type "code"), none, (.fields ((.str (Str.ofString "PrependUOffsetTRelative") 938) :: (.str (Str.ofString "Builder.PrependUOffsetTRelative") 939) :: (.str (Str.ofString "/claim/cut.py") 940) :: (.int 252 0) :: (.int 2 0) :: (.int 0 0) :: (.int 0 0) :: (.int 3 0) :: (.ref 424) :: (.bool true) :: (.int 317 0) :: (.ref 425) :: .none :: (.ref 426) :: (.ref 427) :: (.ref 428) :: (.int 945 0) :: (.int 252 0) :: (.str (Str.ofString "/claim/cut.py") 946) :: []).toArray), [].toArray⟩) ::
  (nat_lit 430, ⟨(.type "function"), none, (fnAt (nthS (clsBody (nthS mainB 33)) 15) (Str.ofString "Builder.PrependUOffsetTRelative") .none .none .none (.str (Str.ofString "flatbuffers.builder") 683) none (.ref 429) .none), [].toArray⟩) ::
  (nat_lit 436, ⟨(.type "code"), none, (.fields ((.str (Str.ofString "StartVector") 948) :: (.str (Str.ofString "Builder.StartVector") 949) :: (.str (Str.ofString "/claim/cut.py") 950) :: (.int 260 0) :: (.int 4 0) :: (.int 0 0) :: (.int 0 0) :: (.int 3 0) :: (.ref 431) :: (.bool true) :: (.int 317 0) :: (.ref 432) :: .none :: (.ref 433) :: (.ref 434) :: (.ref 435) :: (.int 955 0) :: (.int 260 0) :: (.str (Str.ofString "/claim/cut.py") 956) :: []).toArray), [].toArray⟩) ::
  (nat_lit 437, ⟨(.type "function"), none, (fnAt (nthS (clsBody (nthS mainB 33)) 16) (Str.ofString "Builder.StartVector") .none .none .none (.str (Str.ofString "flatbuffers.builder") 683) none (.ref 436) .none), [].toArray⟩) ::
  (nat_lit 438, ⟨(.type "tuple"), none, (.seq [.none].toArray 0), [].toArray⟩) ::
  (nat_lit 444, ⟨(.type "code"), none, (.fields ((.str (Str.ofString "EndVector") 958) :: (.str (Str.ofString "Builder.EndVector") 959) :: (.str (Str.ofString "/claim/cut.py") 960) :: (.int 268 0) :: (.int 2 0) :: (.int 0 0) :: (.int 0 0) :: (.int 3 0) :: (.ref 439) :: (.bool true) :: (.int 317 0) :: (.ref 440) :: .none :: (.ref 441) :: (.ref 442) :: (.ref 443) :: (.int 963 0) :: (.int 268 0) :: (.str (Str.ofString "/claim/cut.py") 964) :: []).toArray), [].toArray⟩) ::
  (nat_lit 445, ⟨(.type "function"), none, (fnAt (nthS (clsBody (nthS mainB 33)) 17) (Str.ofString "Builder.EndVector") (.ref 438) .none .none (.str (Str.ofString "flatbuffers.builder") 683) none (.ref 444) .none), [].toArray⟩) ::
  (nat_lit 472, ⟨(.type "code"), none, (.fields ((.str (Str.ofString "assertNested") 990) :: (.str (Str.ofString "Builder.assertNested") 991) :: (.str (Str.ofString "/claim/cut.py") 992) :: (.int 287 0) :: (.int 1 0) :: (.int 0 0) :: (.int 0 0) :: (.int 3 0) :: (.ref 467) :: (.bool true) :: (.int 317 0) :: (.ref 468) :: .none :: (.ref 469) :: (.ref 470) :: (.ref 471) :: (.int 994 0) :: (.int 287 0) :: (.str (Str.ofString "/claim/cut.py") 995) :: []).toArray), [].toArray⟩) ::
  (nat_lit 473, ⟨(.type "function"), none, (fnAt (nthS (clsBody (nthS mainB 33)) 21) (Str.ofString "Builder.assertNested") .none .none .none (.str (Str.ofString "flatbuffers.builder") 683) none (.ref 472) .none), [].toArray⟩) ::
  (nat_lit 479, ⟨(.type "code"), none, (.fields ((.str (Str.ofString "assertNotNested") 997) :: (.str (Str.ofString "Builder.assertNotNested") 998) :: (.str (Str.ofString "/claim/cut.py") 999) :: (.int 291 0) :: (.int 1 0) :: (.int 0 0) :: (.int 0 0) :: (.int 3 0) :: (.ref 474) :: (.bool true) :: (.int 317 0) :: (.ref 475) :: .none :: (.ref 476) :: (.ref 477) :: (.ref 478) :: (.int 1001 0) :: (.int 291 0) :: (.str (Str.ofString "/claim/cut.py") 1002) :: []).toArray), [].toArray⟩) ::
  (nat_lit 480, ⟨(.type "function"), none, (fnAt (nthS (clsBody (nthS mainB 33)) 22) (Str.ofString "Builder.assertNotNested") .none .none .none (.str (Str.ofString "flatbuffers.builder") 683) none (.ref 479) .none), [].toArray⟩) ::
  (nat_lit 493, ⟨(.type "code"), none, (.fields ((.str (Str.ofString "Slot") 1012) :: (.str (Str.ofString "Builder.Slot") 1013) :: (.str (Str.ofString "/claim/cut.py") 1014) :: (.int 298 0) :: (.int 2 0) :: (.int 0 0) :: (.int 0 0) :: (.int 3 0) :: (.ref 488) :: (.bool true) :: (.int 317 0) :: (.ref 489) :: .none :: (.ref 490) :: (.ref 491) :: (.ref 492) :: (.int 1017 0) :: (.int 298 0) :: (.str (Str.ofString "/claim/cut.py") 1018) :: []).toArray), [].toArray⟩) ::
  (nat_lit 494, ⟨(.type "function"), none, (fnAt (nthS (clsBody (nthS mainB 33)) 24) (Str.ofString "Builder.Slot") .none .none .none (.str (Str.ofString "flatbuffers.builder") 683) none (.ref 493) .none), [].toArray⟩) ::
  (nat_lit 495, ⟨(.type "tuple"), none, (.seq [.none].toArray 0), [].toArray⟩) ::
  (nat_lit 501, ⟨(.type "code"), none, (.fields ((.str (Str.ofString "__Finish") 1020) :: (.str (Str.ofString "Builder.__Finish") 1021) :: (.str (Str.ofString "/claim/cut.py") 1022) :: (.int 302 0) :: (.int 4 0) :: (.int 0 0) :: (.int 0 0) :: (.int 3 0) :: (.ref 496) :: (.bool true) :: (.int 317 0) :: (.ref 497) :: .none :: (.ref 498) :: (.ref 499) :: (.ref 500) :: (.int 1030 0) :: (.int 302 0) :: (.str (Str.ofString "/claim/cut.py") 1031) :: []).toArray), [].toArray⟩) ::
  (nat_lit 502, ⟨(.type "function"), none, (fnAt (nthS (clsBody (nthS mainB 33)) 25) (Str.ofString "Builder.__Finish") (.ref 495) .none .none (.str (Str.ofString "flatbuffers.builder") 683) none (.ref 501) .none), [].toArray⟩) ::
  (nat_lit 503, ⟨(.type "tuple"), none, (.seq [.none].toArray 0), [].toArray⟩) ::
  (nat_lit 509, ⟨(.type "code"), none, (.fields ((.str (Str.ofString "Finish") 1033) :: (.str (Str.ofString "Builder.Finish") 1034) :: (.str (Str.ofString "/claim/cut.py") 1035) :: (.int 323 0) :: (.int 3 0) :: (.int 0 0) :: (.int 0 0) :: (.int 3 0) :: (.ref 504) :: (.bool true) :: (.int 317 0) :: (.ref 505) :: .none :: (.ref 506) :: (.ref 507) :: (.ref 508) :: (.int 1039 0) :: (.int 323 0) :: (.str (Str.ofString "/claim/cut.py") 1040) :: []).toArray), [].toArray⟩) ::
  (nat_lit 510, ⟨(.type "function"), none, (fnAt (nthS (clsBody (nthS mainB 33)) 26) (Str.ofString "Builder.Finish") (.ref 503) .none .none (.str (Str.ofString "flatbuffers.builder") 683) none (.ref 509) .none), [].toArray⟩) ::
  (nat_lit 524, ⟨(.type "code"), none, (.fields ((.str (Str.ofString "Prepend") 1051) :: (.str (Str.ofString "Builder.Prepend") 1052) :: (.str (Str.ofString "/claim/cut.py") 1053) :: (.int 329 0) :: (.int 3 0) :: (.int 0 0) :: (.int 0 0) :: (.int 3 0) :: (.ref 519) :: (.bool true) :: (.int 317 0) :: (.ref 520) :: .none :: (.ref 521) :: (.ref 522) :: (.ref 523) :: (.int 1057 0) :: (.int 329 0) :: (.str (Str.ofString "/claim/cut.py") 1058) :: []).toArray), [].toArray⟩) ::
  (nat_lit 525, ⟨(.type "function"), none, (fnAt (nthS (clsBody (nthS mainB 33)) 28) (Str.ofString "Builder.Prepend") .none .none .none (.str (Str.ofString "flatbuffers.builder") 683) none (.ref 524) .none), [].toArray⟩) ::
  (nat_lit 608, ⟨(.type "code"), none, (.fields ((.str (Str.ofString "PrependUOffsetTRelativeSlot") 1151) :: (.str (Str.ofString "Builder.PrependUOffsetTRelativeSlot") 1152) :: (.str (Str.ofString "/claim/cut.py") 1153) :: (.int 366 0) :: (.int 4 0) :: (.int 0 0) :: (.int 0 0) :: (.int 3 0) :: (.ref 603) :: (.bool true) :: (.int 317 0) :: (.ref 604) :: .none :: (.ref 605) :: (.ref 606) :: (.ref 607) :: (.int 1158 0) :: (.int 366 0) :: (.str (Str.ofString "/claim/cut.py") 1159) :: []).toArray), [].toArray⟩) ::
  (nat_lit 609, ⟨(.type "function"), none, (fnAt (nthS (clsBody (nthS mainB 33)) 40) (Str.ofString "Builder.PrependUOffsetTRelativeSlot") .none .none .none (.str (Str.ofString "flatbuffers.builder") 683) none (.ref 608) .none), [].toArray⟩) ::
  (nat_lit 636, ⟨(.type "code"), none, (.fields ((.str (Str.ofString "PrependUint8") 1187) :: (.str (Str.ofString "Builder.PrependUint8") 1188) :: (.str (Str.ofString "/claim/cut.py") 1189) :: (.int 380 0) :: (.int 2 0) :: (.int 0 0) :: (.int 0 0) :: (.int 3 0) :: (.ref 631) :: (.bool true) :: (.int 317 0) :: (.ref 632) :: .none :: (.ref 633) :: (.ref 634) :: (.ref 635) :: (.int 1192 0) :: (.int 380 0) :: (.str (Str.ofString "/claim/cut.py") 1193) :: []).toArray), [].toArray⟩) ::
  (nat_lit 637, ⟨(.type "function"), none, (fnAt (nthS (clsBody (nthS mainB 33)) 44) (Str.ofString "Builder.PrependUint8") .none .none .none (.str (Str.ofString "flatbuffers.builder") 683) none (.ref 636) .none), [].toArray⟩) ::
  (nat_lit 699, ⟨(.type "code"), none, (.fields ((.str (Str.ofString "PrependVOffsetT") 1259) :: (.str (Str.ofString "Builder.PrependVOffsetT") 1260) :: (.str (Str.ofString "/claim/cut.py") 1261) :: (.int 407 0) :: (.int 2 0) :: (.int 0 0) :: (.int 0 0) :: (.int 3 0) :: (.ref 694) :: (.bool true) :: (.int 317 0) :: (.ref 695) :: .none :: (.ref 696) :: (.ref 697) :: (.ref 698) :: (.int 1264 0) :: (.int 407 0) :: (.str (Str.ofString "/claim/cut.py") 1265) :: []).toArray), [].toArray⟩) ::
  (nat_lit 700, ⟨(.type "function"), none, (fnAt (nthS (clsBody (nthS mainB 33)) 53) (Str.ofString "Builder.PrependVOffsetT") .none .none .none (.str (Str.ofString "flatbuffers.builder") 683) none (.ref 699) .none), [].toArray⟩) ::
  (nat_lit 706, ⟨(.type "code"), none, (.fields ((.str (Str.ofString "Place") 1267) :: (.str (Str.ofString "Builder.Place") 1268) :: (.str (Str.ofString "/claim/cut.py") 1269) :: (.int 410 0) :: (.int 3 0) :: (.int 0 0) :: (.int 0 0) :: (.int 3 0) :: (.ref 701) :: (.bool true) :: (.int 317 0) :: (.ref 702) :: .none :: (.ref 703) :: (.ref 704) :: (.ref 705) :: (.int 1274 0) :: (.int 410 0) :: (.str (Str.ofString "/claim/cut.py") 1275) :: []).toArray), [].toArray⟩) ::
  (nat_lit 707, ⟨(.type "function"), none, (fnAt (nthS (clsBody (nthS mainB 33)) 54) (Str.ofString "Builder.Place") .none .none .none (.str (Str.ofString "flatbuffers.builder") 683) none (.ref 706) .none), [].toArray⟩) ::
  (nat_lit 720, ⟨(.type "code"), none, (.fields ((.str (Str.ofString "PlaceSOffsetT") 1285) :: (.str (Str.ofString "Builder.PlaceSOffsetT") 1286) :: (.str (Str.ofString "/claim/cut.py") 1287) :: (.int 419 0) :: (.int 2 0) :: (.int 0 0) :: (.int 0 0) :: (.int 3 0) :: (.ref 715) :: (.bool true) :: (.int 317 0) :: (.ref 716) :: .none :: (.ref 717) :: (.ref 718) :: (.ref 719) :: (.int 1291 0) :: (.int 419 0) :: (.str (Str.ofString "/claim/cut.py") 1292) :: []).toArray), [].toArray⟩) ::
  (nat_lit 721, ⟨(.type "function"), none, (fnAt (nthS (clsBody (nthS mainB 33)) 56) (Str.ofString "Builder.PlaceSOffsetT") .none .none .none (.str (Str.ofString "flatbuffers.builder") 683) none (.ref 720) .none), [].toArray⟩) ::
  (nat_lit 727, ⟨(.type "code"), none, (.fields ((.str (Str.ofString "PlaceUOffsetT") 1294) :: (.str (Str.ofString "Builder.PlaceUOffsetT") 1295) :: (.str (Str.ofString "/claim/cut.py") 1296) :: (.int 425 0) :: (.int 2 0) :: (.int 0 0) :: (.int 0 0) :: (.int 3 0) :: (.ref 722) :: (.bool true) :: (.int 317 0) :: (.ref 723) :: .none :: (.ref 724) :: (.ref 725) :: (.ref 726) :: (.int 1300 0) :: (.int 425 0) :: (.str (Str.ofString "/claim/cut.py") 1301) :: []).toArray), [].toArray⟩) ::
  (nat_lit 728, ⟨(.type "function"), none, (fnAt (nthS (clsBody (nthS mainB 33)) 57) (Str.ofString "Builder.PlaceUOffsetT") .none .none .none (.str (Str.ofString "flatbuffers.builder") 683) none (.ref 727) .none), [].toArray⟩) ::
  (nat_lit 731, ⟨(.type "dict"), none, (.dict (⟨PyData.keyHash P (Str.ofString "__module__"), (.str (Str.ofString "__module__") 802), (.str (Str.ofString "flatbuffers.builder") 683)⟩ :: ⟨PyData.keyHash P (Str.ofString "__firstlineno__"), (.str (Str.ofString "__firstlineno__") 806), (.int 118 805)⟩ :: ⟨PyData.keyHash P (Str.ofString "__slots__"), (.str (Str.ofString "__slots__") 818), (.ref 338)⟩ :: ⟨PyData.keyHash P (Str.ofString "MAX_BUFFER_SIZE"), (.str (Str.ofString "MAX_BUFFER_SIZE") 823), (.int 2147483648 822)⟩ :: ⟨PyData.keyHash P (Str.ofString "__init__"), (.str (Str.ofString "__init__") 833), (.ref 346)⟩ :: ⟨PyData.keyHash P (Str.ofString "Clear"), (.str (Str.ofString "Clear") 840), (.ref 353)⟩ :: ⟨PyData.keyHash P (Str.ofString "Output"), (.str (Str.ofString "Output") 847), (.ref 360)⟩ :: ⟨PyData.keyHash P (Str.ofString "StartObject"), (.str (Str.ofString "StartObject") 855), (.ref 367)⟩ :: ⟨PyData.keyHash P (Str.ofString "WriteVtable"), (.str (Str.ofString "WriteVtable") 873), (.ref 374)⟩ :: ⟨PyData.keyHash P (Str.ofString "EndObject"), (.str (Str.ofString "EndObject") 880), (.ref 381)⟩ :: ⟨PyData.keyHash P (Str.ofString "GrowByteBuffer"), (.str (Str.ofString "GrowByteBuffer") 890), (.ref 388)⟩ :: ⟨PyData.keyHash P (Str.ofString "Head"), (.str (Str.ofString "Head") 897), (.ref 395)⟩ :: ⟨PyData.keyHash P (Str.ofString "Offset"), (.str (Str.ofString "Offset") 904), (.ref 402)⟩ :: ⟨PyData.keyHash P (Str.ofString "Pad"), (.str (Str.ofString "Pad") 913), (.ref 409)⟩ :: ⟨PyData.keyHash P (Str.ofString "Prep"), (.str (Str.ofString "Prep") 927), (.ref 416)⟩ :: ⟨PyData.keyHash P (Str.ofString "PrependSOffsetTRelative"), (.str (Str.ofString "PrependSOffsetTRelative") 937), (.ref 423)⟩ :: ⟨PyData.keyHash P (Str.ofString "PrependUOffsetTRelative"), (.str (Str.ofString "PrependUOffsetTRelative") 947), (.ref 430)⟩ :: ⟨PyData.keyHash P (Str.ofString "StartVector"), (.str (Str.ofString "StartVector") 957), (.ref 437)⟩ :: ⟨PyData.keyHash P (Str.ofString "EndVector"), (.str (Str.ofString "EndVector") 965), (.ref 445)⟩ :: ⟨PyData.keyHash P (Str.ofString "CreateSharedString"), (.str (Str.ofString "CreateSharedString") 973), (.ref 452)⟩ :: ⟨PyData.keyHash P (Str.ofString "CreateString"), (.str (Str.ofString "CreateString") 981), (.ref 459)⟩ :: ⟨PyData.keyHash P (Str.ofString "CreateByteVector"), (.str (Str.ofString "CreateByteVector") 989), (.ref 466)⟩ :: ⟨PyData.keyHash P (Str.ofString "assertNested"), (.str (Str.ofString "assertNested") 996), (.ref 473)⟩ :: ⟨PyData.keyHash P (Str.ofString "assertNotNested"), (.str (Str.ofString "assertNotNested") 1003), (.ref 480)⟩ :: ⟨PyData.keyHash P (Str.ofString "assertStructIsInline"), (.str (Str.ofString "assertStructIsInline") 1011), (.ref 487)⟩ :: ⟨PyData.keyHash P (Str.ofString "Slot"), (.str (Str.ofString "Slot") 1019), (.ref 494)⟩ :: ⟨PyData.keyHash P (Str.ofString "_Builder__Finish"), (.str (Str.ofString "_Builder__Finish") 1032), (.ref 502)⟩ :: ⟨PyData.keyHash P (Str.ofString "Finish"), (.str (Str.ofString "Finish") 1041), (.ref 510)⟩ :: ⟨PyData.keyHash P (Str.ofString "FinishSizePrefixed"), (.str (Str.ofString "FinishSizePrefixed") 1050), (.ref 518)⟩ :: ⟨PyData.keyHash P (Str.ofString "Prepend"), (.str (Str.ofString "Prepend") 1059), (.ref 525)⟩ :: ⟨PyData.keyHash P (Str.ofString "PrependSlot"), (.str (Str.ofString "PrependSlot") 1070), (.ref 532)⟩ :: ⟨PyData.keyHash P (Str.ofString "PrependBoolSlot"), (.str (Str.ofString "PrependBoolSlot") 1078), (.ref 539)⟩ :: ⟨PyData.keyHash P (Str.ofString "PrependByteSlot"), (.str (Str.ofString "PrependByteSlot") 1086), (.ref 546)⟩ :: ⟨PyData.keyHash P (Str.ofString "PrependUint8Slot"), (.str (Str.ofString "PrependUint8Slot") 1094), (.ref 553)⟩ :: ⟨PyData.keyHash P (Str.ofString "PrependUint16Slot"), (.str (Str.ofString "PrependUint16Slot") 1102), (.ref 560)⟩ :: ⟨PyData.keyHash P (Str.ofString "PrependUint32Slot"), (.str (Str.ofString "PrependUint32Slot") 1110), (.ref 567)⟩ :: ⟨PyData.keyHash P (Str.ofString "PrependUint64Slot"), (.str (Str.ofString "PrependUint64Slot") 1118), (.ref 574)⟩ :: ⟨PyData.keyHash P (Str.ofString "PrependInt8Slot"), (.str (Str.ofString "PrependInt8Slot") 1126), (.ref 581)⟩ :: ⟨PyData.keyHash P (Str.ofString "PrependInt16Slot"), (.str (Str.ofString "PrependInt16Slot") 1134), (.ref 588)⟩ :: ⟨PyData.keyHash P (Str.ofString "PrependInt32Slot"), (.str (Str.ofString "PrependInt32Slot") 1142), (.ref 595)⟩ :: ⟨PyData.keyHash P (Str.ofString "PrependInt64Slot"), (.str (Str.ofString "PrependInt64Slot") 1150), (.ref 602)⟩ :: ⟨PyData.keyHash P (Str.ofString "PrependUOffsetTRelativeSlot"), (.str (Str.ofString "PrependUOffsetTRelativeSlot") 1160), (.ref 609)⟩ :: ⟨PyData.keyHash P (Str.ofString "PrependStructSlot"), (.str (Str.ofString "PrependStructSlot") 1170), (.ref 616)⟩ :: ⟨PyData.keyHash P (Str.ofString "PrependBool"), (.str (Str.ofString "PrependBool") 1178), (.ref 623)⟩ :: ⟨PyData.keyHash P (Str.ofString "PrependByte"), (.str (Str.ofString "PrependByte") 1186), (.ref 630)⟩ :: ⟨PyData.keyHash P (Str.ofString "PrependUint8"), (.str (Str.ofString "PrependUint8") 1194), (.ref 637)⟩ :: ⟨PyData.keyHash P (Str.ofString "PrependUint16"), (.str (Str.ofString "PrependUint16") 1202), (.ref 644)⟩ :: ⟨PyData.keyHash P (Str.ofString "PrependUint32"), (.str (Str.ofString "PrependUint32") 1210), (.ref 651)⟩ :: ⟨PyData.keyHash P (Str.ofString "PrependUint64"), (.str (Str.ofString "PrependUint64") 1218), (.ref 658)⟩ :: ⟨PyData.keyHash P (Str.ofString "PrependInt8"), (.str (Str.ofString "PrependInt8") 1226), (.ref 665)⟩ :: ⟨PyData.keyHash P (Str.ofString "PrependInt16"), (.str (Str.ofString "PrependInt16") 1234), (.ref 672)⟩ :: ⟨PyData.keyHash P (Str.ofString "PrependInt32"), (.str (Str.ofString "PrependInt32") 1242), (.ref 679)⟩ :: ⟨PyData.keyHash P (Str.ofString "PrependInt64"), (.str (Str.ofString "PrependInt64") 1250), (.ref 686)⟩ :: ⟨PyData.keyHash P (Str.ofString "ForceDefaults"), (.str (Str.ofString "ForceDefaults") 1258), (.ref 693)⟩ :: ⟨PyData.keyHash P (Str.ofString "PrependVOffsetT"), (.str (Str.ofString "PrependVOffsetT") 1266), (.ref 700)⟩ :: ⟨PyData.keyHash P (Str.ofString "Place"), (.str (Str.ofString "Place") 1276), (.ref 707)⟩ :: ⟨PyData.keyHash P (Str.ofString "PlaceVOffsetT"), (.str (Str.ofString "PlaceVOffsetT") 1284), (.ref 714)⟩ :: ⟨PyData.keyHash P (Str.ofString "PlaceSOffsetT"), (.str (Str.ofString "PlaceSOffsetT") 1293), (.ref 721)⟩ :: ⟨PyData.keyHash P (Str.ofString "PlaceUOffsetT"), (.str (Str.ofString "PlaceUOffsetT") 1302), (.ref 728)⟩ :: ⟨PyData.keyHash P (Str.ofString "__static_attributes__"), (.str (Str.ofString "__static_attributes__") 1314), (.ref 729)⟩ :: ⟨PyData.keyHash P (Str.ofString "Bytes"), (.str (Str.ofString "Bytes") 1316), (.ref 733)⟩ :: ⟨PyData.keyHash P (Str.ofString "current_vtable"), (.str (Str.ofString "current_vtable") 1318), (.ref 734)⟩ :: ⟨PyData.keyHash P (Str.ofString "finished"), (.str (Str.ofString "finished") 1320), (.ref 735)⟩ :: ⟨PyData.keyHash P (Str.ofString "forceDefaults"), (.str (Str.ofString "forceDefaults") 1322), (.ref 736)⟩ :: ⟨PyData.keyHash P (Str.ofString "head"), (.str (Str.ofString "head") 1324), (.ref 737)⟩ :: ⟨PyData.keyHash P (Str.ofString "minalign"), (.str (Str.ofString "minalign") 1326), (.ref 738)⟩ :: ⟨PyData.keyHash P (Str.ofString "nested"), (.str (Str.ofString "nested") 1328), (.ref 739)⟩ :: ⟨PyData.keyHash P (Str.ofString "objectEnd"), (.str (Str.ofString "objectEnd") 1330), (.ref 740)⟩ :: ⟨PyData.keyHash P (Str.ofString "sharedStrings"), (.str (Str.ofString "sharedStrings") 1332), (.ref 741)⟩ :: ⟨PyData.keyHash P (Str.ofString "vectorNumElems"), (.str (Str.ofString "vectorNumElems") 1334), (.ref 742)⟩ :: ⟨PyData.keyHash P (Str.ofString "vtables"), (.str (Str.ofString "vtables") 1336), (.ref 743)⟩ :: ⟨PyData.keyHash P (Str.ofString "__doc__"), (.str (Str.ofString "__doc__") 1337), .none⟩ :: []).toArray 13), [].toArray⟩) ::
  (nat_lit 732, ⟨(.type "type"), none, (.cls ⟨(Str.ofString "Builder"), [(.type "object")], [(.ref 732), (.type "object")], 731, (Str.ofString "Builder"), false, ((Str.ofString "Bytes") :: (Str.ofString "current_vtable") :: (Str.ofString "finished") :: (Str.ofString "forceDefaults") :: (Str.ofString "head") :: (Str.ofString "minalign") :: (Str.ofString "nested") :: (Str.ofString "objectEnd") :: (Str.ofString "sharedStrings") :: (Str.ofString "vectorNumElems") :: (Str.ofString "vtables") :: []), [], false, none, false⟩), [(some (.ref 331)), none, (some (.str (Str.ofString "Builder") 795)), (some (.str (Str.ofString "Builder") 803)), (some (.builtin "object.__new__")), (some (.bool false))].toArray⟩) ::
  (nat_lit 733, ⟨(.type "member_descriptor"), none, (.fields [(.str (Str.ofString "Bytes") 1315), (.ref 732), (.builtin "proto.slot"), (.builtin "proto.slot#set"), (.int 10 0)].toArray), [].toArray⟩) ::
  (nat_lit 734, ⟨(.type "member_descriptor"), none, (.fields [(.str (Str.ofString "current_vtable") 1317), (.ref 732), (.builtin "proto.slot"), (.builtin "proto.slot#set"), (.int 9 0)].toArray), [].toArray⟩) ::
  (nat_lit 735, ⟨(.type "member_descriptor"), none, (.fields [(.str (Str.ofString "finished") 1319), (.ref 732), (.builtin "proto.slot"), (.builtin "proto.slot#set"), (.int 8 0)].toArray), [].toArray⟩) ::
  (nat_lit 736, ⟨(.type "member_descriptor"), none, (.fields [(.str (Str.ofString "forceDefaults") 1321), (.ref 732), (.builtin "proto.slot"), (.builtin "proto.slot#set"), (.int 7 0)].toArray), [].toArray⟩) ::
  (nat_lit 737, ⟨(.type "member_descriptor"), none, (.fields [(.str (Str.ofString "head") 1323), (.ref 732), (.builtin "proto.slot"), (.builtin "proto.slot#set"), (.int 6 0)].toArray), [].toArray⟩) ::
  (nat_lit 738, ⟨(.type "member_descriptor"), none, (.fields [(.str (Str.ofString "minalign") 1325), (.ref 732), (.builtin "proto.slot"), (.builtin "proto.slot#set"), (.int 5 0)].toArray), [].toArray⟩) ::
  (nat_lit 739, ⟨(.type "member_descriptor"), none, (.fields [(.str (Str.ofString "nested") 1327), (.ref 732), (.builtin "proto.slot"), (.builtin "proto.slot#set"), (.int 4 0)].toArray), [].toArray⟩) ::
  (nat_lit 740, ⟨(.type "member_descriptor"), none, (.fields [(.str (Str.ofString "objectEnd") 1329), (.ref 732), (.builtin "proto.slot"), (.builtin "proto.slot#set"), (.int 3 0)].toArray), [].toArray⟩) ::
  (nat_lit 741, ⟨(.type "member_descriptor"), none, (.fields [(.str (Str.ofString "sharedStrings") 1331), (.ref 732), (.builtin "proto.slot"), (.builtin "proto.slot#set"), (.int 2 0)].toArray), [].toArray⟩) ::
  (nat_lit 742, ⟨(.type "member_descriptor"), none, (.fields [(.str (Str.ofString "vectorNumElems") 1333), (.ref 732), (.builtin "proto.slot"), (.builtin "proto.slot#set"), (.int 1 0)].toArray), [].toArray⟩) ::
  (nat_lit 743, ⟨(.type "member_descriptor"), none, (.fields [(.str (Str.ofString "vtables") 1335), (.ref 732), (.builtin "proto.slot"), (.builtin "proto.slot#set"), (.int 0 0)].toArray), [].toArray⟩) ::
  (nat_lit 746, ⟨(.type "tuple"), none, (.seq [(.bool false)].toArray 0), [].toArray⟩) ::
  (nat_lit 752, ⟨(.type "code"), none, (.fields ((.str (Str.ofString "GetBufferIdentifier") 1342) :: (.str (Str.ofString "GetBufferIdentifier") 1343) :: (.str (Str.ofString "/claim/cut.py") 1344) :: (.int 431 0) :: (.int 3 0) :: (.int 0 0) :: (.int 0 0) :: (.int 3 0) :: (.ref 747) :: (.bool true) :: (.int 317 0) :: (.ref 748) :: .none :: (.ref 749) :: (.ref 750) :: (.ref 751) :: (.int 1349 0) :: (.int 431 0) :: (.str (Str.ofString "/claim/cut.py") 1350) :: []).toArray), [].toArray⟩) ::
  (nat_lit 753, ⟨(.type "function"), none, (fnAt (nthS mainB 35) (Str.ofString "GetBufferIdentifier") (.ref 746) .none .none (.str (Str.ofString "flatbuffers.util") 1340) none (.ref 752) .none), [].toArray⟩) ::
  (nat_lit 754, ⟨(.type "tuple"), none, (.seq [(.bool false)].toArray 0), [].toArray⟩) ::
  (nat_lit 760, ⟨(.type "code"), none, (.fields ((.str (Str.ofString "BufferHasIdentifier") 1352) :: (.str (Str.ofString "BufferHasIdentifier") 1353) :: (.str (Str.ofString "/claim/cut.py") 1354) :: (.int 437 0) :: (.int 4 0) :: (.int 0 0) :: (.int 0 0) :: (.int 3 0) :: (.ref 755) :: (.bool true) :: (.int 317 0) :: (.ref 756) :: .none :: (.ref 757) :: (.ref 758) :: (.ref 759) :: (.int 1360 0) :: (.int 437 0) :: (.str (Str.ofString "/claim/cut.py") 1361) :: []).toArray), [].toArray⟩) ::
  (nat_lit 761, ⟨(.type "function"), none, (fnAt (nthS mainB 36) (Str.ofString "BufferHasIdentifier") (.ref 754) .none .none (.str (Str.ofString "flatbuffers.util") 1340) none (.ref 760) .none), [].toArray⟩) ::
  (nat_lit 767, ⟨(.type "code"), none, (.fields ((.str (Str.ofString "_law_row") 1365) :: (.str (Str.ofString "_law_row") 1366) :: (.str (Str.ofString "/claim/cut.py") 1367) :: (.int 441 0) :: (.int 2 0) :: (.int 0 0) :: (.int 0 0) :: (.int 3 0) :: (.ref 762) :: (.bool true) :: (.int 317 0) :: (.ref 763) :: .none :: (.ref 764) :: (.ref 765) :: (.ref 766) :: (.int 1371 0) :: (.int 441 0) :: (.str (Str.ofString "/claim/cut.py") 1372) :: []).toArray), [].toArray⟩) ::
  (nat_lit 768, ⟨(.type "function"), none, (fnAt (nthS mainB 38) (Str.ofString "_law_row") .none .none .none (.str (Str.ofString "law_ef5003_01") 1363) none (.ref 767) .none), [].toArray⟩) ::
  (nat_lit 774, ⟨(.type "code"), none, (.fields ((.str (Str.ofString "_law_need") 1374) :: (.str (Str.ofString "_law_need") 1375) :: (.str (Str.ofString "/claim/cut.py") 1376) :: (.int 446 0) :: (.int 1 0) :: (.int 0 0) :: (.int 0 0) :: (.int 3 0) :: (.ref 769) :: (.bool true) :: (.int 317 0) :: (.ref 770) :: .none :: (.ref 771) :: (.ref 772) :: (.ref 773) :: (.int 1378 0) :: (.int 446 0) :: (.str (Str.ofString "/claim/cut.py") 1379) :: []).toArray), [].toArray⟩) ::
  (nat_lit 775, ⟨(.type "function"), none, (fnAt (nthS mainB 39) (Str.ofString "_law_need") .none .none .none (.str (Str.ofString "law_ef5003_01") 1363) none (.ref 774) .none), [].toArray⟩) ::
  (nat_lit 779, ⟨(.type "code"), none, (.fields ((.str (Str.ofString "_law_image") 1381) :: (.str (Str.ofString "_law_image") 1382) :: (.str (Str.ofString "/claim/cut.py") 1383) :: (.int 448 0) :: (.int 2 0) :: (.int 0 0) :: (.int 0 0) :: (.int 3 0) :: (.ref 776) :: (.bool true) :: (.int 317 0) :: (.ref 777) :: .none :: .none :: .none :: (.ref 778) :: (.int 1384 0) :: (.int 448 0) :: (.str (Str.ofString "/claim/cut.py") 1385) :: []).toArray), [].toArray⟩) ::
  (nat_lit 780, ⟨(.type "function"), none, (fnAt (nthS mainB 40) (Str.ofString "_law_image") .none .none .none (.str (Str.ofString "law_ef5003_01") 1363) none (.ref 779) .none), [].toArray⟩) ::
  (nat_lit 784, ⟨(.type "code"), none, (.fields ((.str (Str.ofString "_law_open") 1387) :: (.str (Str.ofString "_law_open") 1388) :: (.str (Str.ofString "/claim/cut.py") 1389) :: (.int 472 0) :: (.int 1 0) :: (.int 0 0) :: (.int 0 0) :: (.int 3 0) :: (.ref 781) :: (.bool true) :: (.int 317 0) :: (.ref 782) :: .none :: .none :: .none :: (.ref 783) :: (.int 1390 0) :: (.int 472 0) :: (.str (Str.ofString "/claim/cut.py") 1391) :: []).toArray), [].toArray⟩) ::
  (nat_lit 785, ⟨(.type "function"), none, (fnAt (nthS mainB 41) (Str.ofString "_law_open") .none .none .none (.str (Str.ofString "law_ef5003_01") 1363) none (.ref 784) .none), [].toArray⟩) ::
  (nat_lit 791, ⟨(.type "code"), none, (.fields ((.str (Str.ofString "_law_at") 1393) :: (.str (Str.ofString "_law_at") 1394) :: (.str (Str.ofString "/claim/cut.py") 1395) :: (.int 475 0) :: (.int 3 0) :: (.int 0 0) :: (.int 0 0) :: (.int 3 0) :: (.ref 786) :: (.bool true) :: (.int 317 0) :: (.ref 787) :: .none :: (.ref 788) :: (.ref 789) :: (.ref 790) :: (.int 1399 0) :: (.int 475 0) :: (.str (Str.ofString "/claim/cut.py") 1400) :: []).toArray), [].toArray⟩) ::
  (nat_lit 792, ⟨(.type "function"), none, (fnAt (nthS mainB 42) (Str.ofString "_law_at") .none .none .none (.str (Str.ofString "law_ef5003_01") 1363) none (.ref 791) .none), [].toArray⟩) ::
  (nat_lit 798, ⟨(.type "code"), none, (.fields ((.str (Str.ofString "_law_set") 1402) :: (.str (Str.ofString "_law_set") 1403) :: (.str (Str.ofString "/claim/cut.py") 1404) :: (.int 477 0) :: (.int 4 0) :: (.int 0 0) :: (.int 0 0) :: (.int 3 0) :: (.ref 793) :: (.bool true) :: (.int 317 0) :: (.ref 794) :: .none :: (.ref 795) :: (.ref 796) :: (.ref 797) :: (.int 1409 0) :: (.int 477 0) :: (.str (Str.ofString "/claim/cut.py") 1410) :: []).toArray), [].toArray⟩) ::
  (nat_lit 799, ⟨(.type "function"), none, (fnAt (nthS mainB 43) (Str.ofString "_law_set") .none .none .none (.str (Str.ofString "law_ef5003_01") 1363) none (.ref 798) .none), [].toArray⟩) ::
  (nat_lit 805, ⟨(.type "code"), none, (.fields ((.str (Str.ofString "_law_find") 1412) :: (.str (Str.ofString "_law_find") 1413) :: (.str (Str.ofString "/claim/cut.py") 1414) :: (.int 479 0) :: (.int 3 0) :: (.int 0 0) :: (.int 0 0) :: (.int 3 0) :: (.ref 800) :: (.bool true) :: (.int 317 0) :: (.ref 801) :: .none :: (.ref 802) :: (.ref 803) :: (.ref 804) :: (.int 1419 0) :: (.int 479 0) :: (.str (Str.ofString "/claim/cut.py") 1420) :: []).toArray), [].toArray⟩) ::
  (nat_lit 806, ⟨(.type "function"), none, (fnAt (nthS mainB 44) (Str.ofString "_law_find") .none .none .none (.str (Str.ofString "law_ef5003_01") 1363) none (.ref 805) .none), [].toArray⟩) ::
  (nat_lit 812, ⟨(.type "code"), none, (.fields ((.str (Str.ofString "_law_chain") 1422) :: (.str (Str.ofString "_law_chain") 1423) :: (.str (Str.ofString "/claim/cut.py") 1424) :: (.int 484 0) :: (.int 3 0) :: (.int 0 0) :: (.int 0 0) :: (.int 3 0) :: (.ref 807) :: (.bool true) :: (.int 317 0) :: (.ref 808) :: .none :: (.ref 809) :: (.ref 810) :: (.ref 811) :: (.int 1431 0) :: (.int 484 0) :: (.str (Str.ofString "/claim/cut.py") 1432) :: []).toArray), [].toArray⟩) ::
  (nat_lit 813, ⟨(.type "function"), none, (fnAt (nthS mainB 45) (Str.ofString "_law_chain") .none .none .none (.str (Str.ofString "law_ef5003_01") 1363) none (.ref 812) .none), [].toArray⟩) ::
  (nat_lit 817, ⟨(.type "code"), none, (.fields ((.str (Str.ofString "_law_content") 1434) :: (.str (Str.ofString "_law_content") 1435) :: (.str (Str.ofString "/claim/cut.py") 1436) :: (.int 492 0) :: (.int 3 0) :: (.int 0 0) :: (.int 0 0) :: (.int 3 0) :: (.ref 814) :: (.bool true) :: (.int 317 0) :: (.ref 815) :: .none :: .none :: .none :: (.ref 816) :: (.int 1437 0) :: (.int 492 0) :: (.str (Str.ofString "/claim/cut.py") 1438) :: []).toArray), [].toArray⟩) ::
  (nat_lit 818, ⟨(.type "function"), none, (fnAt (nthS mainB 46) (Str.ofString "_law_content") .none .none .none (.str (Str.ofString "law_ef5003_01") 1363) none (.ref 817) .none), [].toArray⟩) ::
  (nat_lit 824, ⟨(.type "code"), none, (.fields ((.str (Str.ofString "_law_drop") 1440) :: (.str (Str.ofString "_law_drop") 1441) :: (.str (Str.ofString "/claim/cut.py") 1442) :: (.int 498 0) :: (.int 3 0) :: (.int 0 0) :: (.int 0 0) :: (.int 3 0) :: (.ref 819) :: (.bool true) :: (.int 317 0) :: (.ref 820) :: .none :: (.ref 821) :: (.ref 822) :: (.ref 823) :: (.int 1447 0) :: (.int 498 0) :: (.str (Str.ofString "/claim/cut.py") 1448) :: []).toArray), [].toArray⟩) ::
  (nat_lit 825, ⟨(.type "function"), none, (fnAt (nthS mainB 47) (Str.ofString "_law_drop") .none .none .none (.str (Str.ofString "law_ef5003_01") 1363) none (.ref 824) .none), [].toArray⟩) ::
  (nat_lit 829, ⟨(.type "code"), none, (.fields ((.str (Str.ofString "_law_put") 1450) :: (.str (Str.ofString "_law_put") 1451) :: (.str (Str.ofString "/claim/cut.py") 1452) :: (.int 503 0) :: (.int 4 0) :: (.int 0 0) :: (.int 0 0) :: (.int 3 0) :: (.ref 826) :: (.bool true) :: (.int 317 0) :: (.ref 827) :: .none :: .none :: .none :: (.ref 828) :: (.int 1453 0) :: (.int 503 0) :: (.str (Str.ofString "/claim/cut.py") 1454) :: []).toArray), [].toArray⟩) ::
  (nat_lit 830, ⟨(.type "function"), none, (fnAt (nthS mainB 48) (Str.ofString "_law_put") .none .none .none (.str (Str.ofString "law_ef5003_01") 1363) none (.ref 829) .none), [].toArray⟩) ::
  (nat_lit 834, ⟨(.type "code"), none, (.fields ((.str (Str.ofString "_law_sound") 1456) :: (.str (Str.ofString "_law_sound") 1457) :: (.str (Str.ofString "/claim/cut.py") 1458) :: (.int 523 0) :: (.int 3 0) :: (.int 0 0) :: (.int 0 0) :: (.int 3 0) :: (.ref 831) :: (.bool true) :: (.int 317 0) :: (.ref 832) :: .none :: .none :: .none :: (.ref 833) :: (.int 1459 0) :: (.int 523 0) :: (.str (Str.ofString "/claim/cut.py") 1460) :: []).toArray), [].toArray⟩) ::
  (nat_lit 835, ⟨(.type "function"), none, (fnAt (nthS mainB 49) (Str.ofString "_law_sound") .none .none .none (.str (Str.ofString "law_ef5003_01") 1363) none (.ref 834) .none), [].toArray⟩) ::
  (nat_lit 839, ⟨(.type "code"), none, (.fields ((.str (Str.ofString "_law_fits") 1462) :: (.str (Str.ofString "_law_fits") 1463) :: (.str (Str.ofString "/claim/cut.py") 1464) :: (.int 535 0) :: (.int 3 0) :: (.int 0 0) :: (.int 0 0) :: (.int 3 0) :: (.ref 836) :: (.bool true) :: (.int 317 0) :: (.ref 837) :: .none :: .none :: .none :: (.ref 838) :: (.int 1465 0) :: (.int 535 0) :: (.str (Str.ofString "/claim/cut.py") 1466) :: []).toArray), [].toArray⟩) ::
  (nat_lit 840, ⟨(.type "function"), none, (fnAt (nthS mainB 50) (Str.ofString "_law_fits") .none .none .none (.str (Str.ofString "law_ef5003_01") 1363) none (.ref 839) .none), [].toArray⟩) ::
  (nat_lit 844, ⟨(.type "code"), none, (.fields ((.str (Str.ofString "_law_listed") 1468) :: (.str (Str.ofString "_law_listed") 1469) :: (.str (Str.ofString "/claim/cut.py") 1470) :: (.int 538 0) :: (.int 1 0) :: (.int 0 0) :: (.int 0 0) :: (.int 3 0) :: (.ref 841) :: (.bool true) :: (.int 317 0) :: (.ref 842) :: .none :: .none :: .none :: (.ref 843) :: (.int 1471 0) :: (.int 538 0) :: (.str (Str.ofString "/claim/cut.py") 1472) :: []).toArray), [].toArray⟩) ::
  (nat_lit 845, ⟨(.type "function"), none, (fnAt (nthS mainB 51) (Str.ofString "_law_listed") .none .none .none (.str (Str.ofString "law_ef5003_01") 1363) none (.ref 844) .none), [].toArray⟩) ::
  (nat_lit 849, ⟨(.type "code"), none, (.fields ((.str (Str.ofString "law") 1474) :: (.str (Str.ofString "law") 1475) :: (.str (Str.ofString "/claim/cut.py") 1476) :: (.int 540 0) :: (.int 1 0) :: (.int 0 0) :: (.int 0 0) :: (.int 3 0) :: (.ref 846) :: (.bool true) :: (.int 317 0) :: (.ref 847) :: .none :: .none :: .none :: (.ref 848) :: (.int 1477 0) :: (.int 540 0) :: (.str (Str.ofString "/claim/cut.py") 1478) :: []).toArray), [].toArray⟩) ::
  (nat_lit 850, ⟨(.type "function"), none, (fnAt (nthS mainB 52) (Str.ofString "law") .none .none .none (.str (Str.ofString "law_ef5003_01") 1363) none (.ref 849) .none), [].toArray⟩) ::
  []) (Eq.refl 0)
abbrev myAs : List Addr := nat_lit 2 :: nat_lit 3 :: nat_lit 50 :: nat_lit 51 :: nat_lit 52 :: nat_lit 53 :: nat_lit 62 :: nat_lit 63 :: nat_lit 76 :: nat_lit 77 :: nat_lit 90 :: nat_lit 91 :: nat_lit 104 :: nat_lit 105 :: nat_lit 118 :: nat_lit 119 :: nat_lit 130 :: nat_lit 131 :: nat_lit 142 :: nat_lit 143 :: nat_lit 151 :: nat_lit 152 :: nat_lit 158 :: nat_lit 159 :: nat_lit 165 :: nat_lit 166 :: nat_lit 180 :: nat_lit 181 :: nat_lit 187 :: nat_lit 188 :: nat_lit 194 :: nat_lit 195 :: nat_lit 215 :: nat_lit 216 :: nat_lit 229 :: nat_lit 230 :: nat_lit 247 :: nat_lit 248 :: nat_lit 249 :: nat_lit 250 :: nat_lit 339 :: nat_lit 345 :: nat_lit 346 :: nat_lit 359 :: nat_lit 360 :: nat_lit 366 :: nat_lit 367 :: nat_lit 373 :: nat_lit 374 :: nat_lit 380 :: nat_lit 381 :: nat_lit 387 :: nat_lit 388 :: nat_lit 394 :: nat_lit 395 :: nat_lit 401 :: nat_lit 402 :: nat_lit 408 :: nat_lit 409 :: nat_lit 415 :: nat_lit 416 :: nat_lit 422 :: nat_lit 423 :: nat_lit 429 :: nat_lit 430 :: nat_lit 436 :: nat_lit 437 :: nat_lit 438 :: nat_lit 444 :: nat_lit 445 :: nat_lit 472 :: nat_lit 473 :: nat_lit 479 :: nat_lit 480 :: nat_lit 493 :: nat_lit 494 :: nat_lit 495 :: nat_lit 501 :: nat_lit 502 :: nat_lit 503 :: nat_lit 509 :: nat_lit 510 :: nat_lit 524 :: nat_lit 525 :: nat_lit 608 :: nat_lit 609 :: nat_lit 636 :: nat_lit 637 :: nat_lit 699 :: nat_lit 700 :: nat_lit 706 :: nat_lit 707 :: nat_lit 720 :: nat_lit 721 :: nat_lit 727 :: nat_lit 728 :: nat_lit 731 :: nat_lit 732 :: nat_lit 733 :: nat_lit 734 :: nat_lit 735 :: nat_lit 736 :: nat_lit 737 :: nat_lit 738 :: nat_lit 739 :: nat_lit 740 :: nat_lit 741 :: nat_lit 742 :: nat_lit 743 :: nat_lit 746 :: nat_lit 752 :: nat_lit 753 :: nat_lit 754 :: nat_lit 760 :: nat_lit 761 :: nat_lit 767 :: nat_lit 768 :: nat_lit 774 :: nat_lit 775 :: nat_lit 779 :: nat_lit 780 :: nat_lit 784 :: nat_lit 785 :: nat_lit 791 :: nat_lit 792 :: nat_lit 798 :: nat_lit 799 :: nat_lit 805 :: nat_lit 806 :: nat_lit 812 :: nat_lit 813 :: nat_lit 817 :: nat_lit 818 :: nat_lit 824 :: nat_lit 825 :: nat_lit 829 :: nat_lit 830 :: nat_lit 834 :: nat_lit 835 :: nat_lit 839 :: nat_lit 840 :: nat_lit 844 :: nat_lit 845 :: nat_lit 849 :: nat_lit 850 :: []
end Fb

/-! G0 -/
namespace Fb
section
variable {p : Params}

theorem fill0 : nsIn (myK p) mainGlobals "law" = some (some (.ref 850)) ∧ PySem.Challenge.rw_ef5003_01 = PySem.Challenge.rw_ef5003_01 := by
  k_fill
  exact ⟨by k_is, rfl⟩
theorem grp1 : (((((nsIn (myK p) mainGlobals "enforce_number" = some (some (Value.ref 152)) ∧ (("enforce_number" : Str) == ("__debug__" : Str)) = false) ∧ ((nsIn (myK p) mainGlobals "Get" = some (some (Value.ref 159)) ∧ (("Get" : Str) == ("__debug__" : Str)) = false) ∧ (nsIn (myK p) mainGlobals "Get_encode" = some (some (Value.ref 159)) ∧ (("Get_encode" : Str) == ("__debug__" : Str)) = false))) ∧ ((nsIn (myK p) mainGlobals "Write" = some (some (Value.ref 166)) ∧ (("Write" : Str) == ("__debug__" : Str)) = false) ∧ ((nsIn (myK p) mainGlobals "Table" = some (some (Value.ref 248)) ∧ (("Table" : Str) == ("__debug__" : Str)) = false) ∧ (nsIn (myK p) mainGlobals "Builder" = some (some (Value.ref 732)) ∧ (("Builder" : Str) == ("__debug__" : Str)) = false)))) ∧ (((nsIn (myK p) mainGlobals "GetBufferIdentifier" = some (some (Value.ref 753)) ∧ (("GetBufferIdentifier" : Str) == ("__debug__" : Str)) = false) ∧ ((nsIn (myK p) mainGlobals "BufferHasIdentifier" = some (some (Value.ref 761)) ∧ (("BufferHasIdentifier" : Str) == ("__debug__" : Str)) = false) ∧ (nsIn (myK p) mainGlobals "_law_row" = some (some (Value.ref 768)) ∧ (("_law_row" : Str) == ("__debug__" : Str)) = false))) ∧ ((nsIn (myK p) mainGlobals "_law_need" = some (some (Value.ref 775)) ∧ (("_law_need" : Str) == ("__debug__" : Str)) = false) ∧ ((nsIn (myK p) mainGlobals "_law_image" = some (some (Value.ref 780)) ∧ (("_law_image" : Str) == ("__debug__" : Str)) = false) ∧ (nsIn (myK p) mainGlobals "_law_open" = some (some (Value.ref 785)) ∧ (("_law_open" : Str) == ("__debug__" : Str)) = false))))) ∧ ((((nsIn (myK p) mainGlobals "_law_at" = some (some (Value.ref 792)) ∧ (("_law_at" : Str) == ("__debug__" : Str)) = false) ∧ ((nsIn (myK p) mainGlobals "_law_set" = some (some (Value.ref 799)) ∧ (("_law_set" : Str) == ("__debug__" : Str)) = false) ∧ (nsIn (myK p) mainGlobals "_law_find" = some (some (Value.ref 806)) ∧ (("_law_find" : Str) == ("__debug__" : Str)) = false))) ∧ ((nsIn (myK p) mainGlobals "_law_chain" = some (some (Value.ref 813)) ∧ (("_law_chain" : Str) == ("__debug__" : Str)) = false) ∧ ((nsIn (myK p) mainGlobals "_law_content" = some (some (Value.ref 818)) ∧ (("_law_content" : Str) == ("__debug__" : Str)) = false) ∧ (nsIn (myK p) mainGlobals "_law_drop" = some (some (Value.ref 825)) ∧ (("_law_drop" : Str) == ("__debug__" : Str)) = false)))) ∧ (((nsIn (myK p) mainGlobals "_law_put" = some (some (Value.ref 830)) ∧ (("_law_put" : Str) == ("__debug__" : Str)) = false) ∧ ((nsIn (myK p) mainGlobals "_law_sound" = some (some (Value.ref 835)) ∧ (("_law_sound" : Str) == ("__debug__" : Str)) = false) ∧ (nsIn (myK p) mainGlobals "_law_fits" = some (some (Value.ref 840)) ∧ (("_law_fits" : Str) == ("__debug__" : Str)) = false))) ∧ ((nsIn (myK p) mainGlobals "_law_listed" = some (some (Value.ref 845)) ∧ (("_law_listed" : Str) == ("__debug__" : Str)) = false) ∧ ((nsIn (myK p) mainGlobals "uoffset" = some (some (Value.ref 52)) ∧ (("uoffset" : Str) == ("__debug__" : Str)) = false) ∧ (nsIn (myK p) mainGlobals "soffset" = some (some (Value.ref 53)) ∧ (("soffset" : Str) == ("__debug__" : Str)) = false)))))) := ⟨⟨⟨⟨⟨by k_is, by decide +kernel⟩, ⟨⟨by k_is, by decide +kernel⟩, ⟨by k_is, by decide +kernel⟩⟩⟩, ⟨⟨by k_is, by decide +kernel⟩, ⟨⟨by k_is, by decide +kernel⟩, ⟨by k_is, by decide +kernel⟩⟩⟩⟩, ⟨⟨⟨by k_is, by decide +kernel⟩, ⟨⟨by k_is, by decide +kernel⟩, ⟨by k_is, by decide +kernel⟩⟩⟩, ⟨⟨by k_is, by decide +kernel⟩, ⟨⟨by k_is, by decide +kernel⟩, ⟨by k_is, by decide +kernel⟩⟩⟩⟩⟩, ⟨⟨⟨⟨by k_is, by decide +kernel⟩, ⟨⟨by k_is, by decide +kernel⟩, ⟨by k_is, by decide +kernel⟩⟩⟩, ⟨⟨by k_is, by decide +kernel⟩, ⟨⟨by k_is, by decide +kernel⟩, ⟨by k_is, by decide +kernel⟩⟩⟩⟩, ⟨⟨⟨by k_is, by decide +kernel⟩, ⟨⟨by k_is, by decide +kernel⟩, ⟨by k_is, by decide +kernel⟩⟩⟩, ⟨⟨by k_is, by decide +kernel⟩, ⟨⟨by k_is, by decide +kernel⟩, ⟨by k_is, by decide +kernel⟩⟩⟩⟩⟩⟩
theorem g_enforce_number : nsIn (myK p) mainGlobals "enforce_number" = some (some (Value.ref 152)) ∧ (("enforce_number" : Str) == ("__debug__" : Str)) = false := grp1.1.1.1.1
theorem g_Get : nsIn (myK p) mainGlobals "Get" = some (some (Value.ref 159)) ∧ (("Get" : Str) == ("__debug__" : Str)) = false := grp1.1.1.1.2.1
theorem g_Get_encode : nsIn (myK p) mainGlobals "Get_encode" = some (some (Value.ref 159)) ∧ (("Get_encode" : Str) == ("__debug__" : Str)) = false := grp1.1.1.1.2.2
theorem g_Write : nsIn (myK p) mainGlobals "Write" = some (some (Value.ref 166)) ∧ (("Write" : Str) == ("__debug__" : Str)) = false := grp1.1.1.2.1
theorem g_Table : nsIn (myK p) mainGlobals "Table" = some (some (Value.ref 248)) ∧ (("Table" : Str) == ("__debug__" : Str)) = false := grp1.1.1.2.2.1
theorem g_Builder : nsIn (myK p) mainGlobals "Builder" = some (some (Value.ref 732)) ∧ (("Builder" : Str) == ("__debug__" : Str)) = false := grp1.1.1.2.2.2
theorem g_GetBufferIdentifier : nsIn (myK p) mainGlobals "GetBufferIdentifier" = some (some (Value.ref 753)) ∧ (("GetBufferIdentifier" : Str) == ("__debug__" : Str)) = false := grp1.1.2.1.1
theorem g_BufferHasIdentifier : nsIn (myK p) mainGlobals "BufferHasIdentifier" = some (some (Value.ref 761)) ∧ (("BufferHasIdentifier" : Str) == ("__debug__" : Str)) = false := grp1.1.2.1.2.1
theorem g__law_row : nsIn (myK p) mainGlobals "_law_row" = some (some (Value.ref 768)) ∧ (("_law_row" : Str) == ("__debug__" : Str)) = false := grp1.1.2.1.2.2
theorem g__law_need : nsIn (myK p) mainGlobals "_law_need" = some (some (Value.ref 775)) ∧ (("_law_need" : Str) == ("__debug__" : Str)) = false := grp1.1.2.2.1
theorem g__law_image : nsIn (myK p) mainGlobals "_law_image" = some (some (Value.ref 780)) ∧ (("_law_image" : Str) == ("__debug__" : Str)) = false := grp1.1.2.2.2.1
theorem g__law_open : nsIn (myK p) mainGlobals "_law_open" = some (some (Value.ref 785)) ∧ (("_law_open" : Str) == ("__debug__" : Str)) = false := grp1.1.2.2.2.2
theorem g__law_at : nsIn (myK p) mainGlobals "_law_at" = some (some (Value.ref 792)) ∧ (("_law_at" : Str) == ("__debug__" : Str)) = false := grp1.2.1.1.1
theorem g__law_set : nsIn (myK p) mainGlobals "_law_set" = some (some (Value.ref 799)) ∧ (("_law_set" : Str) == ("__debug__" : Str)) = false := grp1.2.1.1.2.1
theorem g__law_find : nsIn (myK p) mainGlobals "_law_find" = some (some (Value.ref 806)) ∧ (("_law_find" : Str) == ("__debug__" : Str)) = false := grp1.2.1.1.2.2
theorem g__law_chain : nsIn (myK p) mainGlobals "_law_chain" = some (some (Value.ref 813)) ∧ (("_law_chain" : Str) == ("__debug__" : Str)) = false := grp1.2.1.2.1
theorem g__law_content : nsIn (myK p) mainGlobals "_law_content" = some (some (Value.ref 818)) ∧ (("_law_content" : Str) == ("__debug__" : Str)) = false := grp1.2.1.2.2.1
theorem g__law_drop : nsIn (myK p) mainGlobals "_law_drop" = some (some (Value.ref 825)) ∧ (("_law_drop" : Str) == ("__debug__" : Str)) = false := grp1.2.1.2.2.2
theorem g__law_put : nsIn (myK p) mainGlobals "_law_put" = some (some (Value.ref 830)) ∧ (("_law_put" : Str) == ("__debug__" : Str)) = false := grp1.2.2.1.1
theorem g__law_sound : nsIn (myK p) mainGlobals "_law_sound" = some (some (Value.ref 835)) ∧ (("_law_sound" : Str) == ("__debug__" : Str)) = false := grp1.2.2.1.2.1
theorem g__law_fits : nsIn (myK p) mainGlobals "_law_fits" = some (some (Value.ref 840)) ∧ (("_law_fits" : Str) == ("__debug__" : Str)) = false := grp1.2.2.1.2.2
theorem g__law_listed : nsIn (myK p) mainGlobals "_law_listed" = some (some (Value.ref 845)) ∧ (("_law_listed" : Str) == ("__debug__" : Str)) = false := grp1.2.2.2.1
theorem g_uoffset : nsIn (myK p) mainGlobals "uoffset" = some (some (Value.ref 52)) ∧ (("uoffset" : Str) == ("__debug__" : Str)) = false := grp1.2.2.2.2.1
theorem g_soffset : nsIn (myK p) mainGlobals "soffset" = some (some (Value.ref 53)) ∧ (("soffset" : Str) == ("__debug__" : Str)) = false := grp1.2.2.2.2.2
theorem grp2 : ((((nsIn (myK p) mainGlobals "Uint8Flags" = some (some (Value.ref 63)) ∧ (("Uint8Flags" : Str) == ("__debug__" : Str)) = false) ∧ (nsIn (myK p) mainGlobals "Uint16Flags" = some (some (Value.ref 77)) ∧ (("Uint16Flags" : Str) == ("__debug__" : Str)) = false)) ∧ ((nsIn (myK p) mainGlobals "Uint32Flags" = some (some (Value.ref 91)) ∧ (("Uint32Flags" : Str) == ("__debug__" : Str)) = false) ∧ ((nsIn (myK p) mainGlobals "Int32Flags" = some (some (Value.ref 105)) ∧ (("Int32Flags" : Str) == ("__debug__" : Str)) = false) ∧ (nsIn (myK p) mainGlobals "SOffsetTFlags" = some (some (Value.ref 119)) ∧ (("SOffsetTFlags" : Str) == ("__debug__" : Str)) = false)))) ∧ (((nsIn (myK p) mainGlobals "UOffsetTFlags" = some (some (Value.ref 131)) ∧ (("UOffsetTFlags" : Str) == ("__debug__" : Str)) = false) ∧ (nsIn (myK p) mainGlobals "VOffsetTFlags" = some (some (Value.ref 143)) ∧ (("VOffsetTFlags" : Str) == ("__debug__" : Str)) = false)) ∧ ((nsIn (myK p) mainGlobals "FILE_IDENTIFIER_LENGTH" = some (some (Value.int 4 545)) ∧ (("FILE_IDENTIFIER_LENGTH" : Str) == ("__debug__" : Str)) = false) ∧ ((nsIn (myK p) mainGlobals "VtableMetadataFields" = some (some (Value.int 2 793)) ∧ (("VtableMetadataFields" : Str) == ("__debug__" : Str)) = false) ∧ (nsIn (myK p) mainGlobals "unpack" = some (some (Value.builtin "_struct.unpack")) ∧ (("unpack" : Str) == ("__debug__" : Str)) = false))))) := ⟨⟨⟨⟨by k_is, by decide +kernel⟩, ⟨by k_is, by decide +kernel⟩⟩, ⟨⟨by k_is, by decide +kernel⟩, ⟨⟨by k_is, by decide +kernel⟩, ⟨by k_is, by decide +kernel⟩⟩⟩⟩, ⟨⟨⟨by k_is, by decide +kernel⟩, ⟨by k_is, by decide +kernel⟩⟩, ⟨⟨by k_is, by decide +kernel⟩, ⟨⟨by k_is, by decide +kernel⟩, ⟨by k_is, by decide +kernel⟩⟩⟩⟩⟩
theorem g_Uint8Flags : nsIn (myK p) mainGlobals "Uint8Flags" = some (some (Value.ref 63)) ∧ (("Uint8Flags" : Str) == ("__debug__" : Str)) = false := grp2.1.1.1
theorem g_Uint16Flags : nsIn (myK p) mainGlobals "Uint16Flags" = some (some (Value.ref 77)) ∧ (("Uint16Flags" : Str) == ("__debug__" : Str)) = false := grp2.1.1.2
theorem g_Uint32Flags : nsIn (myK p) mainGlobals "Uint32Flags" = some (some (Value.ref 91)) ∧ (("Uint32Flags" : Str) == ("__debug__" : Str)) = false := grp2.1.2.1
theorem g_Int32Flags : nsIn (myK p) mainGlobals "Int32Flags" = some (some (Value.ref 105)) ∧ (("Int32Flags" : Str) == ("__debug__" : Str)) = false := grp2.1.2.2.1
theorem g_SOffsetTFlags : nsIn (myK p) mainGlobals "SOffsetTFlags" = some (some (Value.ref 119)) ∧ (("SOffsetTFlags" : Str) == ("__debug__" : Str)) = false := grp2.1.2.2.2
theorem g_UOffsetTFlags : nsIn (myK p) mainGlobals "UOffsetTFlags" = some (some (Value.ref 131)) ∧ (("UOffsetTFlags" : Str) == ("__debug__" : Str)) = false := grp2.2.1.1
theorem g_VOffsetTFlags : nsIn (myK p) mainGlobals "VOffsetTFlags" = some (some (Value.ref 143)) ∧ (("VOffsetTFlags" : Str) == ("__debug__" : Str)) = false := grp2.2.1.2
theorem g_FILE_IDENTIFIER_LENGTH : nsIn (myK p) mainGlobals "FILE_IDENTIFIER_LENGTH" = some (some (Value.int 4 545)) ∧ (("FILE_IDENTIFIER_LENGTH" : Str) == ("__debug__" : Str)) = false := grp2.2.2.1
theorem g_VtableMetadataFields : nsIn (myK p) mainGlobals "VtableMetadataFields" = some (some (Value.int 2 793)) ∧ (("VtableMetadataFields" : Str) == ("__debug__" : Str)) = false := grp2.2.2.2.1
theorem g_unpack : nsIn (myK p) mainGlobals "unpack" = some (some (Value.builtin "_struct.unpack")) ∧ (("unpack" : Str) == ("__debug__" : Str)) = false := grp2.2.2.2.2
theorem grp3 : ((((nsIn (myK p) mainGlobals "len" = some none ∧ bootBuiltins "len" = some (.builtin "len") ∧ ("len" : Str) ≠ "__name__" ∧ (("len" : Str) == ("__debug__" : Str)) = false) ∧ (nsIn (myK p) mainGlobals "reversed" = some none ∧ bootBuiltins "reversed" = some (.type "reversed") ∧ ("reversed" : Str) ≠ "__name__" ∧ (("reversed" : Str) == ("__debug__" : Str)) = false)) ∧ ((nsIn (myK p) mainGlobals "range" = some none ∧ bootBuiltins "range" = some (.type "range") ∧ ("range" : Str) ≠ "__name__" ∧ (("range" : Str) == ("__debug__" : Str)) = false) ∧ (nsIn (myK p) mainGlobals "bytearray" = some none ∧ bootBuiltins "bytearray" = some (.type "bytearray") ∧ ("bytearray" : Str) ≠ "__name__" ∧ (("bytearray" : Str) == ("__debug__" : Str)) = false))) ∧ (((nsIn (myK p) mainGlobals "bytes" = some none ∧ bootBuiltins "bytes" = some (.type "bytes") ∧ ("bytes" : Str) ≠ "__name__" ∧ (("bytes" : Str) == ("__debug__" : Str)) = false) ∧ (nsIn (myK p) mainGlobals "min" = some none ∧ bootBuiltins "min" = some (.builtin "min") ∧ ("min" : Str) ≠ "__name__" ∧ (("min" : Str) == ("__debug__" : Str)) = false)) ∧ ((nsIn (myK p) mainGlobals "sum" = some none ∧ bootBuiltins "sum" = some (.builtin "sum") ∧ ("sum" : Str) ≠ "__name__" ∧ (("sum" : Str) == ("__debug__" : Str)) = false) ∧ ((nsIn (myK p) mainGlobals "sorted" = some none ∧ bootBuiltins "sorted" = some (.builtin "sorted") ∧ ("sorted" : Str) ≠ "__name__" ∧ (("sorted" : Str) == ("__debug__" : Str)) = false) ∧ (nsIn (myK p) mainGlobals "tuple" = some none ∧ bootBuiltins "tuple" = some (.type "tuple") ∧ ("tuple" : Str) ≠ "__name__" ∧ (("tuple" : Str) == ("__debug__" : Str)) = false))))) := ⟨⟨⟨⟨by k_is, by kernel_rfl, by decide +kernel, by decide +kernel⟩, ⟨by k_is, by kernel_rfl, by decide +kernel, by decide +kernel⟩⟩, ⟨⟨by k_is, by kernel_rfl, by decide +kernel, by decide +kernel⟩, ⟨by k_is, by kernel_rfl, by decide +kernel, by decide +kernel⟩⟩⟩, ⟨⟨⟨by k_is, by kernel_rfl, by decide +kernel, by decide +kernel⟩, ⟨by k_is, by kernel_rfl, by decide +kernel, by decide +kernel⟩⟩, ⟨⟨by k_is, by kernel_rfl, by decide +kernel, by decide +kernel⟩, ⟨⟨by k_is, by kernel_rfl, by decide +kernel, by decide +kernel⟩, ⟨by k_is, by kernel_rfl, by decide +kernel, by decide +kernel⟩⟩⟩⟩⟩
theorem b_len : nsIn (myK p) mainGlobals "len" = some none ∧ bootBuiltins "len" = some (.builtin "len") ∧ ("len" : Str) ≠ "__name__" ∧ (("len" : Str) == ("__debug__" : Str)) = false := grp3.1.1.1
theorem b_reversed : nsIn (myK p) mainGlobals "reversed" = some none ∧ bootBuiltins "reversed" = some (.type "reversed") ∧ ("reversed" : Str) ≠ "__name__" ∧ (("reversed" : Str) == ("__debug__" : Str)) = false := grp3.1.1.2
theorem b_range : nsIn (myK p) mainGlobals "range" = some none ∧ bootBuiltins "range" = some (.type "range") ∧ ("range" : Str) ≠ "__name__" ∧ (("range" : Str) == ("__debug__" : Str)) = false := grp3.1.2.1
theorem b_bytearray : nsIn (myK p) mainGlobals "bytearray" = some none ∧ bootBuiltins "bytearray" = some (.type "bytearray") ∧ ("bytearray" : Str) ≠ "__name__" ∧ (("bytearray" : Str) == ("__debug__" : Str)) = false := grp3.1.2.2
theorem b_bytes : nsIn (myK p) mainGlobals "bytes" = some none ∧ bootBuiltins "bytes" = some (.type "bytes") ∧ ("bytes" : Str) ≠ "__name__" ∧ (("bytes" : Str) == ("__debug__" : Str)) = false := grp3.2.1.1
theorem b_min : nsIn (myK p) mainGlobals "min" = some none ∧ bootBuiltins "min" = some (.builtin "min") ∧ ("min" : Str) ≠ "__name__" ∧ (("min" : Str) == ("__debug__" : Str)) = false := grp3.2.1.2
theorem b_sum : nsIn (myK p) mainGlobals "sum" = some none ∧ bootBuiltins "sum" = some (.builtin "sum") ∧ ("sum" : Str) ≠ "__name__" ∧ (("sum" : Str) == ("__debug__" : Str)) = false := grp3.2.2.1
theorem b_sorted : nsIn (myK p) mainGlobals "sorted" = some none ∧ bootBuiltins "sorted" = some (.builtin "sorted") ∧ ("sorted" : Str) ≠ "__name__" ∧ (("sorted" : Str) == ("__debug__" : Str)) = false := grp3.2.2.2.1
theorem b_tuple : nsIn (myK p) mainGlobals "tuple" = some none ∧ bootBuiltins "tuple" = some (.type "tuple") ∧ ("tuple" : Str) ≠ "__name__" ∧ (("tuple" : Str) == ("__debug__" : Str)) = false := grp3.2.2.2.2
theorem pg_248 (a : Str) : plainGet (myK p) 248 a = true := by
  have h : plainGet (myK p) 248 "a" = true := by k_is
  unfold plainGet at h ⊢
  exact h
theorem ic_248 : isClsIn (myK p) 248 = true := by k_is
theorem sa_248 : findIn (myK p) (.ref 248) "__setattr__" = some (some (.builtin "object.__setattr__")) := by k_is
theorem po_248 : plainOver (myK p) 248 = true := by k_is
theorem pg_732 (a : Str) : plainGet (myK p) 732 a = true := by
  have h : plainGet (myK p) 732 "a" = true := by k_is
  unfold plainGet at h ⊢
  exact h
theorem ic_732 : isClsIn (myK p) 732 = true := by k_is
theorem sa_732 : findIn (myK p) (.ref 732) "__setattr__" = some (some (.builtin "object.__setattr__")) := by k_is
theorem po_732 : plainOver (myK p) 732 = true := by k_is
theorem ty_63 : typeIn (myK p) (.ref 63) = some (.type "type") := by k_is
theorem rd_63 : readsIn (myK p) 63 (.type "type") = true := by k_is
theorem ty_77 : typeIn (myK p) (.ref 77) = some (.type "type") := by k_is
theorem rd_77 : readsIn (myK p) 77 (.type "type") = true := by k_is
theorem ty_91 : typeIn (myK p) (.ref 91) = some (.type "type") := by k_is
theorem rd_91 : readsIn (myK p) 91 (.type "type") = true := by k_is
theorem ty_105 : typeIn (myK p) (.ref 105) = some (.type "type") := by k_is
theorem rd_105 : readsIn (myK p) 105 (.type "type") = true := by k_is
theorem ty_119 : typeIn (myK p) (.ref 119) = some (.type "type") := by k_is
theorem rd_119 : readsIn (myK p) 119 (.type "type") = true := by k_is
theorem ty_131 : typeIn (myK p) (.ref 131) = some (.type "type") := by k_is
theorem rd_131 : readsIn (myK p) 131 (.type "type") = true := by k_is
theorem ty_143 : typeIn (myK p) (.ref 143) = some (.type "type") := by k_is
theorem rd_143 : readsIn (myK p) 143 (.type "type") = true := by k_is
theorem ty_732 : typeIn (myK p) (.ref 732) = some (.type "type") := by k_is
theorem rd_732 : readsIn (myK p) 732 (.type "type") = true := by k_is
theorem mt_py : findIn (myK p) (.type "type") "py_type" = some none := by k_is
theorem grp4 : ((((SlotK (myK p) 248 "Bytes" 0 249) ∧ ((SlotK (myK p) 248 "Pos" 1 250) ∧ (SlotK (myK p) 732 "Bytes" 0 733))) ∧ ((SlotK (myK p) 732 "current_vtable" 1 734) ∧ ((SlotK (myK p) 732 "head" 4 737) ∧ (SlotK (myK p) 732 "minalign" 5 738)))) ∧ (((SlotK (myK p) 732 "objectEnd" 7 740) ∧ ((SlotK (myK p) 732 "vtables" 10 743) ∧ (SlotK (myK p) 732 "nested" 6 739))) ∧ (((SlotK (myK p) 732 "forceDefaults" 3 736) ∧ (SlotK (myK p) 732 "finished" 2 735)) ∧ ((SlotK (myK p) 732 "vectorNumElems" 9 742) ∧ (SlotK (myK p) 732 "sharedStrings" 8 741))))) := ⟨⟨⟨⟨pg_248 _, ic_248, by k_is, by k_is, by k_is, by k_is, sa_248, po_248, by k_is, by k_is⟩, ⟨⟨pg_248 _, ic_248, by k_is, by k_is, by k_is, by k_is, sa_248, po_248, by k_is, by k_is⟩, ⟨pg_732 _, ic_732, by k_is, by k_is, by k_is, by k_is, sa_732, po_732, by k_is, by k_is⟩⟩⟩, ⟨⟨pg_732 _, ic_732, by k_is, by k_is, by k_is, by k_is, sa_732, po_732, by k_is, by k_is⟩, ⟨⟨pg_732 _, ic_732, by k_is, by k_is, by k_is, by k_is, sa_732, po_732, by k_is, by k_is⟩, ⟨pg_732 _, ic_732, by k_is, by k_is, by k_is, by k_is, sa_732, po_732, by k_is, by k_is⟩⟩⟩⟩, ⟨⟨⟨pg_732 _, ic_732, by k_is, by k_is, by k_is, by k_is, sa_732, po_732, by k_is, by k_is⟩, ⟨⟨pg_732 _, ic_732, by k_is, by k_is, by k_is, by k_is, sa_732, po_732, by k_is, by k_is⟩, ⟨pg_732 _, ic_732, by k_is, by k_is, by k_is, by k_is, sa_732, po_732, by k_is, by k_is⟩⟩⟩, ⟨⟨⟨pg_732 _, ic_732, by k_is, by k_is, by k_is, by k_is, sa_732, po_732, by k_is, by k_is⟩, ⟨pg_732 _, ic_732, by k_is, by k_is, by k_is, by k_is, sa_732, po_732, by k_is, by k_is⟩⟩, ⟨⟨pg_732 _, ic_732, by k_is, by k_is, by k_is, by k_is, sa_732, po_732, by k_is, by k_is⟩, ⟨pg_732 _, ic_732, by k_is, by k_is, by k_is, by k_is, sa_732, po_732, by k_is, by k_is⟩⟩⟩⟩⟩
theorem s_T_Bytes : SlotK (myK p) 248 "Bytes" 0 249 := grp4.1.1.1
theorem s_T_Pos : SlotK (myK p) 248 "Pos" 1 250 := grp4.1.1.2.1
theorem s_B_Bytes : SlotK (myK p) 732 "Bytes" 0 733 := grp4.1.1.2.2
theorem s_B_current_vtable : SlotK (myK p) 732 "current_vtable" 1 734 := grp4.1.2.1
theorem s_B_head : SlotK (myK p) 732 "head" 4 737 := grp4.1.2.2.1
theorem s_B_minalign : SlotK (myK p) 732 "minalign" 5 738 := grp4.1.2.2.2
theorem s_B_objectEnd : SlotK (myK p) 732 "objectEnd" 7 740 := grp4.2.1.1
theorem s_B_vtables : SlotK (myK p) 732 "vtables" 10 743 := grp4.2.1.2.1
theorem s_B_nested : SlotK (myK p) 732 "nested" 6 739 := grp4.2.1.2.2
theorem s_B_forceDefaults : SlotK (myK p) 732 "forceDefaults" 3 736 := grp4.2.2.1.1
theorem s_B_finished : SlotK (myK p) 732 "finished" 2 735 := grp4.2.2.1.2
theorem s_B_vectorNumElems : SlotK (myK p) 732 "vectorNumElems" 9 742 := grp4.2.2.2.1
theorem s_B_sharedStrings : SlotK (myK p) 732 "sharedStrings" 8 741 := grp4.2.2.2.2
theorem grp5 : (((((MethK (myK p) 248 "Offset" 188) ∧ ((MethK (myK p) 248 "Indirect" 195) ∧ (MethK (myK p) 248 "Vector" 216))) ∧ ((MethK (myK p) 248 "Get" 230) ∧ ((MethK (myK p) 732 "Output" 360) ∧ (MethK (myK p) 732 "StartObject" 367)))) ∧ (((MethK (myK p) 732 "WriteVtable" 374) ∧ ((MethK (myK p) 732 "EndObject" 381) ∧ (MethK (myK p) 732 "GrowByteBuffer" 388))) ∧ ((MethK (myK p) 732 "Head" 395) ∧ ((MethK (myK p) 732 "Offset" 402) ∧ (MethK (myK p) 732 "Pad" 409))))) ∧ ((((MethK (myK p) 732 "Prep" 416) ∧ ((MethK (myK p) 732 "PrependSOffsetTRelative" 423) ∧ (MethK (myK p) 732 "PrependUOffsetTRelative" 430))) ∧ ((MethK (myK p) 732 "StartVector" 437) ∧ ((MethK (myK p) 732 "EndVector" 445) ∧ (MethK (myK p) 732 "assertNested" 473)))) ∧ (((MethK (myK p) 732 "assertNotNested" 480) ∧ ((MethK (myK p) 732 "Slot" 494) ∧ (MethK (myK p) 732 "_Builder__Finish" 502))) ∧ ((MethK (myK p) 732 "Finish" 510) ∧ ((MethK (myK p) 732 "Prepend" 525) ∧ (MethK (myK p) 732 "PrependUOffsetTRelativeSlot" 609)))))) := ⟨⟨⟨⟨⟨pg_248 _, by k_is, by k_is⟩, ⟨⟨pg_248 _, by k_is, by k_is⟩, ⟨pg_248 _, by k_is, by k_is⟩⟩⟩, ⟨⟨pg_248 _, by k_is, by k_is⟩, ⟨⟨pg_732 _, by k_is, by k_is⟩, ⟨pg_732 _, by k_is, by k_is⟩⟩⟩⟩, ⟨⟨⟨pg_732 _, by k_is, by k_is⟩, ⟨⟨pg_732 _, by k_is, by k_is⟩, ⟨pg_732 _, by k_is, by k_is⟩⟩⟩, ⟨⟨pg_732 _, by k_is, by k_is⟩, ⟨⟨pg_732 _, by k_is, by k_is⟩, ⟨pg_732 _, by k_is, by k_is⟩⟩⟩⟩⟩, ⟨⟨⟨⟨pg_732 _, by k_is, by k_is⟩, ⟨⟨pg_732 _, by k_is, by k_is⟩, ⟨pg_732 _, by k_is, by k_is⟩⟩⟩, ⟨⟨pg_732 _, by k_is, by k_is⟩, ⟨⟨pg_732 _, by k_is, by k_is⟩, ⟨pg_732 _, by k_is, by k_is⟩⟩⟩⟩, ⟨⟨⟨pg_732 _, by k_is, by k_is⟩, ⟨⟨pg_732 _, by k_is, by k_is⟩, ⟨pg_732 _, by k_is, by k_is⟩⟩⟩, ⟨⟨pg_732 _, by k_is, by k_is⟩, ⟨⟨pg_732 _, by k_is, by k_is⟩, ⟨pg_732 _, by k_is, by k_is⟩⟩⟩⟩⟩⟩
theorem m_T_Offset : MethK (myK p) 248 "Offset" 188 := grp5.1.1.1.1
theorem m_T_Indirect : MethK (myK p) 248 "Indirect" 195 := grp5.1.1.1.2.1
theorem m_T_Vector : MethK (myK p) 248 "Vector" 216 := grp5.1.1.1.2.2
theorem m_T_Get : MethK (myK p) 248 "Get" 230 := grp5.1.1.2.1
theorem m_B_Output : MethK (myK p) 732 "Output" 360 := grp5.1.1.2.2.1
theorem m_B_StartObject : MethK (myK p) 732 "StartObject" 367 := grp5.1.1.2.2.2
theorem m_B_WriteVtable : MethK (myK p) 732 "WriteVtable" 374 := grp5.1.2.1.1
theorem m_B_EndObject : MethK (myK p) 732 "EndObject" 381 := grp5.1.2.1.2.1
theorem m_B_GrowByteBuffer : MethK (myK p) 732 "GrowByteBuffer" 388 := grp5.1.2.1.2.2
theorem m_B_Head : MethK (myK p) 732 "Head" 395 := grp5.1.2.2.1
theorem m_B_Offset : MethK (myK p) 732 "Offset" 402 := grp5.1.2.2.2.1
theorem m_B_Pad : MethK (myK p) 732 "Pad" 409 := grp5.1.2.2.2.2
theorem m_B_Prep : MethK (myK p) 732 "Prep" 416 := grp5.2.1.1.1
theorem m_B_PrependSOffsetTRelative : MethK (myK p) 732 "PrependSOffsetTRelative" 423 := grp5.2.1.1.2.1
theorem m_B_PrependUOffsetTRelative : MethK (myK p) 732 "PrependUOffsetTRelative" 430 := grp5.2.1.1.2.2
theorem m_B_StartVector : MethK (myK p) 732 "StartVector" 437 := grp5.2.1.2.1
theorem m_B_EndVector : MethK (myK p) 732 "EndVector" 445 := grp5.2.1.2.2.1
theorem m_B_assertNested : MethK (myK p) 732 "assertNested" 473 := grp5.2.1.2.2.2
theorem m_B_assertNotNested : MethK (myK p) 732 "assertNotNested" 480 := grp5.2.2.1.1
theorem m_B_Slot : MethK (myK p) 732 "Slot" 494 := grp5.2.2.1.2.1
theorem m_B_XFinish : MethK (myK p) 732 "_Builder__Finish" 502 := grp5.2.2.1.2.2
theorem m_B_Finish : MethK (myK p) 732 "Finish" 510 := grp5.2.2.2.1
theorem m_B_Prepend : MethK (myK p) 732 "Prepend" 525 := grp5.2.2.2.2.1
theorem m_B_PrependUOffsetTRelativeSlot : MethK (myK p) 732 "PrependUOffsetTRelativeSlot" 609 := grp5.2.2.2.2.2
theorem grp6 : (((MethK (myK p) 732 "PrependUint8" 637) ∧ (MethK (myK p) 732 "PrependVOffsetT" 700)) ∧ ((MethK (myK p) 732 "Place" 707) ∧ ((MethK (myK p) 732 "PlaceSOffsetT" 721) ∧ (MethK (myK p) 732 "PlaceUOffsetT" 728)))) := ⟨⟨⟨pg_732 _, by k_is, by k_is⟩, ⟨pg_732 _, by k_is, by k_is⟩⟩, ⟨⟨pg_732 _, by k_is, by k_is⟩, ⟨⟨pg_732 _, by k_is, by k_is⟩, ⟨pg_732 _, by k_is, by k_is⟩⟩⟩⟩
theorem m_B_PrependUint8 : MethK (myK p) 732 "PrependUint8" 637 := grp6.1.1
theorem m_B_PrependVOffsetT : MethK (myK p) 732 "PrependVOffsetT" 700 := grp6.1.2
theorem m_B_Place : MethK (myK p) 732 "Place" 707 := grp6.2.1
theorem m_B_PlaceSOffsetT : MethK (myK p) 732 "PlaceSOffsetT" 721 := grp6.2.2.1
theorem m_B_PlaceUOffsetT : MethK (myK p) 732 "PlaceUOffsetT" 728 := grp6.2.2.2
theorem grp7 : (((((ClsV (myK p) 63 "bytewidth" (Value.int 1 360) (.type "type")) ∧ ((ClsV (myK p) 63 "min_val" (Value.int 0 362) (.type "type")) ∧ (ClsV (myK p) 63 "max_val" (Value.int 255 368) (.type "type")))) ∧ ((ClsV (myK p) 63 "packer_type" (Value.ref 50) (.type "type")) ∧ ((ClsV (myK p) 77 "bytewidth" (Value.int 2 394) (.type "type")) ∧ (ClsV (myK p) 77 "min_val" (Value.int 0 396) (.type "type"))))) ∧ (((ClsV (myK p) 77 "max_val" (Value.int 65535 402) (.type "type")) ∧ ((ClsV (myK p) 77 "packer_type" (Value.ref 51) (.type "type")) ∧ (ClsV (myK p) 91 "bytewidth" (Value.int 4 428) (.type "type")))) ∧ ((ClsV (myK p) 91 "min_val" (Value.int 0 430) (.type "type")) ∧ ((ClsV (myK p) 91 "max_val" (Value.int 4294967295 436) (.type "type")) ∧ (ClsV (myK p) 91 "packer_type" (Value.ref 52) (.type "type")))))) ∧ ((((ClsV (myK p) 105 "bytewidth" (Value.int 4 462) (.type "type")) ∧ ((ClsV (myK p) 105 "min_val" (Value.int (-2147483648) 467) (.type "type")) ∧ (ClsV (myK p) 105 "max_val" (Value.int 2147483647 473) (.type "type")))) ∧ ((ClsV (myK p) 105 "packer_type" (Value.ref 53) (.type "type")) ∧ ((ClsV (myK p) 119 "bytewidth" (Value.int 4 462) (.type "type")) ∧ (ClsV (myK p) 119 "min_val" (Value.int (-2147483648) 467) (.type "type"))))) ∧ (((ClsV (myK p) 119 "max_val" (Value.int 2147483647 473) (.type "type")) ∧ ((ClsV (myK p) 119 "packer_type" (Value.ref 53) (.type "type")) ∧ (ClsV (myK p) 131 "bytewidth" (Value.int 4 428) (.type "type")))) ∧ ((ClsV (myK p) 131 "min_val" (Value.int 0 430) (.type "type")) ∧ ((ClsV (myK p) 131 "max_val" (Value.int 4294967295 436) (.type "type")) ∧ (ClsV (myK p) 131 "packer_type" (Value.ref 52) (.type "type"))))))) := ⟨⟨⟨⟨⟨ty_63, rd_63, by k_is, rfl⟩, ⟨⟨ty_63, rd_63, by k_is, rfl⟩, ⟨ty_63, rd_63, by k_is, rfl⟩⟩⟩, ⟨⟨ty_63, rd_63, by k_is, rfl⟩, ⟨⟨ty_77, rd_77, by k_is, rfl⟩, ⟨ty_77, rd_77, by k_is, rfl⟩⟩⟩⟩, ⟨⟨⟨ty_77, rd_77, by k_is, rfl⟩, ⟨⟨ty_77, rd_77, by k_is, rfl⟩, ⟨ty_91, rd_91, by k_is, rfl⟩⟩⟩, ⟨⟨ty_91, rd_91, by k_is, rfl⟩, ⟨⟨ty_91, rd_91, by k_is, rfl⟩, ⟨ty_91, rd_91, by k_is, rfl⟩⟩⟩⟩⟩, ⟨⟨⟨⟨ty_105, rd_105, by k_is, rfl⟩, ⟨⟨ty_105, rd_105, by k_is, rfl⟩, ⟨ty_105, rd_105, by k_is, rfl⟩⟩⟩, ⟨⟨ty_105, rd_105, by k_is, rfl⟩, ⟨⟨ty_119, rd_119, by k_is, rfl⟩, ⟨ty_119, rd_119, by k_is, rfl⟩⟩⟩⟩, ⟨⟨⟨ty_119, rd_119, by k_is, rfl⟩, ⟨⟨ty_119, rd_119, by k_is, rfl⟩, ⟨ty_131, rd_131, by k_is, rfl⟩⟩⟩, ⟨⟨ty_131, rd_131, by k_is, rfl⟩, ⟨⟨ty_131, rd_131, by k_is, rfl⟩, ⟨ty_131, rd_131, by k_is, rfl⟩⟩⟩⟩⟩⟩
theorem v_63_bytewidth : ClsV (myK p) 63 "bytewidth" (Value.int 1 360) (.type "type") := grp7.1.1.1.1
theorem v_63_min_val : ClsV (myK p) 63 "min_val" (Value.int 0 362) (.type "type") := grp7.1.1.1.2.1
theorem v_63_max_val : ClsV (myK p) 63 "max_val" (Value.int 255 368) (.type "type") := grp7.1.1.1.2.2
theorem v_63_packer_type : ClsV (myK p) 63 "packer_type" (Value.ref 50) (.type "type") := grp7.1.1.2.1
theorem v_77_bytewidth : ClsV (myK p) 77 "bytewidth" (Value.int 2 394) (.type "type") := grp7.1.1.2.2.1
theorem v_77_min_val : ClsV (myK p) 77 "min_val" (Value.int 0 396) (.type "type") := grp7.1.1.2.2.2
theorem v_77_max_val : ClsV (myK p) 77 "max_val" (Value.int 65535 402) (.type "type") := grp7.1.2.1.1
theorem v_77_packer_type : ClsV (myK p) 77 "packer_type" (Value.ref 51) (.type "type") := grp7.1.2.1.2.1
theorem v_91_bytewidth : ClsV (myK p) 91 "bytewidth" (Value.int 4 428) (.type "type") := grp7.1.2.1.2.2
theorem v_91_min_val : ClsV (myK p) 91 "min_val" (Value.int 0 430) (.type "type") := grp7.1.2.2.1
theorem v_91_max_val : ClsV (myK p) 91 "max_val" (Value.int 4294967295 436) (.type "type") := grp7.1.2.2.2.1
theorem v_91_packer_type : ClsV (myK p) 91 "packer_type" (Value.ref 52) (.type "type") := grp7.1.2.2.2.2
theorem v_105_bytewidth : ClsV (myK p) 105 "bytewidth" (Value.int 4 462) (.type "type") := grp7.2.1.1.1
theorem v_105_min_val : ClsV (myK p) 105 "min_val" (Value.int (-2147483648) 467) (.type "type") := grp7.2.1.1.2.1
theorem v_105_max_val : ClsV (myK p) 105 "max_val" (Value.int 2147483647 473) (.type "type") := grp7.2.1.1.2.2
theorem v_105_packer_type : ClsV (myK p) 105 "packer_type" (Value.ref 53) (.type "type") := grp7.2.1.2.1
theorem v_119_bytewidth : ClsV (myK p) 119 "bytewidth" (Value.int 4 462) (.type "type") := grp7.2.1.2.2.1
theorem v_119_min_val : ClsV (myK p) 119 "min_val" (Value.int (-2147483648) 467) (.type "type") := grp7.2.1.2.2.2
theorem v_119_max_val : ClsV (myK p) 119 "max_val" (Value.int 2147483647 473) (.type "type") := grp7.2.2.1.1
theorem v_119_packer_type : ClsV (myK p) 119 "packer_type" (Value.ref 53) (.type "type") := grp7.2.2.1.2.1
theorem v_131_bytewidth : ClsV (myK p) 131 "bytewidth" (Value.int 4 428) (.type "type") := grp7.2.2.1.2.2
theorem v_131_min_val : ClsV (myK p) 131 "min_val" (Value.int 0 430) (.type "type") := grp7.2.2.2.1
theorem v_131_max_val : ClsV (myK p) 131 "max_val" (Value.int 4294967295 436) (.type "type") := grp7.2.2.2.2.1
theorem v_131_packer_type : ClsV (myK p) 131 "packer_type" (Value.ref 52) (.type "type") := grp7.2.2.2.2.2
theorem grp8 : (((ClsV (myK p) 143 "bytewidth" (Value.int 2 394) (.type "type")) ∧ (ClsV (myK p) 143 "min_val" (Value.int 0 396) (.type "type"))) ∧ ((ClsV (myK p) 143 "max_val" (Value.int 65535 402) (.type "type")) ∧ ((ClsV (myK p) 143 "packer_type" (Value.ref 51) (.type "type")) ∧ (ClsV (myK p) 732 "MAX_BUFFER_SIZE" (.int 2147483648 822) (.type "type"))))) := ⟨⟨⟨ty_143, rd_143, by k_is, rfl⟩, ⟨ty_143, rd_143, by k_is, rfl⟩⟩, ⟨⟨ty_143, rd_143, by k_is, rfl⟩, ⟨⟨ty_143, rd_143, by k_is, rfl⟩, ⟨ty_732, rd_732, by k_is, rfl⟩⟩⟩⟩
theorem v_143_bytewidth : ClsV (myK p) 143 "bytewidth" (Value.int 2 394) (.type "type") := grp8.1.1
theorem v_143_min_val : ClsV (myK p) 143 "min_val" (Value.int 0 396) (.type "type") := grp8.1.2
theorem v_143_max_val : ClsV (myK p) 143 "max_val" (Value.int 65535 402) (.type "type") := grp8.2.1
theorem v_143_packer_type : ClsV (myK p) 143 "packer_type" (Value.ref 51) (.type "type") := grp8.2.2.1
theorem v_732_MAX : ClsV (myK p) 732 "MAX_BUFFER_SIZE" (.int 2147483648 822) (.type "type") := grp8.2.2.2
theorem grp9 : (((ClsT (myK p) 63 "py_type" "int") ∧ ((ClsT (myK p) 77 "py_type" "int") ∧ (ClsT (myK p) 91 "py_type" "int"))) ∧ (((ClsT (myK p) 105 "py_type" "int") ∧ (ClsT (myK p) 119 "py_type" "int")) ∧ ((ClsT (myK p) 131 "py_type" "int") ∧ (ClsT (myK p) 143 "py_type" "int")))) := ⟨⟨⟨rd_63, mt_py, by k_is, by k_is⟩, ⟨⟨rd_77, mt_py, by k_is, by k_is⟩, ⟨rd_91, mt_py, by k_is, by k_is⟩⟩⟩, ⟨⟨⟨rd_105, mt_py, by k_is, by k_is⟩, ⟨rd_119, mt_py, by k_is, by k_is⟩⟩, ⟨⟨rd_131, mt_py, by k_is, by k_is⟩, ⟨rd_143, mt_py, by k_is, by k_is⟩⟩⟩⟩
theorem t_63 : ClsT (myK p) 63 "py_type" "int" := grp9.1.1
theorem t_77 : ClsT (myK p) 77 "py_type" "int" := grp9.1.2.1
theorem t_91 : ClsT (myK p) 91 "py_type" "int" := grp9.1.2.2
theorem t_105 : ClsT (myK p) 105 "py_type" "int" := grp9.2.1.1
theorem t_119 : ClsT (myK p) 119 "py_type" "int" := grp9.2.1.2
theorem t_131 : ClsT (myK p) 131 "py_type" "int" := grp9.2.2.1
theorem t_143 : ClsT (myK p) 143 "py_type" "int" := grp9.2.2.2
theorem grp10 : ((((myK p).lookup 50 = some (stObj #[60, 66] 333)) ∧ ((myK p).lookup 51 = some (stObj #[60, 72] 336))) ∧ (((myK p).lookup 52 = some (stObj #[60, 73] 339)) ∧ ((myK p).lookup 53 = some (stObj #[60, 105] 342)))) := ⟨⟨(by k_is), (by k_is)⟩, ⟨(by k_is), (by k_is)⟩⟩
theorem st_50 : (myK p).lookup 50 = some (stObj #[60, 66] 333) := grp10.1.1
theorem st_51 : (myK p).lookup 51 = some (stObj #[60, 72] 336) := grp10.1.2
theorem st_52 : (myK p).lookup 52 = some (stObj #[60, 73] 339) := grp10.2.1
theorem st_53 : (myK p).lookup 53 = some (stObj #[60, 105] 342) := grp10.2.2
theorem grp11 : (((((keepIn (myK p) (.ref 152) = true) ∧ ((keepIn (myK p) (.ref 159) = true) ∧ (keepIn (myK p) (.ref 166) = true))) ∧ ((keepIn (myK p) (.ref 753) = true) ∧ ((keepIn (myK p) (.ref 761) = true) ∧ (keepIn (myK p) (.ref 768) = true)))) ∧ (((keepIn (myK p) (.ref 775) = true) ∧ ((keepIn (myK p) (.ref 780) = true) ∧ (keepIn (myK p) (.ref 785) = true))) ∧ ((keepIn (myK p) (.ref 792) = true) ∧ ((keepIn (myK p) (.ref 799) = true) ∧ (keepIn (myK p) (.ref 806) = true))))) ∧ ((((keepIn (myK p) (.ref 813) = true) ∧ ((keepIn (myK p) (.ref 818) = true) ∧ (keepIn (myK p) (.ref 825) = true))) ∧ ((keepIn (myK p) (.ref 830) = true) ∧ ((keepIn (myK p) (.ref 835) = true) ∧ (keepIn (myK p) (.ref 840) = true)))) ∧ (((keepIn (myK p) (.ref 845) = true) ∧ ((keepIn (myK p) (.ref 850) = true) ∧ (keepIn (myK p) (.ref 181) = true))) ∧ ((keepIn (myK p) (.ref 188) = true) ∧ ((keepIn (myK p) (.ref 195) = true) ∧ (keepIn (myK p) (.ref 216) = true)))))) := ⟨⟨⟨⟨(by k_is), ⟨(by k_is), (by k_is)⟩⟩, ⟨(by k_is), ⟨(by k_is), (by k_is)⟩⟩⟩, ⟨⟨(by k_is), ⟨(by k_is), (by k_is)⟩⟩, ⟨(by k_is), ⟨(by k_is), (by k_is)⟩⟩⟩⟩, ⟨⟨⟨(by k_is), ⟨(by k_is), (by k_is)⟩⟩, ⟨(by k_is), ⟨(by k_is), (by k_is)⟩⟩⟩, ⟨⟨(by k_is), ⟨(by k_is), (by k_is)⟩⟩, ⟨(by k_is), ⟨(by k_is), (by k_is)⟩⟩⟩⟩⟩
theorem k_152 : keepIn (myK p) (.ref 152) = true := grp11.1.1.1.1
theorem k_159 : keepIn (myK p) (.ref 159) = true := grp11.1.1.1.2.1
theorem k_166 : keepIn (myK p) (.ref 166) = true := grp11.1.1.1.2.2
theorem k_753 : keepIn (myK p) (.ref 753) = true := grp11.1.1.2.1
theorem k_761 : keepIn (myK p) (.ref 761) = true := grp11.1.1.2.2.1
theorem k_768 : keepIn (myK p) (.ref 768) = true := grp11.1.1.2.2.2
theorem k_775 : keepIn (myK p) (.ref 775) = true := grp11.1.2.1.1
theorem k_780 : keepIn (myK p) (.ref 780) = true := grp11.1.2.1.2.1
theorem k_785 : keepIn (myK p) (.ref 785) = true := grp11.1.2.1.2.2
theorem k_792 : keepIn (myK p) (.ref 792) = true := grp11.1.2.2.1
theorem k_799 : keepIn (myK p) (.ref 799) = true := grp11.1.2.2.2.1
theorem k_806 : keepIn (myK p) (.ref 806) = true := grp11.1.2.2.2.2
theorem k_813 : keepIn (myK p) (.ref 813) = true := grp11.2.1.1.1
theorem k_818 : keepIn (myK p) (.ref 818) = true := grp11.2.1.1.2.1
theorem k_825 : keepIn (myK p) (.ref 825) = true := grp11.2.1.1.2.2
theorem k_830 : keepIn (myK p) (.ref 830) = true := grp11.2.1.2.1
theorem k_835 : keepIn (myK p) (.ref 835) = true := grp11.2.1.2.2.1
theorem k_840 : keepIn (myK p) (.ref 840) = true := grp11.2.1.2.2.2
theorem k_845 : keepIn (myK p) (.ref 845) = true := grp11.2.2.1.1
theorem k_850 : keepIn (myK p) (.ref 850) = true := grp11.2.2.1.2.1
theorem k_181 : keepIn (myK p) (.ref 181) = true := grp11.2.2.1.2.2
theorem k_188 : keepIn (myK p) (.ref 188) = true := grp11.2.2.2.1
theorem k_195 : keepIn (myK p) (.ref 195) = true := grp11.2.2.2.2.1
theorem k_216 : keepIn (myK p) (.ref 216) = true := grp11.2.2.2.2.2
theorem grp12 : (((((keepIn (myK p) (.ref 230) = true) ∧ ((keepIn (myK p) (.ref 346) = true) ∧ (keepIn (myK p) (.ref 360) = true))) ∧ ((keepIn (myK p) (.ref 367) = true) ∧ ((keepIn (myK p) (.ref 374) = true) ∧ (keepIn (myK p) (.ref 381) = true)))) ∧ (((keepIn (myK p) (.ref 388) = true) ∧ ((keepIn (myK p) (.ref 395) = true) ∧ (keepIn (myK p) (.ref 402) = true))) ∧ ((keepIn (myK p) (.ref 409) = true) ∧ ((keepIn (myK p) (.ref 416) = true) ∧ (keepIn (myK p) (.ref 423) = true))))) ∧ ((((keepIn (myK p) (.ref 430) = true) ∧ ((keepIn (myK p) (.ref 437) = true) ∧ (keepIn (myK p) (.ref 445) = true))) ∧ ((keepIn (myK p) (.ref 473) = true) ∧ ((keepIn (myK p) (.ref 480) = true) ∧ (keepIn (myK p) (.ref 494) = true)))) ∧ (((keepIn (myK p) (.ref 502) = true) ∧ ((keepIn (myK p) (.ref 510) = true) ∧ (keepIn (myK p) (.ref 525) = true))) ∧ ((keepIn (myK p) (.ref 609) = true) ∧ ((keepIn (myK p) (.ref 637) = true) ∧ (keepIn (myK p) (.ref 700) = true)))))) := ⟨⟨⟨⟨(by k_is), ⟨(by k_is), (by k_is)⟩⟩, ⟨(by k_is), ⟨(by k_is), (by k_is)⟩⟩⟩, ⟨⟨(by k_is), ⟨(by k_is), (by k_is)⟩⟩, ⟨(by k_is), ⟨(by k_is), (by k_is)⟩⟩⟩⟩, ⟨⟨⟨(by k_is), ⟨(by k_is), (by k_is)⟩⟩, ⟨(by k_is), ⟨(by k_is), (by k_is)⟩⟩⟩, ⟨⟨(by k_is), ⟨(by k_is), (by k_is)⟩⟩, ⟨(by k_is), ⟨(by k_is), (by k_is)⟩⟩⟩⟩⟩
theorem k_230 : keepIn (myK p) (.ref 230) = true := grp12.1.1.1.1
theorem k_346 : keepIn (myK p) (.ref 346) = true := grp12.1.1.1.2.1
theorem k_360 : keepIn (myK p) (.ref 360) = true := grp12.1.1.1.2.2
theorem k_367 : keepIn (myK p) (.ref 367) = true := grp12.1.1.2.1
theorem k_374 : keepIn (myK p) (.ref 374) = true := grp12.1.1.2.2.1
theorem k_381 : keepIn (myK p) (.ref 381) = true := grp12.1.1.2.2.2
theorem k_388 : keepIn (myK p) (.ref 388) = true := grp12.1.2.1.1
theorem k_395 : keepIn (myK p) (.ref 395) = true := grp12.1.2.1.2.1
theorem k_402 : keepIn (myK p) (.ref 402) = true := grp12.1.2.1.2.2
theorem k_409 : keepIn (myK p) (.ref 409) = true := grp12.1.2.2.1
theorem k_416 : keepIn (myK p) (.ref 416) = true := grp12.1.2.2.2.1
theorem k_423 : keepIn (myK p) (.ref 423) = true := grp12.1.2.2.2.2
theorem k_430 : keepIn (myK p) (.ref 430) = true := grp12.2.1.1.1
theorem k_437 : keepIn (myK p) (.ref 437) = true := grp12.2.1.1.2.1
theorem k_445 : keepIn (myK p) (.ref 445) = true := grp12.2.1.1.2.2
theorem k_473 : keepIn (myK p) (.ref 473) = true := grp12.2.1.2.1
theorem k_480 : keepIn (myK p) (.ref 480) = true := grp12.2.1.2.2.1
theorem k_494 : keepIn (myK p) (.ref 494) = true := grp12.2.1.2.2.2
theorem k_502 : keepIn (myK p) (.ref 502) = true := grp12.2.2.1.1
theorem k_510 : keepIn (myK p) (.ref 510) = true := grp12.2.2.1.2.1
theorem k_525 : keepIn (myK p) (.ref 525) = true := grp12.2.2.1.2.2
theorem k_609 : keepIn (myK p) (.ref 609) = true := grp12.2.2.2.1
theorem k_637 : keepIn (myK p) (.ref 637) = true := grp12.2.2.2.2.1
theorem k_700 : keepIn (myK p) (.ref 700) = true := grp12.2.2.2.2.2
theorem grp13 : (((keepIn (myK p) (.ref 707) = true) ∧ (keepIn (myK p) (.ref 721) = true)) ∧ ((keepIn (myK p) (.ref 728) = true) ∧ (keepIn (myK p) (.ref 248) = true))) := ⟨⟨(by k_is), (by k_is)⟩, ⟨(by k_is), (by k_is)⟩⟩
theorem k_707 : keepIn (myK p) (.ref 707) = true := grp13.1.1
theorem k_721 : keepIn (myK p) (.ref 721) = true := grp13.1.2
theorem k_728 : keepIn (myK p) (.ref 728) = true := grp13.2.1
theorem k_248 : keepIn (myK p) (.ref 248) = true := grp13.2.2
theorem mk_248 : makesIn (myK p) 248 = true ∧ findIn (myK p) (.ref 248) "__init__" = some (some (.ref 181)) ∧ isFn (myK p) (.ref 181) = true := ⟨by k_is, by k_is, by k_is⟩
theorem k_732 : keepIn (myK p) (.ref 732) = true := by k_is
theorem mk_732 : makesIn (myK p) 732 = true ∧ findIn (myK p) (.ref 732) "__init__" = some (some (.ref 346)) ∧ isFn (myK p) (.ref 346) = true := ⟨by k_is, by k_is, by k_is⟩
theorem own_py : Builtin.heldUnderItsOwnName "py_type" (.type "int") = false := by decide +kernel
end
end Fb

namespace Fb
local macro_rules | `(tactic| walk_at "as") => `(tactic| with_reducible assumption)
local macro_rules | `(tactic| walk_at "seto") => `(tactic| (with_reducible repeat (first | exact SetO.z | apply SetO.s)))
local macro_rules | `(tactic| walk_at "mem") => `(tactic| (with_reducible repeat (first | exact memH | refine memT ?_)))
local macro_rules | `(tactic| walk_at "lk") => `(tactic| (with_reducible repeat (first | exact Lk.here | apply Lk.there)))
local macro_rules | `(tactic| walk_at "setl") => `(tactic| (with_reducible repeat (first | exact SetL.here | apply SetL.there)))
local macro_rules | `(tactic| walk_at "put") => `(tactic| (with_reducible repeat (first | exact Put.here | apply Put.there)))
local macro_rules | `(tactic| walk_at "rem") => `(tactic| (with_reducible repeat (first | exact Rem.here | apply Rem.there)))
local macro_rules | `(tactic| walk_at "pick") => `(tactic| (repeat (first | with_reducible exact Pick.nil | with_reducible exact Pick.all | ((with_reducible apply Pick.cons); focus (walk_at "rem"; done)) | with_reducible apply Pick.skip)))
local macro_rules | `(tactic| walk_at "app") => `(tactic| (with_reducible repeat (first | exact App.nil | apply App.cons | exact App.app _ _)))
local macro_rules | `(tactic| walk_at "binds") => `(tactic| (repeat (first | with_reducible exact Binds.nil | ((with_reducible refine' Binds.loc ?a ?b ?_); (case a => walk_at "mem"); (case b => walk_at "setl")) | with_reducible refine Binds.cel (by walk_at "mem") ?_)))
local macro_rules | `(tactic| walk_at "bindsc") => `(tactic| (repeat (first | with_reducible exact BindsC.nil | ((with_reducible refine' BindsC.cel ?a ?b ?_); (case a => walk_at "mem"); (case b => walk_at "setl")) | with_reducible refine BindsC.loc (by walk_at "mem") ?_)))
local macro_rules | `(tactic| walk_at "rs") => `(tactic| (repeat (first
  | ((with_reducible refine' run_local ?a ?_); (case a => walk_at "lk"))
  | (with_reducible first
  | refine run_int fun _ => ?_
  | refine run_none ?_
  | refine run_bool ?_
  | refine run_str fun _ => ?_
  | refine run_bytes fun _ => ?_
  | refine run_BinOp ?_
  | refine run_Unary ?_
  | refine run_Cmp1 ?_
  | refine run_Attr ?_
  | refine run_args_nil ?_
  | refine run_args_cons ?_
  | refine run_execs_nil ?_
  | refine run_execs ?_
  | refine run_after ?_
  | refine run_Return ?_
  | refine run_Return0 ?_
  | refine run_Continue ?_
  | refine run_Assign ?_
  | refine run_asAttr ?_
  | refine run_asSub ?_
  | refine run_AugName ?_
  | refine run_Slice ?_
  | refine run_vsome ?_
  | refine run_vnone ?_
  | refine run_isCmp1 ?_
  | refine run_isNot ?_)
  | ((with_reducible refine' run_global ‹Cx.Is _ _ _ _ _ _› ?a ?b ?_); (case a => walk_at "mem"); (case b => with_reducible assumption))
  | ((with_reducible refine' run_builtin ‹Cx.Is _ _ _ _ _ _› ?a ?b ?_); (case a => walk_at "mem"); (case b => with_reducible assumption))
  | ((with_reducible refine' run_cell ‹Cx.Is _ _ _ _ _ _› ?a ?b ?c ?d ?_); (case a => walk_at "mem"); (case b => with_reducible assumption); (case c => walk_at "mem"); (case d => with_reducible assumption))
  | ((with_reducible refine' run_asName ?a ?_); (case a => walk_at "setl"))
  | ((with_reducible refine' run_bindName ?a ?_); (case a => walk_at "setl"))
  | ((with_reducible refine' run_loadLocal ?a ?_); (case a => walk_at "lk"))
  | ((with_reducible refine' run_clsv ‹Cx.Is _ _ _ _ _ _› ?a ?_); (case a => with_reducible assumption))
  | ((with_reducible refine' run_get_slot ‹Cx.Is _ _ _ _ _ _› ?a ?b ?c ?hv ?hh ?_); (case a => with_reducible assumption); (case b => walk_at "mem"); (case c => walk_at "mem"); (case hv => exact rfl); (case hh => exact rfl))
  | (with_reducible first
  | refine run_add fun _ => ?_
  | refine run_subi fun _ => ?_
  | refine run_le ?_
  | refine run_lt ?_
  | refine run_gt ?_
  | refine run_ge ?_
  | refine run_eq ?_
  | refine run_ne ?_
  | refine run_isN ?_
  | refine run_isNotN ?_
  | refine run_iadd fun _ => ?_
  | refine run_isubi fun _ => ?_
  | refine run_band fun _ => ?_
  | refine run_iband fun _ => ?_
  | refine run_inv fun _ => ?_
  | refine run_neg fun _ => ?_
  | refine run_truthy_bool ?_
  | refine run_truthy_none ?_
  | refine run_truthy_int ?_
  | refine run_mod (by decide) (fun _ => ?_)
  | refine run_fdiv (by decide) (by decide) (fun _ => ?_))
  | ((with_reducible refine' run_setO ‹Cx.Is _ _ _ _ _ _› ?a ?b ?c ?d ?e ?_); (case a => with_reducible assumption); (case b => walk_at "put"); (case c => walk_at "seto"); (case d => walk_at "mem"); (case e => exact rfl)))))

local macro_rules | `(tactic| walk_at "fbclos") => `(tactic| (repeat (first | exact Clos.nil | ((apply Clos.skip); focus (rfl; done)) | ((apply Clos.free); focus (assumption; done)))))
local macro_rules | `(tactic| walk_at "fbrelab") => `(tactic| (repeat (first | exact Relab.nil | ((apply Relab.keep); focus (rfl; done)) | ((apply Relab.free); focus (walk_at "mem"; done)))))
local macro_rules | `(tactic| walk_at "fbcomp") => `(tactic| (refine run_ListComp ‹Cx.Is _ _ _ _ _ _› (by walk_at "fbclos") (by walk_at "fbrelab") rfl (by decide +kernel) (by decide +kernel) (by decide +kernel) (by decide +kernel) ?_))
local macro_rules | `(tactic| walk_at "fbacomp") => `(tactic| (refine run_AssignComp ‹Cx.Is _ _ _ _ _ _› (by walk_at "fbclos") (by walk_at "fbrelab") rfl (by decide +kernel) (by decide +kernel) (by decide +kernel) (by decide +kernel) (by decide +kernel) (by decide +kernel) (by decide +kernel) ?y ?_))

/-! G1 -/



section
variable {prog : Program} {w : World}
theorem c_enforce {fl : Addr} {lo hi a : Int} {tl th t : Tok} {mc : Value} (V1 : ClsV (myK w.params) fl "min_val" (.int lo tl) mc) (V2 : ClsV (myK w.params) fl "max_val" (.int hi th) mc) (h0 : lo ≤ a) (h1 : a ≤ hi) :
    CallP prog w (myK w.params) (.ref 152) [.int a t, .ref fl] [] 1 [] (fun v led' => v = .none ∧ led' = []) := by
  refine CallP.fn0 (binds := [("n", .int a t), ("flags", .ref fl)]) (loc0 := [("n", none), ("flags", none)]) (loc := [("n", some (.int a t)), ("flags", some (.ref fl))]) [("n", .local), ("flags", .local), ("TypeError", .globalImplicit), ("str", .globalImplicit)] ["n", "flags"] (by k_is) (by k_is) rfl (fun s X => BindsTo.of_eq rfl) (by decide +kernel) rfl (by walk_at "binds") (by walk_at "bindsc") rfl rfl rfl fun C hC => ?_
  refine Run.post fun Qf hQf => ?_
  refine run_execs (run_IfF (run_isAndF (run_isCmp1 ?_)))
  walk_at "rs"
  refine ⟨rfl, rfl, ?_⟩
  walk_at "rs"
  refine run_IfF (run_isNot (run_isCmp2T ?_))
  walk_at "rs"
  refine ⟨by rw [decide_eq_true h0], ?_⟩
  walk_at "rs"
  refine ⟨by rw [decide_eq_true h1]; rfl, ?_⟩
  walk_at "rs"
  exact hQf _ _ _ ⟨_, _, by walk_at "pick", rfl, rfl⟩
theorem c_Get {a b : Addr} {f : Array UInt8} {t u : Tok} {c : Char} {n' : Nat} {lo hi : Int} {l : List UInt8} {off : Int} (F : Fmt f c n' lo hi) (e : (myK w.params).lookup a = some (stObj f t)) (h0 : 0 ≤ off) (h1 : off + n' ≤ l.length) (hz : l.length ≤ 100000) :
    CallP prog w (myK w.params) (.ref 159) [.ref a, .ref b, .int off u] [] 1 [(b, baObj l)] (fun v led' => (∃ t, v = .int (readL c n' ((l.drop off.toNat).take n')) t) ∧ led' = [(b, baObj l)]) := by
  refine CallP.fn0 (binds := [("packer_type", .ref a), ("buf", .ref b), ("head", .int off u)]) (loc0 := [("packer_type", none), ("buf", none), ("head", none)]) (loc := [("packer_type", some (.ref a)), ("buf", some (.ref b)), ("head", some (.int off u))]) [("packer_type", .local), ("buf", .local), ("head", .local)] ["packer_type", "buf", "head"] (by k_is) (by k_is) rfl (fun s X => BindsTo.of_eq rfl) (by decide +kernel) rfl (by walk_at "binds") (by walk_at "bindsc") rfl rfl rfl fun C hC => ?_
  refine Run.post fun Qf hQf => ?_
  refine run_execs (run_Return (run_sub ?_))
  refine run_Method ?_
  walk_at "rs"
  intro pl
  refine run_meth_unpack hC e (run_callWith keeps_builtin ?_)
  walk_at "rs"
  refine run_unpack F hC e (by walk_at "mem") h0 h1 hz fun r t => ?_
  walk_at "rs"
  refine run_py_tup (by walk_at "mem") ⟨rfl, ?_⟩
  refine run_get_tup (by walk_at "mem") (by decide) (by decide) rfl ?_
  exact hQf _ _ _ ⟨_, _, by walk_at "pick", ⟨_, rfl⟩, rfl⟩
theorem c_Write {a b : Addr} {f : Array UInt8} {t u t2 : Tok} {c : Char} {n' : Nat} {lo hi v : Int} {l : List UInt8} {off : Int} (F : Fmt f c n' lo hi) (e : (myK w.params).lookup a = some (stObj f t)) (h0 : 0 ≤ off) (h1 : off + n' ≤ l.length) (hz : l.length ≤ 100000) (hlo : lo ≤ v) (hhi : v < hi) :
    CallP prog w (myK w.params) (.ref 166) [.ref a, .ref b, .int off u, .int v t2] [] 1 [(b, baObj l)] (fun r led' => r = .none ∧ led' = [(b, baObj (patchL l off.toNat (leB n' (v % 2 ^ (8 * n')).toNat)))]) := by
  refine CallP.fn0 (binds := [("packer_type", .ref a), ("buf", .ref b), ("head", .int off u), ("n", .int v t2)]) (loc0 := [("packer_type", none), ("buf", none), ("head", none), ("n", none)]) (loc := [("packer_type", some (.ref a)), ("buf", some (.ref b)), ("head", some (.int off u)), ("n", some (.int v t2))]) [("packer_type", .local), ("buf", .local), ("head", .local), ("n", .local)] ["packer_type", "buf", "head", "n"] (by k_is) (by k_is) rfl (fun s X => BindsTo.of_eq rfl) (by decide +kernel) rfl (by walk_at "binds") (by walk_at "bindsc") rfl rfl rfl fun C hC => ?_
  refine Run.post fun Qf hQf => ?_
  refine run_execs (run_ExprC (run_Method ?_))
  walk_at "rs"
  intro pl
  refine run_meth_pack hC e (run_callWith keeps_builtin ?_)
  walk_at "rs"
  refine run_pack F hC e (by walk_at "put") h0 h1 hz hlo hhi ?_
  walk_at "rs"
  exact hQf _ _ _ ⟨_, _, by walk_at "pick", rfl, rfl⟩
/-! ## Table -/
theorem c_TInit {x dx ba : Addr} {p : Int} {tp : Tok} {od : Obj} (h0 : 0 ≤ p) (h1 : p ≤ 4294967295) :
    CallP prog w (myK w.params) (.ref 181) [.ref x, .ref ba, .int p tp] [] 2 [(x, inst 248 dx []), (dx, od)] (fun r led' => r = .none ∧ led' = [(x, inst 248 dx [some (.ref ba), some (.int p tp)]), (dx, od)]) := by
  refine CallP.fn0 (binds := [("self", .ref x), ("buf", .ref ba), ("pos", .int p tp)]) (loc0 := [("self", none), ("buf", none), ("pos", none)]) (loc := [("self", some (.ref x)), ("buf", some (.ref ba)), ("pos", some (.int p tp))]) [("self", .local), ("buf", .local), ("pos", .local), ("enforce_number", .globalImplicit), ("UOffsetTFlags", .globalImplicit)] ["self", "buf", "pos"] (by k_is) (by k_is) rfl (fun s X => BindsTo.of_eq rfl) (by decide +kernel) rfl (by walk_at "binds") (by walk_at "bindsc") rfl rfl rfl fun C hC => ?_
  have h_g_enforce_number := @g_enforce_number w.params
  have h_k_152 := @k_152 w.params
  have h_g_UOffsetTFlags := @g_UOffsetTFlags w.params
  have h_s_T_Bytes := @s_T_Bytes w.params
  have h_s_T_Pos := @s_T_Pos w.params
  refine Run.post fun Qf hQf => ?_
  refine run_execs (run_ExprC (run_Call ?_))
  walk_at "rs"
  refine run_callWith (keeps_ref hC (by assumption)) ?_
  walk_at "rs"
  refine run_call0 hC (c_enforce v_131_min_val v_131_max_val h0 h1) rfl (by walk_at "pick") fun v hv => ?_
  walk_at "rs"
  refine run_set_slot hC s_T_Bytes (by walk_at "put") (by walk_at "mem") rfl ?_
  walk_at "rs"
  refine run_set_slot hC s_T_Pos (by walk_at "put") (by walk_at "mem") rfl ?_
  walk_at "rs"
  exact hQf _ _ _ ⟨_, _, Pick.cons .here (Pick.cons .here .nil), rfl, rfl⟩
abbrev tObj (dx ba : Addr) (p : Int) (tp : Tok) : Obj := inst 248 dx [some (.ref ba), some (.int p tp)]
theorem c_Table {ba : Addr} {p : Int} {tp : Tok} (h0 : 0 ≤ p) (h1 : p ≤ 4294967295) :
    CallP prog w (myK w.params) (.ref 248) [.ref ba, .int p tp] [] 3 [] (fun r led' => ∃ x dx, r = .ref x ∧ led' = [(x, tObj dx ba p tp), (dx, dict0)]) :=
  CallP.make mk_248.1 mk_248.2.1 mk_248.2.2 fun x dx => (c_TInit h0 h1).mono fun v l h => ⟨h.1, x, dx, rfl, h.2⟩
/-- self.Get(flags, off) -/
theorem c_TGet {x dx ba fl st : Addr} {p off : Int} {tp to t : Tok} {f : Array UInt8} {c : Char} {n' : Nat} {lo hi : Int} {l : List UInt8} (F : Fmt f c n' lo hi) (e : (myK w.params).lookup st = some (stObj f t))
    (V : ClsV (myK w.params) fl "packer_type" (.ref st) (.type "type")) (T : ClsT (myK w.params) fl "py_type" "int") (h0 : 0 ≤ off) (h1 : off + n' ≤ l.length) (hz : l.length ≤ 100000) :
    CallP prog w (myK w.params) (.ref 230) [.ref x, .ref fl, .int off to] [] 2 [(x, tObj dx ba p tp), (dx, dict0), (ba, baObj l)] (fun r led' => (∃ t, r = .int (readL c n' ((l.drop off.toNat).take n')) t) ∧ led' = [(x, tObj dx ba p tp), (dx, dict0), (ba, baObj l)]) := by
  refine CallP.fn0 (binds := [("self", .ref x), ("flags", .ref fl), ("off", .int off to)]) (loc0 := [("self", none), ("flags", none), ("off", none)]) (loc := [("self", some (.ref x)), ("flags", some (.ref fl)), ("off", some (.int off to))]) [("self", .local), ("flags", .local), ("off", .local), ("enforce_number", .globalImplicit), ("UOffsetTFlags", .globalImplicit), ("Get_encode", .globalImplicit)] ["self", "flags", "off"] (by k_is) (by k_is) rfl (fun s X => BindsTo.of_eq rfl) (by decide +kernel) rfl (by walk_at "binds") (by walk_at "bindsc") rfl rfl rfl fun C hC => ?_
  have h_g_enforce_number := @g_enforce_number w.params
  have h_k_152 := @k_152 w.params
  have h_g_UOffsetTFlags := @g_UOffsetTFlags w.params
  have h_g_Get_encode := @g_Get_encode w.params
  have h_k_159 := @k_159 w.params
  have h_s_T_Bytes := @s_T_Bytes w.params
  refine Run.post fun Qf hQf => ?_
  refine run_execs (run_ExprC (run_Call ?_))
  walk_at "rs"
  refine run_callWith (keeps_ref hC (by assumption)) ?_
  walk_at "rs"
  refine run_call0 hC (c_enforce v_131_min_val v_131_max_val h0 (by omega)) rfl (by walk_at "pick") fun v hv => ?_
  walk_at "rs"
  refine run_Method ?_
  walk_at "rs"
  intro pl
  refine run_meth_int hC T own_py (run_callWith keeps_type ?_)
  walk_at "rs"
  refine run_Call ?_
  walk_at "rs"
  refine run_callWith (keeps_ref hC (by assumption)) ?_
  walk_at "rs"
  refine run_call0 hC (c_Get F e h0 h1 hz) rfl (by walk_at "pick") fun v hv => ?_
  obtain ⟨t, rfl⟩ := hv
  walk_at "rs"
  refine run_int_of ?_
  walk_at "rs"
  exact hQf _ _ _ ⟨_, _, by walk_at "pick", ⟨_, rfl⟩, rfl⟩
end

/-! G2 -/



section
variable {prog : Program} {w : World}
abbrev tLed (x dx ba : Addr) (p : Int) (tp : Tok) (l : List UInt8) : Led := [(x, tObj dx ba p tp), (dx, dict0), (ba, baObj l)]
/-- self.Offset(vo) -/
theorem c_TOffset {x dx ba : Addr} {p vo so en r : Int} {tp to : Tok} {l : List UInt8} (hz : l.length ≤ 100000) (h0 : 0 ≤ p) (h1 : p + 4 ≤ l.length) (hso : readL 'i' 4 ((l.drop p.toNat).take 4) = so) (h2 : 0 ≤ p - so) (h3 : p - so + 2 ≤ l.length)
    (hen : readL 'H' 2 ((l.drop (p - so).toNat).take 2) = en) (hlt : vo < en) (h4 : 0 ≤ p - so + vo) (h5 : p - so + vo + 2 ≤ l.length) (hr : readL 'H' 2 ((l.drop (p - so + vo).toNat).take 2) = r) :
    CallP prog w (myK w.params) (.ref 188) [.ref x, .int vo to] [] 3 (tLed x dx ba p tp l) (fun v led' => (∃ t, v = .int r t) ∧ led' = tLed x dx ba p tp l) := by
  subst hso hen hr
  refine CallP.fn0 (binds := [("self", .ref x), ("vtableOffset", .int vo to)]) (loc0 := [("self", none), ("vtableOffset", none), ("vtable", none), ("vtableEnd", none)]) (loc := [("self", some (.ref x)), ("vtableOffset", some (.int vo to)), ("vtable", none), ("vtableEnd", none)]) [("self", .local), ("vtableOffset", .local), ("vtable", .local), ("vtableEnd", .local), ("SOffsetTFlags", .globalImplicit), ("VOffsetTFlags", .globalImplicit)] ["self", "vtableOffset", "vtable", "vtableEnd"] (by k_is) (by k_is) rfl (fun s X => BindsTo.of_eq rfl) (by decide +kernel) rfl (by walk_at "binds") (by walk_at "bindsc") rfl rfl rfl fun C hC => ?_
  have h_g_SOffsetTFlags := @g_SOffsetTFlags w.params
  have h_g_VOffsetTFlags := @g_VOffsetTFlags w.params
  have h_s_T_Pos := @s_T_Pos w.params
  have h_m_T_Get := @m_T_Get w.params
  have h_k_230 := @k_230 w.params
  refine Run.post fun Qf hQf => ?_
  walk_at "rs"
  refine run_Method ?_
  walk_at "rs"
  intro pl
  refine run_meth hC (by assumption) (by walk_at "mem") (by walk_at "mem") (run_callWith (keeps_ref hC (by assumption)) ?_)
  walk_at "rs"
  refine run_callI hC (c_TGet .i st_53 v_119_packer_type t_119 h0 (by simpa using h1) hz) rfl (by walk_at "pick") fun t => ?_
  walk_at "rs"
  refine run_Method ?_
  walk_at "rs"
  intro pl
  refine run_meth hC (by assumption) (by walk_at "mem") (by walk_at "mem") (run_callWith (keeps_ref hC (by assumption)) ?_)
  walk_at "rs"
  refine run_callI hC (c_TGet .H st_51 v_143_packer_type t_143 h2 (by simpa using h3) hz) rfl (by walk_at "pick") fun t => ?_
  walk_at "rs"
  refine run_IfT ?_
  walk_at "rs"
  refine ⟨decide_eq_true hlt, ?_⟩
  walk_at "rs"
  refine run_Method ?_
  walk_at "rs"
  intro pl
  refine run_meth hC (by assumption) (by walk_at "mem") (by walk_at "mem") (run_callWith (keeps_ref hC (by assumption)) ?_)
  walk_at "rs"
  refine run_callI hC (c_TGet .H st_51 v_143_packer_type t_143 h4 (by simpa using h5) hz) rfl (by walk_at "pick") fun t => ?_
  walk_at "rs"
  exact hQf _ _ _ ⟨_, _, by walk_at "pick", ⟨_, rfl⟩, rfl⟩
theorem c_TIndirect {x dx ba : Addr} {p off r : Int} {tp to : Tok} {l : List UInt8} (hz : l.length ≤ 100000) (h0 : 0 ≤ off) (h1 : off + 4 ≤ l.length) (hr : readL 'I' 4 ((l.drop off.toNat).take 4) = r) :
    CallP prog w (myK w.params) (.ref 195) [.ref x, .int off to] [] 2 (tLed x dx ba p tp l) (fun v led' => (∃ t, v = .int (off + r) t) ∧ led' = tLed x dx ba p tp l) := by
  subst hr
  refine CallP.fn0 (binds := [("self", .ref x), ("off", .int off to)]) (loc0 := [("self", none), ("off", none)]) (loc := [("self", some (.ref x)), ("off", some (.int off to))]) [("self", .local), ("off", .local), ("enforce_number", .globalImplicit), ("UOffsetTFlags", .globalImplicit), ("Get_encode", .globalImplicit)] ["self", "off"] (by k_is) (by k_is) rfl (fun s X => BindsTo.of_eq rfl) (by decide +kernel) rfl (by walk_at "binds") (by walk_at "bindsc") rfl rfl rfl fun C hC => ?_
  have h_g_enforce_number := @g_enforce_number w.params
  have h_k_152 := @k_152 w.params
  have h_g_UOffsetTFlags := @g_UOffsetTFlags w.params
  have h_g_Get_encode := @g_Get_encode w.params
  have h_k_159 := @k_159 w.params
  have h_v_131_packer_type := @v_131_packer_type w.params
  have h_s_T_Bytes := @s_T_Bytes w.params
  refine Run.post fun Qf hQf => ?_
  refine run_execs (run_ExprC ?_)
  refine run_Call ?_
  walk_at "rs"
  refine run_callWith (keeps_ref hC (by assumption)) ?_
  walk_at "rs"
  refine run_call0 hC (c_enforce v_131_min_val v_131_max_val h0 (by omega)) rfl (by walk_at "pick") fun rv hv => ?_
  walk_at "rs"
  refine run_Call ?_
  walk_at "rs"
  refine run_callWith (keeps_ref hC (by assumption)) ?_
  walk_at "rs"
  refine run_callI hC (c_Get .I st_52 h0 (by simpa using h1) hz) rfl (by walk_at "pick") fun t => ?_
  walk_at "rs"
  exact hQf _ _ _ ⟨_, _, by walk_at "pick", ⟨_, rfl⟩, rfl⟩
theorem c_TVector {x dx ba : Addr} {p off r : Int} {tp to : Tok} {l : List UInt8} (hz : l.length ≤ 100000) (h0 : 0 ≤ off) (h1 : off ≤ 65535) (h2 : 0 ≤ off + p) (h3 : off + p + 4 ≤ l.length) (hr : readL 'I' 4 ((l.drop (off + p).toNat).take 4) = r) :
    CallP prog w (myK w.params) (.ref 216) [.ref x, .int off to] [] 3 (tLed x dx ba p tp l) (fun v led' => (∃ t, v = .int (off + p + r + 4) t) ∧ led' = tLed x dx ba p tp l) := by
  subst hr
  refine CallP.fn0 (binds := [("self", .ref x), ("off", .int off to)]) (loc0 := [("self", none), ("off", none), ("x", none)]) (loc := [("self", some (.ref x)), ("off", some (.int off to)), ("x", none)]) [("self", .local), ("off", .local), ("x", .local), ("enforce_number", .globalImplicit), ("UOffsetTFlags", .globalImplicit)] ["self", "off", "x"] (by k_is) (by k_is) rfl (fun s X => BindsTo.of_eq rfl) (by decide +kernel) rfl (by walk_at "binds") (by walk_at "bindsc") rfl rfl rfl fun C hC => ?_
  have h_g_enforce_number := @g_enforce_number w.params
  have h_k_152 := @k_152 w.params
  have h_g_UOffsetTFlags := @g_UOffsetTFlags w.params
  have h_s_T_Pos := @s_T_Pos w.params
  have h_v_131_bytewidth := @v_131_bytewidth w.params
  have h_m_T_Get := @m_T_Get w.params
  have h_k_230 := @k_230 w.params
  refine Run.post fun Qf hQf => ?_
  refine run_execs (run_ExprC ?_)
  refine run_Call ?_
  walk_at "rs"
  refine run_callWith (keeps_ref hC (by assumption)) ?_
  walk_at "rs"
  refine run_call0 hC (c_enforce v_131_min_val v_131_max_val h0 (by omega)) rfl (by walk_at "pick") fun rv hv => ?_
  walk_at "rs"
  refine run_Method ?_
  walk_at "rs"
  intro pl
  refine run_meth hC (by assumption) (by walk_at "mem") (by walk_at "mem") (run_callWith (keeps_ref hC (by assumption)) ?_)
  walk_at "rs"
  refine run_callI hC (c_TGet .I st_52 v_131_packer_type t_131 h2 (by simpa using h3) hz) rfl (by walk_at "pick") fun t => ?_
  walk_at "rs"
  exact hQf _ _ _ ⟨_, _, by walk_at "pick", ⟨_, rfl⟩, rfl⟩
/-! ## Builder -/
abbrev bSl (ba : Addr) (cv : Value) (hd : Int) (th : Tok) (ma : Int) (tm : Tok) (oe ne : Value) (vn : Option Value) (vt fi : Value) : List (Option Value) :=
  [some (.ref ba), some cv, some fi, some (.bool false), some (.int hd th), some (.int ma tm), some ne, some oe, some .none, vn, some vt]
abbrev bLed (b dx ba : Addr) (cv : Value) (hd : Int) (th : Tok) (ma : Int) (tm : Tok) (oe ne : Value) (vn : Option Value) (vt fi : Value) (l : List UInt8) : Led :=
  [(b, inst 732 dx (bSl ba cv hd th ma tm oe ne vn vt fi)), (dx, dict0), (ba, baObj l)]
section
variable {b dx ba : Addr} {cv oe ne vt fi : Value} {hd ma : Int} {th tm : Tok} {vn : Option Value} {l : List UInt8}
theorem c_BOffset (hz : l.length ≤ 100000) : CallP prog w (myK w.params) (.ref 402) [.ref b] [] 1 (bLed b dx ba cv hd th ma tm oe ne vn vt fi l) (fun v led' => (∃ t, v = .int (l.length - hd) t) ∧ led' = bLed b dx ba cv hd th ma tm oe ne vn vt fi l) := by
  refine CallP.fn0 (binds := [("self", .ref b)]) (loc0 := [("self", none)]) (loc := [("self", some (.ref b))]) [("self", .local), ("len", .globalImplicit)] ["self"] (by k_is) (by k_is) rfl (fun s X => BindsTo.of_eq rfl) (by decide +kernel) rfl (by walk_at "binds") (by walk_at "bindsc") rfl rfl rfl fun C hC => ?_
  have h_b_len := @b_len w.params
  have h_s_B_head := @s_B_head w.params
  have h_s_B_Bytes := @s_B_Bytes w.params
  refine Run.post fun Qf hQf => ?_
  walk_at "rs"
  refine run_Call ?_
  walk_at "rs"
  refine run_callWith keeps_builtin ?_
  walk_at "rs"
  refine run_len_ba (by walk_at "mem") hz fun t => ?_
  walk_at "rs"
  exact hQf _ _ _ ⟨_, _, by walk_at "pick", ⟨_, rfl⟩, rfl⟩
theorem c_BHead : CallP prog w (myK w.params) (.ref 395) [.ref b] [] 1 (bLed b dx ba cv hd th ma tm oe ne vn vt fi l) (fun v led' => v = .int hd th ∧ led' = bLed b dx ba cv hd th ma tm oe ne vn vt fi l) := by
  refine CallP.fn0 (binds := [("self", .ref b)]) (loc0 := [("self", none)]) (loc := [("self", some (.ref b))]) [("self", .local)] ["self"] (by k_is) (by k_is) rfl (fun s X => BindsTo.of_eq rfl) (by decide +kernel) rfl (by walk_at "binds") (by walk_at "bindsc") rfl rfl rfl fun C hC => ?_
  have h_s_B_head := @s_B_head w.params
  refine Run.post fun Qf hQf => ?_
  walk_at "rs"
  exact hQf _ _ _ ⟨_, _, by walk_at "pick", rfl, rfl⟩
theorem c_BNested : CallP prog w (myK w.params) (.ref 473) [.ref b] [] 1 (bLed b dx ba cv hd th ma tm oe (.bool true) vn vt fi l) (fun v led' => v = .none ∧ led' = bLed b dx ba cv hd th ma tm oe (.bool true) vn vt fi l) := by
  refine CallP.fn0 (binds := [("self", .ref b)]) (loc0 := [("self", none)]) (loc := [("self", some (.ref b))]) [("self", .local), ("IsNotNestedError", .globalImplicit)] ["self"] (by k_is) (by k_is) rfl (fun s X => BindsTo.of_eq rfl) (by decide +kernel) rfl (by walk_at "binds") (by walk_at "bindsc") rfl rfl rfl fun C hC => ?_
  have h_s_B_nested := @s_B_nested w.params
  refine Run.post fun Qf hQf => ?_
  refine run_execs (run_IfF (run_isNot (run_isPlain ?_)))
  walk_at "rs"
  refine ⟨rfl, ?_⟩
  walk_at "rs"
  exact hQf _ _ _ ⟨_, _, by walk_at "pick", rfl, rfl⟩
theorem c_BNotNested : CallP prog w (myK w.params) (.ref 480) [.ref b] [] 1 (bLed b dx ba cv hd th ma tm oe (.bool false) vn vt fi l) (fun v led' => v = .none ∧ led' = bLed b dx ba cv hd th ma tm oe (.bool false) vn vt fi l) := by
  refine CallP.fn0 (binds := [("self", .ref b)]) (loc0 := [("self", none)]) (loc := [("self", some (.ref b))]) [("self", .local), ("IsNestedError", .globalImplicit)] ["self"] (by k_is) (by k_is) rfl (fun s X => BindsTo.of_eq rfl) (by decide +kernel) rfl (by walk_at "binds") (by walk_at "bindsc") rfl rfl rfl fun C hC => ?_
  have h_s_B_nested := @s_B_nested w.params
  refine Run.post fun Qf hQf => ?_
  refine run_execs (run_IfF (run_isPlain ?_))
  walk_at "rs"
  refine ⟨rfl, ?_⟩
  walk_at "rs"
  exact hQf _ _ _ ⟨_, _, by walk_at "pick", rfl, rfl⟩
end
end

/-! G3 -/



section
variable {prog : Program} {w : World}
theorem run_minL {C : Cx} {loc : Loc} {led : Led} {a b : Int} {t u : Tok} {Q : Value → Loc → Led → Prop} (hab : ¬ b < a) (h : ∀ t, Q (.int a t) loc led) : Run C (call (.builtin "min") [.int a t, .int b u]) loc led Q := run_min fun t => by rw [if_neg hab]; exact h t
theorem rep1 : ∀ n : Nat, (List.replicate n [(0 : UInt8)]).flatten = List.replicate n 0
  | 0 => rfl
  | n + 1 => by rw [List.replicate_succ, List.flatten_cons, rep1 n]; rfl
theorem run_padset {C : Cx} {loc : Loc} {led led' : Led} {sl ba : Addr} {t t1 t2 : Tok} {J out : List UInt8} {n : Nat} {Q : Unit → Loc → Led → Prop} (hn : n ≤ J.length) (hz : J.length + out.length ≤ 2000) (hp : Put ba (baObj (J ++ out)) (baObj (J.take (J.length - n) ++ (List.replicate n 0 ++ out))) led led')
    (hs : (sl, slObj (.int ((J.length : Int) - n) t1) (.int J.length t2)) ∈ led) (hq : Q () loc led') : Run C (setItem (.ref ba) (.ref sl) (.bytes ((List.replicate (Int.toNat n) [(0 : UInt8)]).flatten).toArray t)) loc led Q := by
  rw [Int.toNat_natCast, rep1]
  have e2 : (J ++ out).take (J.length - n) ++ List.replicate n 0 ++ (J ++ out).drop J.length = J.take (J.length - n) ++ (List.replicate n 0 ++ out) := by
    rw [List.take_append_of_le_length (Nat.sub_le _ _), List.drop_left, List.append_assoc]
  rw [← e2] at hp
  refine run_set_ba_bytes hp hs (.int _ _) (.int _ _) (by simp; omega) (by simp; omega) ?_ (by simp; omega) hq
  rw [sliceBounds_plain]
  have e3 : (J.length : Int) - n = ((J.length - n : Nat) : Int) := by omega
  simp only [Option.elim, e3, clipAt_nat]
  rw [Nat.min_eq_left (by simp; omega), Nat.min_eq_left (by simp)]
theorem run_growset {C : Cx} {loc : Loc} {led led' : Led} {sl ba ba2 : Addr} {t1 : Tok} {l : List UInt8} {N : Nat} {Q : Unit → Loc → Led → Prop} (hn : l.length ≤ N) (hz : N ≤ 2000) (hne : ba2 ≠ ba) (hp : Put ba2 (baObj (List.replicate N 0)) (baObj (List.replicate (N - l.length) 0 ++ l)) led led')
    (h2 : (ba, baObj l) ∈ led) (hs : (sl, slObj (.int ((N : Int) - l.length) t1) .none) ∈ led) (hq : Q () loc led') : Run C (setItem (.ref ba2) (.ref sl) (.ref ba)) loc led Q := by
  have e2 : (List.replicate N (0 : UInt8)).take (N - l.length) ++ l ++ (List.replicate N (0 : UInt8)).drop N = List.replicate (N - l.length) 0 ++ l := by
    rw [List.take_replicate, List.drop_replicate, Nat.min_eq_left (Nat.sub_le _ _), Nat.sub_self]
    simp
  rw [← e2] at hp
  refine run_set_ba_ba hp h2 hne hs (.int _ _) .none (by simp; omega) (by omega) ?_ (by omega) hq
  rw [sliceBounds_plain]
  have e3 : (N : Int) - l.length = ((N - l.length : Nat) : Int) := by omega
  simp only [Option.elim, e3, clipAt_nat]
  rw [Nat.min_eq_left (by simp)]
  simp
theorem Run.ndL {α : Type} {C : Cx} {loc : Loc} {led : Led} {t : Sem α} {Q : α → Loc → Led → Prop} (h : (led.map (·.1)).Nodup → Run C t loc led Q) : Run C t loc led Q := fun ok s st => h st.nd ok s st
theorem mul_ok {a b : Int} (h0 : -1000000000 ≤ a) (h1 : a ≤ 1000000000) : IntMulOk a b := IntMulOk.of_left (PySem.intBits_le_64 (by omega) (by omega))
section
variable {b dx ba : Addr} {cv oe ne vt fi : Value} {hd ma : Int} {th tm : Tok} {vn : Option Value} {l J out : List UInt8}
theorem c_Pad {n : Nat} {tn : Tok} (hn : n ≤ J.length) (h8 : n ≤ 8) (hz : J.length + out.length ≤ 2000) : CallP prog w (myK w.params) (.ref 409) [.ref b, .int n tn] [] 1 (bLed b dx ba cv J.length th ma tm oe ne vn vt fi (J ++ out))
    (fun v led' => v = .none ∧ ∃ J' t, J'.length + n = J.length ∧ led' = bLed b dx ba cv J'.length t ma tm oe ne vn vt fi (J' ++ (List.replicate n 0 ++ out))) := by
  refine CallP.fn0 (binds := [("self", .ref b), ("n", .int n tn)]) (loc0 := [("self", none), ("n", none), ("new_head", none)]) (loc := [("self", some (.ref b)), ("n", some (.int n tn)), ("new_head", none)]) [("self", .local), ("n", .local), ("new_head", .local)] ["self", "n", "new_head"] (by k_is) (by k_is) rfl (fun s X => BindsTo.of_eq rfl) (by decide +kernel) rfl (by walk_at "binds") (by walk_at "bindsc") rfl rfl rfl fun C hC => ?_
  have h_s_B_head := @s_B_head w.params
  have h_s_B_Bytes := @s_B_Bytes w.params
  refine Run.post fun Qf hQf => ?_
  by_cases h0 : n = 0
  · refine run_execs (run_IfT ?_)
    walk_at "rs"
    refine ⟨by simpa using h0, ?_⟩
    walk_at "rs"
    subst h0
    exact hQf _ _ _ ⟨_, _, Pick.cons .here (Pick.cons .here (Pick.cons .here .nil)), rfl, J, th, rfl, rfl⟩
  · refine run_execs (run_IfF ?_)
    walk_at "rs"
    refine ⟨by simp; omega, ?_⟩
    walk_at "rs"
    refine run_mulb (b := [0]) (by simp) (by omega) (by omega) (by decide) fun t => ?_
    walk_at "rs"
    intro sl
    refine run_padset hn hz (by walk_at "put") (by walk_at "mem") ?_
    walk_at "rs"
    have e3 : (J.length : Int) - n = ((J.take (J.length - n)).length : Int) := by simp; omega
    exact hQf _ _ _ ⟨_, _, by walk_at "pick", rfl, J.take (J.length - n), _, by simp; omega, congrArg (fun i : Int => bLed b dx ba cv i _ ma tm oe ne vn vt fi (J.take (J.length - n) ++ (List.replicate n 0 ++ out))) e3⟩
/-- the buffer grows -/
theorem c_Grow (hz : l.length ≤ 1000) {N : Nat} (hN : N = if l.length = 0 then 1 else 2 * l.length) : CallP prog w (myK w.params) (.ref 388) [.ref b] [] 1 (bLed b dx ba cv hd th ma tm oe ne vn vt fi l)
    (fun v led' => v = .none ∧ ∃ ba2, led' = bLed b dx ba2 cv hd th ma tm oe ne vn vt fi (List.replicate (N - l.length) 0 ++ l)) := by
  refine CallP.fn0 (binds := [("self", .ref b)]) (loc0 := [("self", none), ("msg", none), ("newSize", none), ("bytes2", none)]) (loc := [("self", some (.ref b)), ("msg", none), ("newSize", none), ("bytes2", none)]) [("self", .local), ("msg", .local), ("newSize", .local), ("bytes2", .local), ("len", .globalImplicit), ("Builder", .globalImplicit), ("BuilderSizeError", .globalImplicit), ("min", .globalImplicit), ("bytearray", .globalImplicit)] ["self", "msg", "newSize", "bytes2"] (by k_is) (by k_is) rfl (fun s X => BindsTo.of_eq rfl) (by decide +kernel) rfl (by walk_at "binds") (by walk_at "bindsc") rfl rfl rfl fun C hC => ?_
  have h_b_len := @b_len w.params
  have h_g_Builder := @g_Builder w.params
  have h_k_732 := @k_732 w.params
  have h_b_min := @b_min w.params
  have h_b_bytearray := @b_bytearray w.params
  have h_s_B_Bytes := @s_B_Bytes w.params
  have h_v_732_MAX := @v_732_MAX w.params
  refine Run.post fun Qf hQf => ?_
  refine run_execs (run_IfF ?_)
  walk_at "rs"
  refine run_Call ?_
  walk_at "rs"
  refine run_callWith keeps_builtin ?_
  walk_at "rs"
  refine run_len_ba (by walk_at "mem") (by omega) fun t => ?_
  walk_at "rs"
  refine ⟨by simp; omega, ?_⟩
  walk_at "rs"
  refine run_Call ?_
  walk_at "rs"
  refine run_callWith keeps_builtin ?_
  walk_at "rs"
  refine run_Call ?_
  walk_at "rs"
  refine run_callWith keeps_builtin ?_
  walk_at "rs"
  refine run_len_ba (by walk_at "mem") (by omega) fun t => ?_
  walk_at "rs"
  refine run_mul (mul_ok (by omega) (by omega)) fun t => ?_
  walk_at "rs"
  refine run_minL (by omega) fun t => ?_
  walk_at "rs"
  by_cases h0 : l.length = 0
  · refine run_IfT ?_
    walk_at "rs"
    refine ⟨by simp [h0], ?_⟩
    walk_at "rs"
    rw [if_pos h0] at hN
    refine run_Call ?_
    walk_at "rs"
    refine run_callWith keeps_type ?_
    walk_at "rs"
    refine run_new_ba (by omega) (by omega) fun ba2 => ?_
    walk_at "rs"
    refine run_Call ?_
    walk_at "rs"
    refine run_callWith keeps_builtin ?_
    walk_at "rs"
    refine run_len_ba (by walk_at "mem") (by omega) fun t => ?_
    walk_at "rs"
    intro sl
    have eN : (1 : Int).toNat = N := by omega
    have eN2 : (1 : Int) = N := by omega
    refine Run.ndL fun nd => ?_
    rw [eN, eN2]
    refine run_growset (l := l) (N := N) (by omega) (by omega) (fun e => by rw [e] at nd; simp at nd) (by walk_at "put") (by walk_at "mem") (by walk_at "mem") ?_
    walk_at "rs"
    exact hQf _ _ _ ⟨_, _, by walk_at "pick", rfl, ba2, rfl⟩
  · refine run_IfF ?_
    walk_at "rs"
    refine ⟨beq_false_of_ne (by omega), ?_⟩
    walk_at "rs"
    rw [if_neg h0] at hN
    refine run_Call ?_
    walk_at "rs"
    refine run_callWith keeps_type ?_
    walk_at "rs"
    refine run_new_ba (by omega) (by omega) fun ba2 => ?_
    walk_at "rs"
    refine run_Call ?_
    walk_at "rs"
    refine run_callWith keeps_builtin ?_
    walk_at "rs"
    refine run_len_ba (by walk_at "mem") (by omega) fun t => ?_
    walk_at "rs"
    intro sl
    have eN : (l.length * 2 : Int).toNat = N := by omega
    have eN2 : (l.length * 2 : Int) = N := by omega
    refine Run.ndL fun nd => ?_
    rw [eN, eN2]
    refine run_growset (l := l) (N := N) (by omega) (by omega) (fun e => by rw [e] at nd; simp at nd) (by walk_at "put") (by walk_at "mem") (by walk_at "mem") ?_
    walk_at "rs"
    exact hQf _ _ _ ⟨_, _, by walk_at "pick", rfl, ba2, rfl⟩
end
end

/-! G4 -/



section
variable {prog : Program} {w : World}
section
variable {b dx ba : Addr} {cv oe ne vt fi : Value} {hd ma : Int} {th tm : Tok} {vn : Option Value} {l J out : List UInt8}
theorem c_Prep {s a : Nat} {ts ta : Tok} (hs : s = 1 ∨ s = 2 ∨ s = 4) (ho : out.length + a ≤ 190) (hz : J.length + out.length ≤ 500) : CallP prog w (myK w.params) (.ref 416) [.ref b, .int s ts, .int a ta] [] 2 (bLed b dx ba cv J.length th ma tm oe ne vn vt fi (J ++ out))
    (fun v led' => v = .none ∧ ∃ ba' J' th' tm', s + a ≤ J'.length ∧ J'.length + padI (out.length + a) s + out.length ≤ 500 ∧ J.length ≤ J'.length + padI (out.length + a) s ∧ led' = bLed b dx ba' cv J'.length th' (if ma < s then (s : Int) else ma) tm' oe ne vn vt fi (J' ++ (List.replicate (padI (out.length + a) s) 0 ++ out))) := by
  refine CallP.fn0 (binds := [("self", .ref b), ("size", .int s ts), ("additionalBytes", .int a ta)]) (loc0 := [("self", none), ("size", none), ("additionalBytes", none), ("head", none), ("buf_len", none), ("alignSize", none), ("needed", none), ("oldBufSize", none)]) (loc := [("self", some (.ref b)), ("size", some (.int s ts)), ("additionalBytes", some (.int a ta)), ("head", none), ("buf_len", none), ("alignSize", none), ("needed", none), ("oldBufSize", none)]) [("self", .local), ("size", .local), ("additionalBytes", .local), ("head", .local), ("buf_len", .local), ("alignSize", .local), ("needed", .local), ("oldBufSize", .local), ("len", .globalImplicit)] ["self", "size", "additionalBytes", "head", "buf_len", "alignSize", "needed", "oldBufSize"] (by k_is) (by k_is) rfl (fun s X => BindsTo.of_eq rfl) (by decide +kernel) rfl (by walk_at "binds") (by walk_at "bindsc") rfl rfl rfl fun C hC => ?_
  have h_b_len := @b_len w.params
  have h_s_B_head := @s_B_head w.params
  have h_s_B_minalign := @s_B_minalign w.params
  have h_s_B_Bytes := @s_B_Bytes w.params
  have h_m_B_Pad := @m_B_Pad w.params
  have h_k_409 := @k_409 w.params
  have h_m_B_GrowByteBuffer := @m_B_GrowByteBuffer w.params
  have h_k_388 := @k_388 w.params
  refine Run.post fun Qf hQf => ?_
  refine run_execs (Run.mono (Q := fun f loc' led' => f = .next ∧ loc' = ([("self", some (.ref b)), ("size", some (.int s ts)), ("additionalBytes", some (.int a ta)), ("head", none), ("buf_len", none), ("alignSize", none), ("needed", none), ("oldBufSize", none)] : Loc) ∧ ∃ tm', led' = bLed b dx ba cv J.length th (if ma < s then (s : Int) else ma) tm' oe ne vn vt fi (J ++ out)) ?_ ?_)
  · by_cases hm : ma < s
    · rw [if_pos hm]
      refine run_IfT ?_
      walk_at "rs"
      refine ⟨decide_eq_true hm, ?_⟩
      walk_at "rs"
      exact ⟨rfl, rfl, _, rfl⟩
    · rw [if_neg hm]
      refine run_IfF ?_
      walk_at "rs"
      refine ⟨decide_eq_false hm, ?_⟩
      walk_at "rs"
      exact ⟨rfl, rfl, _, rfl⟩
  rintro _ _ _ ⟨rfl, rfl, tm', rfl⟩
  walk_at "rs"
  refine run_Call ?_
  walk_at "rs"
  refine run_callWith keeps_builtin ?_
  walk_at "rs"
  refine run_len_ba (by walk_at "mem") (by rw [List.length_append]; omega) fun t => ?_
  walk_at "rs"
  have e1 : Builtin.bitAnd (Builtin.bitNot (((J ++ out).length : Int) - J.length + a) + 1) ((s : Int) - 1) = (padI (out.length + a) s : Nat) := by
    have e0 : (((J ++ out).length : Int) - J.length + a) = ((out.length + a : Nat) : Int) := by rw [List.length_append]; omega
    rw [e0]
    rcases hs with rfl | rfl | rfl
    · exact align1 _
    · exact align2 _
    · exact align4 _
  rw [e1]
  have hpad : padI (out.length + a) s ≤ 3 := by
    unfold padI
    rcases hs with rfl | rfl | rfl <;> omega
  refine run_While (RunC.while (fun m loc led => ∃ (J' : List UInt8) (ba' : Addr) (t1 t2 t3 t4 : Tok) (o : Option Value), J'.length + m = max J'.length (padI (out.length + a) s + s + a) ∧ J'.length + out.length ≤ 500 ∧ J.length ≤ J'.length ∧
    loc = ([("self", some (.ref b)), ("size", some (.int s ts)), ("additionalBytes", some (.int a ta)), ("head", some (.int J'.length t1)), ("buf_len", some (.int (J' ++ out).length t2)), ("alignSize", some (.int (padI (out.length + a) s : Nat) t3)), ("needed", some (.int ((padI (out.length + a) s : Nat) + s + a) t4)), ("oldBufSize", o)] : Loc) ∧
    led = bLed b dx ba' cv J.length th (if ma < s then (s : Int) else ma) tm' oe ne vn vt fi (J' ++ out)) ?_ (max J.length (padI (out.length + a) s + s + a) - J.length) _ _ ⟨J, ba, _, _, _, _, _, by omega, hz, Nat.le_refl _, rfl, rfl⟩)
  rintro m loc0 led0 hI0
  refine ex7 hI0 (fun J' ba' t1 t2 t3 t4 o hI1 => ?_)
  clear hI0
  refine andL3 hI1 (fun hm hz' hJJ => ?_)
  clear hI1
  walk_at "rs"
  refine ⟨fun hlt => ?_, fun hlt => ?_⟩
  · have hlt := of_decide_eq_true hlt
    walk_at "rs"
    refine run_ExprC ?_
    refine run_Method ?_
    walk_at "rs"
    intro pl
    refine run_meth hC (by assumption) (by walk_at "mem") (by walk_at "mem") (run_callWith (keeps_ref hC (by assumption)) ?_)
    walk_at "rs"
    refine run_call hC (c_Grow (l := J' ++ out) (by rw [List.length_append]; omega) rfl) rfl (by walk_at "pick") ?_
    rintro v led' ⟨rfl, ba2, rfl⟩
    refine ⟨_, by walk_at "app", ?_⟩
    have hN : ∃ q, (if (J' ++ out).length = 0 then 1 else 2 * (J' ++ out).length) - (J' ++ out).length = q + 1 ∧ q + 1 + (J' ++ out).length ≤ 500 := by
      rw [List.length_append]
      split
      · exact ⟨0, by omega, by omega⟩
      · exact ⟨J'.length + out.length - 1, by omega, by omega⟩
    obtain ⟨q, hq, hq5⟩ := hN
    rw [List.length_append] at hq5
    have eb : List.replicate ((if (J' ++ out).length = 0 then 1 else 2 * (J' ++ out).length) - (J' ++ out).length) 0 ++ (J' ++ out) = (List.replicate (q + 1) 0 ++ J') ++ out := by rw [hq, List.append_assoc]
    rw [eb]
    walk_at "rs"
    refine run_Call ?_
    walk_at "rs"
    refine run_callWith keeps_builtin ?_
    walk_at "rs"
    refine run_len_ba (by walk_at "mem") (by simp; omega) fun t => ?_
    walk_at "rs"
    have e3 : (J'.length : Int) + (((List.replicate (q + 1) (0 : UInt8) ++ J') ++ out).length - (J' ++ out).length) = ((List.replicate (q + 1) (0 : UInt8) ++ J').length : Int) := by simp; omega
    rw [e3]
    have e4 : (List.replicate (q + 1) (0 : UInt8) ++ J').length = q + 1 + J'.length := by simp
    exact ⟨max (List.replicate (q + 1) (0 : UInt8) ++ J').length (padI (out.length + a) s + s + a) - (List.replicate (q + 1) (0 : UInt8) ++ J').length, _, _, by omega, by walk_at "pick", List.replicate (q + 1) 0 ++ J', ba2, _, _, _, _, _, by omega, by omega, by omega, rfl, rfl⟩
  · have hlt := of_decide_eq_false hlt
    walk_at "rs"
    refine run_ExprC ?_
    refine run_Method ?_
    walk_at "rs"
    intro pl
    refine run_meth hC (by assumption) (by walk_at "mem") (by walk_at "mem") (run_callWith (keeps_ref hC (by assumption)) ?_)
    walk_at "rs"
    refine run_call hC (c_Pad (J := J') (out := out) (by omega) (by omega) (by omega)) rfl (by walk_at "pick") ?_
    rintro v led' ⟨rfl, J2, t, hJ, rfl⟩
    refine ⟨_, by walk_at "app", ?_⟩
    walk_at "rs"
    exact hQf _ _ _ ⟨_, _, by walk_at "pick", rfl, ba', J2, t, tm', by omega, by omega, by omega, rfl⟩
end
end

/-! G5 -/



section
variable {prog : Program} {w : World}
def leI (n : Nat) (v : Int) : List UInt8 := leB n (v % 2 ^ (8 * n)).toNat
theorem leI_length (n : Nat) (v : Int) : (leI n v).length = n := leB_length _ _
theorem patch_end {J out raw : List UInt8} {n : Nat} {i : Int} (hn : n ≤ J.length) (hr : raw.length = n) (hi : i = (J.length : Int) - n) : patchL (J ++ out) i.toNat raw = J.take (J.length - n) ++ (raw ++ out) := by
  subst hr hi
  have e : ((J.length : Int) - raw.length).toNat = J.length - raw.length := by omega
  unfold patchL
  rw [e, List.take_append_of_le_length (by omega), show J.length - raw.length + raw.length = J.length by omega, List.drop_left, List.append_assoc]
section
variable {b dx ba : Addr} {cv oe ne vt fi : Value} {hd ma : Int} {th tm : Tok} {vn : Option Value} {l J out : List UInt8}
theorem c_Place {fl st : Addr} {lo hi v : Int} {tl tb t tv th2 : Tok} {f : Array UInt8} {c : Char} {n' : Nat} (F : Fmt f c n' lo (hi + 1)) (e : (myK w.params).lookup st = some (stObj f t))
    (V1 : ClsV (myK w.params) fl "min_val" (.int lo tl) (.type "type")) (V2 : ClsV (myK w.params) fl "max_val" (.int hi th2) (.type "type")) (V3 : ClsV (myK w.params) fl "packer_type" (.ref st) (.type "type")) (V4 : ClsV (myK w.params) fl "bytewidth" (.int n' tb) (.type "type"))
    (h0 : lo ≤ v) (h1 : v ≤ hi) (hn : n' ≤ J.length) (hz : J.length + out.length ≤ 2000) : CallP prog w (myK w.params) (.ref 707) [.ref b, .int v tv, .ref fl] [] 2 (bLed b dx ba cv J.length th ma tm oe ne vn vt fi (J ++ out))
    (fun r led' => r = .none ∧ ∃ J' t, J'.length + n' = J.length ∧ led' = bLed b dx ba cv J'.length t ma tm oe ne vn vt fi (J' ++ (leI n' v ++ out))) := by
  refine CallP.fn0 (binds := [("self", .ref b), ("x", .int v tv), ("flags", .ref fl)]) (loc0 := [("self", none), ("x", none), ("flags", none), ("new_head", none)]) (loc := [("self", some (.ref b)), ("x", some (.int v tv)), ("flags", some (.ref fl)), ("new_head", none)]) [("self", .local), ("x", .local), ("flags", .local), ("new_head", .local), ("enforce_number", .globalImplicit), ("Write", .globalImplicit)] ["self", "x", "flags", "new_head"] (by k_is) (by k_is) rfl (fun s X => BindsTo.of_eq rfl) (by decide +kernel) rfl (by walk_at "binds") (by walk_at "bindsc") rfl rfl rfl fun C hC => ?_
  have h_g_enforce_number := @g_enforce_number w.params
  have h_k_152 := @k_152 w.params
  have h_g_Write := @g_Write w.params
  have h_k_166 := @k_166 w.params
  have h_s_B_head := @s_B_head w.params
  have h_s_B_Bytes := @s_B_Bytes w.params
  refine Run.post fun Qf hQf => ?_
  refine run_execs (run_ExprC ?_)
  refine run_Call ?_
  walk_at "rs"
  refine run_callWith (keeps_ref hC (by assumption)) ?_
  walk_at "rs"
  refine run_call0 hC (c_enforce V1 V2 h0 h1) rfl (by walk_at "pick") fun rv hv => ?_
  walk_at "rs"
  refine run_ExprC ?_
  refine run_Call ?_
  walk_at "rs"
  refine run_callWith (keeps_ref hC (by assumption)) ?_
  walk_at "rs"
  refine run_call hC (c_Write (l := J ++ out) F e (by omega) (by rw [List.length_append]; omega) (by rw [List.length_append]; omega) h0 (by omega)) rfl (by walk_at "pick") ?_
  rintro _ _ ⟨rfl, rfl⟩
  refine ⟨_, by walk_at "app", ?_⟩
  have ep : patchL (J ++ out) ((J.length : Int) - n').toNat (leB n' (v % 2 ^ (8 * n')).toNat) = J.take (J.length - n') ++ (leI n' v ++ out) := patch_end hn (leI_length _ _) rfl
  rw [ep]
  walk_at "rs"
  have e3 : (J.length : Int) - n' = ((J.take (J.length - n')).length : Int) := by simp; omega
  exact hQf _ _ _ ⟨_, _, by walk_at "pick", rfl, J.take (J.length - n'), _, by simp; omega, congrArg (fun i : Int => bLed b dx ba cv i _ ma tm oe ne vn vt fi (J.take (J.length - n') ++ (leI n' v ++ out))) e3⟩
theorem c_PlaceU {v : Int} {tv : Tok} (h0 : 0 ≤ v) (h1 : v ≤ 4294967295) (hn : 4 ≤ J.length) (hz : J.length + out.length ≤ 2000) : CallP prog w (myK w.params) (.ref 728) [.ref b, .int v tv] [] 2 (bLed b dx ba cv J.length th ma tm oe ne vn vt fi (J ++ out))
    (fun r led' => r = .none ∧ ∃ J' t, J'.length + 4 = J.length ∧ led' = bLed b dx ba cv J'.length t ma tm oe ne vn vt fi (J' ++ (leI 4 v ++ out))) := by
  refine CallP.fn0 (binds := [("self", .ref b), ("x", .int v tv)]) (loc0 := [("self", none), ("x", none), ("new_head", none)]) (loc := [("self", some (.ref b)), ("x", some (.int v tv)), ("new_head", none)]) [("self", .local), ("x", .local), ("new_head", .local), ("enforce_number", .globalImplicit), ("UOffsetTFlags", .globalImplicit), ("Write", .globalImplicit), ("uoffset", .globalImplicit)] ["self", "x", "new_head"] (by k_is) (by k_is) rfl (fun s X => BindsTo.of_eq rfl) (by decide +kernel) rfl (by walk_at "binds") (by walk_at "bindsc") rfl rfl rfl fun C hC => ?_
  have h_g_enforce_number := @g_enforce_number w.params
  have h_k_152 := @k_152 w.params
  have h_g_UOffsetTFlags := @g_UOffsetTFlags w.params
  have h_g_Write := @g_Write w.params
  have h_k_166 := @k_166 w.params
  have h_g_uoffset := @g_uoffset w.params
  have h_s_B_head := @s_B_head w.params
  have h_v_131_bytewidth := @v_131_bytewidth w.params
  have h_s_B_Bytes := @s_B_Bytes w.params
  refine Run.post fun Qf hQf => ?_
  refine run_execs (run_ExprC ?_)
  refine run_Call ?_
  walk_at "rs"
  refine run_callWith (keeps_ref hC (by assumption)) ?_
  walk_at "rs"
  refine run_call0 hC (c_enforce v_131_min_val v_131_max_val h0 h1) rfl (by walk_at "pick") fun rv hv => ?_
  walk_at "rs"
  refine run_ExprC ?_
  refine run_Call ?_
  walk_at "rs"
  refine run_callWith (keeps_ref hC (by assumption)) ?_
  walk_at "rs"
  refine run_call hC (c_Write (l := J ++ out) .I st_52 (by omega) (by rw [List.length_append]; omega) (by rw [List.length_append]; omega) h0 (by omega)) rfl (by walk_at "pick") ?_
  rintro _ _ ⟨rfl, rfl⟩
  refine ⟨_, by walk_at "app", ?_⟩
  have ep : patchL (J ++ out) ((J.length : Int) - 4).toNat (leB 4 (v % 2 ^ (8 * 4)).toNat) = J.take (J.length - 4) ++ (leI 4 v ++ out) := patch_end hn (leI_length _ _) rfl
  rw [ep]
  walk_at "rs"
  have e3 : (J.length : Int) - 4 = ((J.take (J.length - 4)).length : Int) := by simp; omega
  exact hQf _ _ _ ⟨_, _, by walk_at "pick", rfl, J.take (J.length - 4), _, by simp; omega, congrArg (fun i : Int => bLed b dx ba cv i _ ma tm oe ne vn vt fi (J.take (J.length - 4) ++ (leI 4 v ++ out))) e3⟩
theorem c_PlaceS {v : Int} {tv : Tok} (h0 : -2147483648 ≤ v) (h1 : v ≤ 2147483647) (hn : 4 ≤ J.length) (hz : J.length + out.length ≤ 2000) : CallP prog w (myK w.params) (.ref 721) [.ref b, .int v tv] [] 2 (bLed b dx ba cv J.length th ma tm oe ne vn vt fi (J ++ out))
    (fun r led' => r = .none ∧ ∃ J' t, J'.length + 4 = J.length ∧ led' = bLed b dx ba cv J'.length t ma tm oe ne vn vt fi (J' ++ (leI 4 v ++ out))) := by
  refine CallP.fn0 (binds := [("self", .ref b), ("x", .int v tv)]) (loc0 := [("self", none), ("x", none), ("new_head", none)]) (loc := [("self", some (.ref b)), ("x", some (.int v tv)), ("new_head", none)]) [("self", .local), ("x", .local), ("new_head", .local), ("enforce_number", .globalImplicit), ("SOffsetTFlags", .globalImplicit), ("Write", .globalImplicit), ("soffset", .globalImplicit)] ["self", "x", "new_head"] (by k_is) (by k_is) rfl (fun s X => BindsTo.of_eq rfl) (by decide +kernel) rfl (by walk_at "binds") (by walk_at "bindsc") rfl rfl rfl fun C hC => ?_
  have h_g_enforce_number := @g_enforce_number w.params
  have h_k_152 := @k_152 w.params
  have h_g_SOffsetTFlags := @g_SOffsetTFlags w.params
  have h_g_Write := @g_Write w.params
  have h_k_166 := @k_166 w.params
  have h_g_soffset := @g_soffset w.params
  have h_s_B_head := @s_B_head w.params
  have h_v_119_bytewidth := @v_119_bytewidth w.params
  have h_s_B_Bytes := @s_B_Bytes w.params
  refine Run.post fun Qf hQf => ?_
  refine run_execs (run_ExprC ?_)
  refine run_Call ?_
  walk_at "rs"
  refine run_callWith (keeps_ref hC (by assumption)) ?_
  walk_at "rs"
  refine run_call0 hC (c_enforce v_119_min_val v_119_max_val h0 h1) rfl (by walk_at "pick") fun rv hv => ?_
  walk_at "rs"
  refine run_ExprC ?_
  refine run_Call ?_
  walk_at "rs"
  refine run_callWith (keeps_ref hC (by assumption)) ?_
  walk_at "rs"
  refine run_call hC (c_Write (l := J ++ out) .i st_53 (by omega) (by rw [List.length_append]; omega) (by rw [List.length_append]; omega) (by omega) (by omega)) rfl (by walk_at "pick") ?_
  rintro _ _ ⟨rfl, rfl⟩
  refine ⟨_, by walk_at "app", ?_⟩
  have ep : patchL (J ++ out) ((J.length : Int) - 4).toNat (leB 4 (v % 2 ^ (8 * 4)).toNat) = J.take (J.length - 4) ++ (leI 4 v ++ out) := patch_end hn (leI_length _ _) rfl
  rw [ep]
  walk_at "rs"
  have e3 : (J.length : Int) - 4 = ((J.take (J.length - 4)).length : Int) := by simp; omega
  exact hQf _ _ _ ⟨_, _, by walk_at "pick", rfl, J.take (J.length - 4), _, by simp; omega, congrArg (fun i : Int => bLed b dx ba cv i _ ma tm oe ne vn vt fi (J.take (J.length - 4) ++ (leI 4 v ++ out))) e3⟩
/-- what a scalar adds, with its padding -/
abbrev addS (n : Nat) (v : Int) (out : List UInt8) : List UInt8 := leI n v ++ (List.replicate (padI (out.length + 0) n) 0 ++ out)
theorem c_Prepend {fl st : Addr} {lo hi v : Int} {tl tb t tv th2 : Tok} {f : Array UInt8} {c : Char} {n' : Nat} (F : Fmt f c n' lo (hi + 1)) (e : (myK w.params).lookup st = some (stObj f t))
    (V1 : ClsV (myK w.params) fl "min_val" (.int lo tl) (.type "type")) (V2 : ClsV (myK w.params) fl "max_val" (.int hi th2) (.type "type")) (V3 : ClsV (myK w.params) fl "packer_type" (.ref st) (.type "type")) (V4 : ClsV (myK w.params) fl "bytewidth" (.int n' tb) (.type "type"))
    (h0 : lo ≤ v) (h1 : v ≤ hi) (hs : n' = 1 ∨ n' = 2 ∨ n' = 4) (hma : (n' : Int) ≤ ma) (ho : out.length ≤ 180) (hz : J.length + out.length ≤ 500) : CallP prog w (myK w.params) (.ref 525) [.ref b, .ref fl, .int v tv] [] 3 (bLed b dx ba cv J.length th ma tm oe ne vn vt fi (J ++ out))
    (fun r led' => r = .none ∧ ∃ ba' J' t tm', J'.length + (addS n' v out).length ≤ 500 ∧ J.length + out.length ≤ J'.length + (addS n' v out).length ∧ led' = bLed b dx ba' cv J'.length t ma tm' oe ne vn vt fi (J' ++ addS n' v out)) := by
  refine CallP.fn0 (binds := [("self", .ref b), ("flags", .ref fl), ("off", .int v tv)]) (loc0 := [("self", none), ("flags", none), ("off", none)]) (loc := [("self", some (.ref b)), ("flags", some (.ref fl)), ("off", some (.int v tv))]) [("self", .local), ("flags", .local), ("off", .local)] ["self", "flags", "off"] (by k_is) (by k_is) rfl (fun s X => BindsTo.of_eq rfl) (by decide +kernel) rfl (by walk_at "binds") (by walk_at "bindsc") rfl rfl rfl fun C hC => ?_
  have h_m_B_Prep := @m_B_Prep w.params
  have h_k_416 := @k_416 w.params
  have h_m_B_Place := @m_B_Place w.params
  have h_k_707 := @k_707 w.params
  refine Run.post fun Qf hQf => ?_
  refine run_execs (run_ExprC ?_)
  refine run_Method ?_
  walk_at "rs"
  intro pl
  refine run_meth hC (by assumption) (by walk_at "mem") (by walk_at "mem") (run_callWith (keeps_ref hC (by assumption)) ?_)
  walk_at "rs"
  refine run_call hC (c_Prep (a := 0) (J := J) (out := out) hs (by omega) hz) rfl (by walk_at "pick") ?_
  rw [if_neg (by omega)]
  rintro _ _ ⟨rfl, ba', J', th', tm', h4, h5, h7, rfl⟩
  refine ⟨_, by walk_at "app", ?_⟩
  walk_at "rs"
  refine run_ExprC ?_
  refine run_Method ?_
  walk_at "rs"
  intro pl
  refine run_meth hC (by assumption) (by walk_at "mem") (by walk_at "mem") (run_callWith (keeps_ref hC (by assumption)) ?_)
  walk_at "rs"
  refine run_call hC (c_Place (J := J') (out := List.replicate (padI (out.length + 0) n') 0 ++ out) F e V1 V2 V3 V4 h0 h1 (by omega) (by rw [List.length_append, List.length_replicate]; omega)) rfl (by walk_at "pick") ?_
  rintro _ _ ⟨rfl, J2, t2, h6, rfl⟩
  refine ⟨_, by walk_at "app", ?_⟩
  walk_at "rs"
  exact hQf _ _ _ ⟨_, _, by walk_at "pick", rfl, ba', J2, t2, tm', by unfold addS; rw [List.length_append, List.length_append, List.length_replicate, leI_length]; omega, by unfold addS; rw [List.length_append, List.length_append, List.length_replicate, leI_length]; omega, rfl⟩
end
end

/-! G6 -/



section
variable {prog : Program} {w : World}
section
variable {b dx ba : Addr} {cv oe ne vt fi : Value} {hd ma : Int} {th tm : Tok} {vn : Option Value} {l J out : List UInt8}
theorem c_PrependB {v : Int} {tv : Tok} (h0 : 0 ≤ v) (h1 : v ≤ 255) (hma : 1 ≤ ma) (ho : out.length ≤ 180) (hz : J.length + out.length ≤ 500) : CallP prog w (myK w.params) (.ref 637) [.ref b, .int v tv] [] 4 (bLed b dx ba cv J.length th ma tm oe ne vn vt fi (J ++ out))
    (fun r led' => r = .none ∧ ∃ ba' J' t tm', J'.length + (addS 1 v out).length ≤ 500 ∧ J.length + out.length ≤ J'.length + (addS 1 v out).length ∧ led' = bLed b dx ba' cv J'.length t ma tm' oe ne vn vt fi (J' ++ addS 1 v out)) := by
  refine CallP.fn0 (binds := [("self", .ref b), ("x", .int v tv)]) (loc0 := [("self", none), ("x", none)]) (loc := [("self", some (.ref b)), ("x", some (.int v tv))]) [("self", .local), ("x", .local), ("Uint8Flags", .globalImplicit)] ["self", "x"] (by k_is) (by k_is) rfl (fun s X => BindsTo.of_eq rfl) (by decide +kernel) rfl (by walk_at "binds") (by walk_at "bindsc") rfl rfl rfl fun C hC => ?_
  have h_g_Uint8Flags := @g_Uint8Flags w.params
  have h_m_B_Prepend := @m_B_Prepend w.params
  have h_k_525 := @k_525 w.params
  refine Run.post fun Qf hQf => ?_
  refine run_execs (run_ExprC ?_)
  refine run_Method ?_
  walk_at "rs"
  intro pl
  refine run_meth hC (by assumption) (by walk_at "mem") (by walk_at "mem") (run_callWith (keeps_ref hC (by assumption)) ?_)
  walk_at "rs"
  refine run_call hC (c_Prepend (J := J) (out := out) (n' := 1) .B st_50 v_63_min_val v_63_max_val v_63_packer_type v_63_bytewidth h0 h1 (.inl rfl) hma ho hz) rfl (by walk_at "pick") ?_
  rintro _ _ ⟨rfl, ba', J', t, tm', h, h', rfl⟩
  refine ⟨_, by walk_at "app", ?_⟩
  walk_at "rs"
  exact hQf _ _ _ ⟨_, _, by walk_at "pick", rfl, ba', J', t, tm', h, h', rfl⟩
theorem c_PrependV {v : Int} {tv : Tok} (h0 : 0 ≤ v) (h1 : v ≤ 65535) (hma : 2 ≤ ma) (ho : out.length ≤ 180) (hz : J.length + out.length ≤ 500) : CallP prog w (myK w.params) (.ref 700) [.ref b, .int v tv] [] 4 (bLed b dx ba cv J.length th ma tm oe ne vn vt fi (J ++ out))
    (fun r led' => r = .none ∧ ∃ ba' J' t tm', J'.length + (addS 2 v out).length ≤ 500 ∧ J.length + out.length ≤ J'.length + (addS 2 v out).length ∧ led' = bLed b dx ba' cv J'.length t ma tm' oe ne vn vt fi (J' ++ addS 2 v out)) := by
  refine CallP.fn0 (binds := [("self", .ref b), ("x", .int v tv)]) (loc0 := [("self", none), ("x", none)]) (loc := [("self", some (.ref b)), ("x", some (.int v tv))]) [("self", .local), ("x", .local), ("VOffsetTFlags", .globalImplicit)] ["self", "x"] (by k_is) (by k_is) rfl (fun s X => BindsTo.of_eq rfl) (by decide +kernel) rfl (by walk_at "binds") (by walk_at "bindsc") rfl rfl rfl fun C hC => ?_
  have h_g_VOffsetTFlags := @g_VOffsetTFlags w.params
  have h_m_B_Prepend := @m_B_Prepend w.params
  have h_k_525 := @k_525 w.params
  refine Run.post fun Qf hQf => ?_
  refine run_execs (run_ExprC ?_)
  refine run_Method ?_
  walk_at "rs"
  intro pl
  refine run_meth hC (by assumption) (by walk_at "mem") (by walk_at "mem") (run_callWith (keeps_ref hC (by assumption)) ?_)
  walk_at "rs"
  refine run_call hC (c_Prepend (J := J) (out := out) (n' := 2) .H st_51 v_143_min_val v_143_max_val v_143_packer_type v_143_bytewidth h0 h1 (.inr (.inl rfl)) hma ho hz) rfl (by walk_at "pick") ?_
  rintro _ _ ⟨rfl, ba', J', t, tm', h, h', rfl⟩
  refine ⟨_, by walk_at "app", ?_⟩
  walk_at "rs"
  exact hQf _ _ _ ⟨_, _, by walk_at "pick", rfl, ba', J', t, tm', h, h', rfl⟩
/-- an offset to what lies o bytes ahead of the end: its own place is counted -/
abbrev addR (o : Nat) (out : List UInt8) : List UInt8 := leI 4 (((List.replicate (padI (out.length + 0) 4) (0 : UInt8) ++ out).length : Int) - o + 4) ++ (List.replicate (padI (out.length + 0) 4) 0 ++ out)
theorem offs {J out : List UInt8} : (((J ++ out).length : Int) - J.length) = out.length := by rw [List.length_append]; omega
theorem c_PrependUR {o : Nat} {tv : Tok} (h1 : o ≤ out.length) (hma : 4 ≤ ma) (ho : out.length ≤ 180) (hz : J.length + out.length ≤ 500) : CallP prog w (myK w.params) (.ref 430) [.ref b, .int o tv] [] 3 (bLed b dx ba cv J.length th ma tm oe ne vn vt fi (J ++ out))
    (fun r led' => r = .none ∧ ∃ ba' J' t tm', J'.length + (addR o out).length ≤ 500 ∧ led' = bLed b dx ba' cv J'.length t ma tm' oe ne vn vt fi (J' ++ addR o out)) := by
  refine CallP.fn0 (binds := [("self", .ref b), ("off", .int o tv)]) (loc0 := [("self", none), ("off", none), ("msg", none), ("off2", none)]) (loc := [("self", some (.ref b)), ("off", some (.int o tv)), ("msg", none), ("off2", none)]) [("self", .local), ("off", .local), ("msg", .local), ("off2", .local), ("UOffsetTFlags", .globalImplicit), ("OffsetArithmeticError", .globalImplicit)] ["self", "off", "msg", "off2"] (by k_is) (by k_is) rfl (fun s X => BindsTo.of_eq rfl) (by decide +kernel) rfl (by walk_at "binds") (by walk_at "bindsc") rfl rfl rfl fun C hC => ?_
  have h_g_UOffsetTFlags := @g_UOffsetTFlags w.params
  have h_m_B_Prep := @m_B_Prep w.params
  have h_k_416 := @k_416 w.params
  have h_v_131_bytewidth := @v_131_bytewidth w.params
  have h_m_B_PlaceUOffsetT := @m_B_PlaceUOffsetT w.params
  have h_k_728 := @k_728 w.params
  have h_m_B_Offset := @m_B_Offset w.params
  have h_k_402 := @k_402 w.params
  refine Run.post fun Qf hQf => ?_
  refine run_execs (run_ExprC ?_)
  refine run_Method ?_
  walk_at "rs"
  intro pl
  refine run_meth hC (by assumption) (by walk_at "mem") (by walk_at "mem") (run_callWith (keeps_ref hC (by assumption)) ?_)
  walk_at "rs"
  refine run_call hC (c_Prep (a := 0) (J := J) (out := out) (s := 4) (.inr (.inr rfl)) (by omega) hz) rfl (by walk_at "pick") ?_
  rw [if_neg (by omega)]
  rintro _ _ ⟨rfl, ba', J', th', tm', h4, h5, h7, rfl⟩
  refine ⟨_, by walk_at "app", ?_⟩
  have hp : padI (out.length + 0) 4 ≤ 3 := by unfold padI; omega
  have hl : (List.replicate (padI (out.length + 0) 4) (0 : UInt8) ++ out).length = padI (out.length + 0) 4 + out.length := by rw [List.length_append, List.length_replicate]
  have hb : (J' ++ (List.replicate (padI (out.length + 0) 4) 0 ++ out)).length ≤ 100000 := by rw [List.length_append, hl]; omega
  walk_at "rs"
  refine run_IfF ?_
  walk_at "rs"
  refine run_Method ?_
  walk_at "rs"
  intro pl
  refine run_meth hC (by assumption) (by walk_at "mem") (by walk_at "mem") (run_callWith (keeps_ref hC (by assumption)) ?_)
  walk_at "rs"
  refine run_callI hC (c_BOffset hb) rfl (by walk_at "pick") fun t1 => ?_
  walk_at "rs"
  rw [offs]
  refine ⟨by rw [decide_eq_true (by rw [hl]; omega)]; rfl, ?_⟩
  walk_at "rs"
  refine run_Method ?_
  walk_at "rs"
  intro pl
  refine run_meth hC (by assumption) (by walk_at "mem") (by walk_at "mem") (run_callWith (keeps_ref hC (by assumption)) ?_)
  walk_at "rs"
  refine run_callI hC (c_BOffset hb) rfl (by walk_at "pick") fun t2 => ?_
  walk_at "rs"
  rw [offs]
  refine run_ExprC ?_
  refine run_Method ?_
  walk_at "rs"
  intro pl
  refine run_meth hC (by assumption) (by walk_at "mem") (by walk_at "mem") (run_callWith (keeps_ref hC (by assumption)) ?_)
  walk_at "rs"
  refine run_call hC (c_PlaceU (J := J') (out := List.replicate (padI (out.length + 0) 4) 0 ++ out) (by rw [hl]; omega) (by rw [hl]; omega) (by omega) (by rw [hl]; omega)) rfl (by walk_at "pick") ?_
  rintro _ _ ⟨rfl, J2, t3, h6, rfl⟩
  refine ⟨_, by walk_at "app", ?_⟩
  walk_at "rs"
  exact hQf _ _ _ ⟨_, _, by walk_at "pick", rfl, ba', J2, t3, tm', by rw [List.length_append, leI_length, hl]; omega, rfl⟩
theorem c_PrependSR {o : Nat} {tv : Tok} (h1 : o ≤ out.length) (hma : 4 ≤ ma) (ho : out.length ≤ 180) (hz : J.length + out.length ≤ 500) : CallP prog w (myK w.params) (.ref 423) [.ref b, .int o tv] [] 3 (bLed b dx ba cv J.length th ma tm oe ne vn vt fi (J ++ out))
    (fun r led' => r = .none ∧ ∃ ba' J' t tm', J'.length + (addR o out).length ≤ 500 ∧ led' = bLed b dx ba' cv J'.length t ma tm' oe ne vn vt fi (J' ++ addR o out)) := by
  refine CallP.fn0 (binds := [("self", .ref b), ("off", .int o tv)]) (loc0 := [("self", none), ("off", none), ("msg", none), ("off2", none)]) (loc := [("self", some (.ref b)), ("off", some (.int o tv)), ("msg", none), ("off2", none)]) [("self", .local), ("off", .local), ("msg", .local), ("off2", .local), ("SOffsetTFlags", .globalImplicit), ("OffsetArithmeticError", .globalImplicit)] ["self", "off", "msg", "off2"] (by k_is) (by k_is) rfl (fun s X => BindsTo.of_eq rfl) (by decide +kernel) rfl (by walk_at "binds") (by walk_at "bindsc") rfl rfl rfl fun C hC => ?_
  have h_g_SOffsetTFlags := @g_SOffsetTFlags w.params
  have h_m_B_Prep := @m_B_Prep w.params
  have h_k_416 := @k_416 w.params
  have h_v_119_bytewidth := @v_119_bytewidth w.params
  have h_m_B_PlaceSOffsetT := @m_B_PlaceSOffsetT w.params
  have h_k_721 := @k_721 w.params
  have h_m_B_Offset := @m_B_Offset w.params
  have h_k_402 := @k_402 w.params
  refine Run.post fun Qf hQf => ?_
  refine run_execs (run_ExprC ?_)
  refine run_Method ?_
  walk_at "rs"
  intro pl
  refine run_meth hC (by assumption) (by walk_at "mem") (by walk_at "mem") (run_callWith (keeps_ref hC (by assumption)) ?_)
  walk_at "rs"
  refine run_call hC (c_Prep (a := 0) (J := J) (out := out) (s := 4) (.inr (.inr rfl)) (by omega) hz) rfl (by walk_at "pick") ?_
  rw [if_neg (by omega)]
  rintro _ _ ⟨rfl, ba', J', th', tm', h4, h5, h7, rfl⟩
  refine ⟨_, by walk_at "app", ?_⟩
  have hp : padI (out.length + 0) 4 ≤ 3 := by unfold padI; omega
  have hl : (List.replicate (padI (out.length + 0) 4) (0 : UInt8) ++ out).length = padI (out.length + 0) 4 + out.length := by rw [List.length_append, List.length_replicate]
  have hb : (J' ++ (List.replicate (padI (out.length + 0) 4) 0 ++ out)).length ≤ 100000 := by rw [List.length_append, hl]; omega
  walk_at "rs"
  refine run_IfF ?_
  walk_at "rs"
  refine run_Method ?_
  walk_at "rs"
  intro pl
  refine run_meth hC (by assumption) (by walk_at "mem") (by walk_at "mem") (run_callWith (keeps_ref hC (by assumption)) ?_)
  walk_at "rs"
  refine run_callI hC (c_BOffset hb) rfl (by walk_at "pick") fun t1 => ?_
  walk_at "rs"
  rw [offs]
  refine ⟨by rw [decide_eq_true (by rw [hl]; omega)]; rfl, ?_⟩
  walk_at "rs"
  refine run_Method ?_
  walk_at "rs"
  intro pl
  refine run_meth hC (by assumption) (by walk_at "mem") (by walk_at "mem") (run_callWith (keeps_ref hC (by assumption)) ?_)
  walk_at "rs"
  refine run_callI hC (c_BOffset hb) rfl (by walk_at "pick") fun t2 => ?_
  walk_at "rs"
  rw [offs]
  refine run_ExprC ?_
  refine run_Method ?_
  walk_at "rs"
  intro pl
  refine run_meth hC (by assumption) (by walk_at "mem") (by walk_at "mem") (run_callWith (keeps_ref hC (by assumption)) ?_)
  walk_at "rs"
  refine run_call hC (c_PlaceS (J := J') (out := List.replicate (padI (out.length + 0) 4) 0 ++ out) (by rw [hl]; omega) (by rw [hl]; omega) (by omega) (by rw [hl]; omega)) rfl (by walk_at "pick") ?_
  rintro _ _ ⟨rfl, J2, t3, h6, rfl⟩
  refine ⟨_, by walk_at "app", ?_⟩
  walk_at "rs"
  exact hQf _ _ _ ⟨_, _, by walk_at "pick", rfl, ba', J2, t3, tm', by rw [List.length_append, leI_length, hl]; omega, rfl⟩
end
end

/-! G7 -/



section
variable {prog : Program} {w : World}
theorem pad1 (x : Nat) : padI x 1 = 0 := by unfold padI; omega
section
variable {b dx ba : Addr} {cv oe ne vt fi : Value} {hd ma : Int} {th tm : Tok} {vn : Option Value} {l J out : List UInt8}
/-- room for a vector of k bytes -/
abbrev addV (k : Nat) (out : List UInt8) : List UInt8 := List.replicate (padI (out.length + k) 4) 0 ++ out
theorem c_StartV {k : Nat} {t1 t2 t3 : Tok} (hm0 : 1 ≤ ma) (hma : ma ≤ 4) (ho : out.length + k ≤ 180) (hz : J.length + out.length ≤ 500) : CallP prog w (myK w.params) (.ref 437) [.ref b, .int 1 t1, .int k t2, .int 1 t3] [] 3 (bLed b dx ba cv J.length th ma tm oe (.bool false) vn vt fi (J ++ out))
    (fun r led' => ∃ ba' J' t tm', 4 + k ≤ J'.length ∧ J'.length + (addV k out).length ≤ 500 ∧ led' = bLed b dx ba' cv J'.length t 4 tm' oe (.bool true) (some (.int k t2)) vt fi (J' ++ addV k out)) := by
  refine CallP.fn0 (binds := [("self", .ref b), ("elemSize", .int 1 t1), ("numElems", .int k t2), ("alignment", .int 1 t3)]) (loc0 := [("self", none), ("elemSize", none), ("numElems", none), ("alignment", none)]) (loc := [("self", some (.ref b)), ("elemSize", some (.int 1 t1)), ("numElems", some (.int k t2)), ("alignment", some (.int 1 t3))]) [("self", .local), ("elemSize", .local), ("numElems", .local), ("alignment", .local), ("Uint32Flags", .globalImplicit)] ["self", "elemSize", "numElems", "alignment"] (by k_is) (by k_is) rfl (fun s X => BindsTo.of_eq rfl) (by decide +kernel) rfl (by walk_at "binds") (by walk_at "bindsc") rfl rfl rfl fun C hC => ?_
  have h_g_Uint32Flags := @g_Uint32Flags w.params
  have h_s_B_nested := @s_B_nested w.params
  have h_s_B_vectorNumElems := @s_B_vectorNumElems w.params
  have h_m_B_assertNotNested := @m_B_assertNotNested w.params
  have h_k_480 := @k_480 w.params
  have h_m_B_Prep := @m_B_Prep w.params
  have h_k_416 := @k_416 w.params
  have h_v_91_bytewidth := @v_91_bytewidth w.params
  have h_m_B_Offset := @m_B_Offset w.params
  have h_k_402 := @k_402 w.params
  refine Run.post fun Qf hQf => ?_
  refine run_execs (run_ExprC ?_)
  refine run_Method ?_
  walk_at "rs"
  intro pl
  refine run_meth hC (by assumption) (by walk_at "mem") (by walk_at "mem") (run_callWith (keeps_ref hC (by assumption)) ?_)
  walk_at "rs"
  refine run_call0 hC (c_BNotNested) rfl (by walk_at "pick") fun rv hv => ?_
  walk_at "rs"
  refine run_ExprC ?_
  refine run_Method ?_
  walk_at "rs"
  intro pl
  refine run_meth hC (by assumption) (by walk_at "mem") (by walk_at "mem") (run_callWith (keeps_ref hC (by assumption)) ?_)
  walk_at "rs"
  refine run_mul (mul_ok (by omega) (by omega)) fun t => ?_
  rw [Int.one_mul]
  walk_at "rs"
  refine run_call hC (c_Prep (a := k) (J := J) (out := out) (s := 4) (.inr (.inr rfl)) (by omega) hz) rfl (by walk_at "pick") ?_
  have em : (if ma < ((4 : Nat) : Int) then ((4 : Nat) : Int) else ma) = 4 := by split <;> omega
  rw [em]
  rintro _ _ ⟨rfl, ba', J', th', tm', h4, h5, h7, rfl⟩
  refine ⟨_, by walk_at "app", ?_⟩
  walk_at "rs"
  refine run_ExprC ?_
  refine run_Method ?_
  walk_at "rs"
  intro pl
  refine run_meth hC (by assumption) (by walk_at "mem") (by walk_at "mem") (run_callWith (keeps_ref hC (by assumption)) ?_)
  walk_at "rs"
  refine run_mul (mul_ok (by omega) (by omega)) fun t => ?_
  rw [Int.one_mul]
  walk_at "rs"
  have hp : padI (out.length + k) 4 ≤ 3 := by unfold padI; omega
  have hl : (addV k out).length = padI (out.length + k) 4 + out.length := by rw [List.length_append, List.length_replicate]
  refine run_call hC (c_Prep (a := k) (J := J') (out := addV k out) (s := 1) (.inl rfl) (by rw [hl]; omega) (by rw [hl]; omega)) rfl (by walk_at "pick") ?_
  rw [pad1, List.replicate_zero, List.nil_append, if_neg (by omega)]
  rintro _ _ ⟨rfl, ba2, J2, th2, tm2, h8, h9, h10, rfl⟩
  refine ⟨_, by walk_at "app", ?_⟩
  walk_at "rs"
  refine run_Method ?_
  walk_at "rs"
  intro pl
  refine run_meth hC (by assumption) (by walk_at "mem") (by walk_at "mem") (run_callWith (keeps_ref hC (by assumption)) ?_)
  walk_at "rs"
  refine run_call0 hC (c_BOffset (l := J2 ++ addV k out) (by rw [List.length_append, hl]; omega)) rfl (by walk_at "pick") fun rv hv => ?_
  walk_at "rs"
  exact hQf _ _ _ ⟨_, _, by walk_at "pick", ba2, J2, th2, tm2, by omega, by omega, rfl⟩
theorem c_EndV {k : Nat} {t1 : Tok} (hk : k ≤ 100) (hJ : 4 ≤ J.length) (hz : J.length + out.length ≤ 500) : CallP prog w (myK w.params) (.ref 445) [.ref b] [] 3 (bLed b dx ba cv J.length th ma tm oe (.bool true) (some (.int k t1)) vt fi (J ++ out))
    (fun r led' => ∃ J' t t2, r = .int (leI 4 k ++ out).length t2 ∧ J'.length + 4 = J.length ∧ led' = bLed b dx ba cv J'.length t ma tm oe (.bool false) (some .none) vt fi (J' ++ (leI 4 k ++ out))) := by
  refine CallP.fn0 (binds := [("self", .ref b), ("numElems", .none)]) (loc0 := [("self", none), ("numElems", none)]) (loc := [("self", some (.ref b)), ("numElems", some (.none))]) [("self", .local), ("numElems", .local), ("EndVectorLengthMismatched", .globalImplicit)] ["self", "numElems"] (by k_is) (by k_is) rfl (fun s X => binds_K X rfl (by k_is) rfl rfl rfl) (by decide +kernel) rfl (by walk_at "binds") (by walk_at "bindsc") rfl rfl rfl fun C hC => ?_
  have h_s_B_nested := @s_B_nested w.params
  have h_s_B_vectorNumElems := @s_B_vectorNumElems w.params
  have h_m_B_assertNested := @m_B_assertNested w.params
  have h_k_473 := @k_473 w.params
  have h_m_B_PlaceUOffsetT := @m_B_PlaceUOffsetT w.params
  have h_k_728 := @k_728 w.params
  have h_m_B_Offset := @m_B_Offset w.params
  have h_k_402 := @k_402 w.params
  refine Run.post fun Qf hQf => ?_
  refine run_execs (run_ExprC ?_)
  refine run_Method ?_
  walk_at "rs"
  intro pl
  refine run_meth hC (by assumption) (by walk_at "mem") (by walk_at "mem") (run_callWith (keeps_ref hC (by assumption)) ?_)
  walk_at "rs"
  refine run_call0 hC (c_BNested) rfl (by walk_at "pick") fun rv hv => ?_
  walk_at "rs"
  refine run_IfF (run_isPlain ?_)
  walk_at "rs"
  refine ⟨rfl, ?_⟩
  walk_at "rs"
  refine run_ExprC ?_
  refine run_Method ?_
  walk_at "rs"
  intro pl
  refine run_meth hC (by assumption) (by walk_at "mem") (by walk_at "mem") (run_callWith (keeps_ref hC (by assumption)) ?_)
  walk_at "rs"
  refine run_call hC (c_PlaceU (J := J) (out := out) (by omega) (by omega) hJ (by omega)) rfl (by walk_at "pick") ?_
  rintro _ _ ⟨rfl, J2, t3, h6, rfl⟩
  refine ⟨_, by walk_at "app", ?_⟩
  walk_at "rs"
  refine run_Method ?_
  walk_at "rs"
  intro pl
  refine run_meth hC (by assumption) (by walk_at "mem") (by walk_at "mem") (run_callWith (keeps_ref hC (by assumption)) ?_)
  walk_at "rs"
  refine run_callI hC (c_BOffset (l := J2 ++ (leI 4 k ++ out)) (by rw [List.length_append, List.length_append, leI_length]; omega)) rfl (by walk_at "pick") fun t2 => ?_
  walk_at "rs"
  rw [offs]
  exact hQf _ _ _ ⟨_, _, by walk_at "pick", J2, t3, t2, rfl, h6, rfl⟩
end
end

/-! G8 -/



section
variable {prog : Program} {w : World}
def rowB (ns : List Int) : List UInt8 := ns.map fun n => n.toNat.toUInt8
theorem leI1 {v : Int} (h0 : 0 ≤ v) (h1 : v ≤ 255) : leI 1 v = [v.toNat.toUInt8] := by
  unfold leI leB
  have e : (v % 2 ^ (8 * 1)).toNat = v.toNat := by
    rw [Int.emod_eq_of_lt h0 (by simp; omega)]
  rw [e]
  have : v.toNat % 256 = v.toNat := Nat.mod_eq_of_lt (by omega)
  simp [this]
theorem rowB_length (ns : List Int) : (rowB ns).length = ns.length := by unfold rowB; rw [List.length_map]
abbrev rowOut (ns : List Int) (out : List UInt8) : List UInt8 := leI 4 ns.length ++ (rowB ns ++ addV ns.length out)
theorem row_step {ns : List Int} {i : Nat} {v : Int} {o : List UInt8} (hi : i < ns.length) (hv : ns[ns.length - 1 - i]? = some v) (h0 : 0 ≤ v) (h1 : v ≤ 255) : addS 1 v (rowB (ns.drop (ns.length - i)) ++ o) = rowB (ns.drop (ns.length - (i + 1))) ++ o := by
  have e : ns.drop (ns.length - (i + 1)) = v :: ns.drop (ns.length - i) := by
    have hlt : ns.length - (i + 1) < ns.length := by omega
    rw [List.drop_eq_getElem_cons hlt]
    have e2 : ns.length - (i + 1) + 1 = ns.length - i := by omega
    rw [e2]
    congr 1
    have e3 : ns.length - 1 - i = ns.length - (i + 1) := by omega
    rw [e3, List.getElem?_eq_getElem hlt] at hv
    exact Option.some.inj hv
  rw [e]
  unfold addS
  rw [pad1, List.replicate_zero, List.nil_append, leI1 h0 h1]
  rfl
section
variable {b dx ba va : Addr} {cv oe ne vt fi : Value} {hd ma : Int} {th tm : Tok} {vn : Option Value} {l J out : List UInt8} {vs : List Value} {ns : List Int} {k0 : Nat}
theorem c_row (hi : IntsAre vs ns) (hr : ∀ n ∈ ns, 0 ≤ n ∧ n ≤ 255) (hk : ns.length ≤ 24) (hm0 : 1 ≤ ma) (hma : ma ≤ 4) (ho : out.length ≤ 120) (hz : J.length + out.length ≤ 500) :
    CallP prog w (myK w.params) (.ref 768) [.ref b, .ref va] [] 5 ((va, lstObj vs k0) :: bLed b dx ba cv J.length th ma tm oe (.bool false) vn vt fi (J ++ out))
    (fun r led' => ∃ ba' J' t tm' t2, r = .int (rowOut ns out).length t2 ∧ J'.length + (rowOut ns out).length ≤ 500 ∧ led' = (va, lstObj vs k0) :: bLed b dx ba' cv J'.length t 4 tm' oe (.bool false) (some .none) vt fi (J' ++ rowOut ns out)) := by
  have hlen : vs.length = ns.length := hi.length
  refine CallP.fn0 (binds := [("b", .ref b), ("values", .ref va)]) (loc0 := [("b", none), ("values", none), ("x", none)]) (loc := [("b", some (.ref b)), ("values", some (.ref va)), ("x", none)]) [("b", .local), ("values", .local), ("x", .local), ("len", .globalImplicit), ("reversed", .globalImplicit)] ["b", "values", "x"] (by k_is) (by k_is) rfl (fun s X => BindsTo.of_eq rfl) (by decide +kernel) rfl (by walk_at "binds") (by walk_at "bindsc") rfl rfl rfl fun C hC => ?_
  have h_b_len := @b_len w.params
  have h_b_reversed := @b_reversed w.params
  have h_m_B_StartVector := @m_B_StartVector w.params
  have h_k_437 := @k_437 w.params
  have h_m_B_EndVector := @m_B_EndVector w.params
  have h_k_445 := @k_445 w.params
  have h_m_B_PrependUint8 := @m_B_PrependUint8 w.params
  have h_k_637 := @k_637 w.params
  refine Run.post fun Qf hQf => ?_
  refine run_execs (run_ExprC ?_)
  refine run_Method ?_
  walk_at "rs"
  intro pl
  refine run_meth hC (by assumption) (by walk_at "mem") (by walk_at "mem") (run_callWith (keeps_ref hC (by assumption)) ?_)
  walk_at "rs"
  refine run_Call ?_
  walk_at "rs"
  refine run_callWith keeps_builtin ?_
  walk_at "rs"
  refine run_len_list (by walk_at "mem") (by omega) fun t => ?_
  walk_at "rs"
  rw [hlen]
  refine run_call hC (c_StartV (k := ns.length) (J := J) (out := out) hm0 hma (by omega) hz) rfl (by walk_at "pick") ?_
  rintro _ _ ⟨ba', J', t', tm', h4, h5, rfl⟩
  refine ⟨_, by walk_at "app", ?_⟩
  walk_at "rs"
  refine run_For ?_
  refine run_Call ?_
  walk_at "rs"
  refine run_callWith keeps_type ?_
  walk_at "rs"
  refine run_reversed (by walk_at "mem") fun it => ?_
  walk_at "rs"
  refine iter_revSelf (l := va) (n := vs.length) (i := 0) (by walk_at "mem") ⟨rfl, by simp [revObj]⟩ ?_
  refine RunC.forT (iterRev it va vs k0) (fun i loc led => ∃ (ba' : Addr) (J' : List UInt8) (t2 tm2 : Tok) (ov : Option Value), 4 + (ns.length - i) ≤ J'.length ∧ J'.length + (rowB (ns.drop (ns.length - i)) ++ addV ns.length out).length ≤ 500 ∧
    loc = ([("b", some (.ref b)), ("values", some (.ref va)), ("x", ov)] : Loc) ∧
    led = [(b, inst 732 dx (bSl ba' cv J'.length t2 4 tm2 oe (.bool true) (some (.int ns.length t)) vt fi)), (dx, dict0), (ba', baObj (J' ++ (rowB (ns.drop (ns.length - i)) ++ addV ns.length out))), (va, lstObj vs k0)]) ?_ ?_ ?_ _ 0 _ _ _ rfl (Nat.zero_le _) ⟨rfl, by simp [revObj]⟩
    ⟨ba', J', t', tm', none, by omega, by simpa [rowB] using h5, rfl, by simp [rowB]⟩
  · rintro i loc0 led0 hI0
    refine ex5 hI0 (fun ba2 J2 t2 tm2 ov hI1 => ?_)
    clear hI0
    refine andL2 hI1 (fun h6 h7 => ?_)
    clear hI1
    walk_at "mem"
  · rintro Qt hQt i v o loc0 led0 hlt hv hP hI0
    refine ex5 hI0 (fun ba2 J2 t2 tm2 ov hI1 => ?_)
    clear hI0
    refine andL2 hI1 (fun h6 h7 => ?_)
    clear hI1
    rw [hlen] at hlt hv
    obtain ⟨x, tx, rfl, hx⟩ := hi.at _ _ hv
    obtain ⟨hx0, hx1⟩ := hr x (List.mem_of_getElem? hx)
    have hd : (rowB (ns.drop (ns.length - i)) ++ addV ns.length out).length ≤ 180 := by
      have hp : padI (out.length + ns.length) 4 ≤ 3 := by unfold padI; omega
      rw [List.length_append, List.length_append, List.length_replicate, rowB, List.length_map, List.length_drop]
      omega
    refine ⟨_, by walk_at "setl", ?_⟩
    walk_at "rs"
    refine run_ExprC ?_
    refine run_Method ?_
    walk_at "rs"
    intro pl
    refine run_meth hC (by assumption) (by walk_at "mem") (by walk_at "mem") (run_callWith (keeps_ref hC (by assumption)) ?_)
    walk_at "rs"
    refine run_call hC (c_PrependB (J := J2) (out := rowB (ns.drop (ns.length - i)) ++ addV ns.length out) hx0 hx1 (show (1 : Int) ≤ 4 by decide) hd h7) rfl (by walk_at "pick") ?_
    rw [row_step hlt hx hx0 hx1]
    rintro _ _ ⟨rfl, ba3, J3, t3, tm3, h8, h9, rfl⟩
    refine ⟨_, by walk_at "app", ?_⟩
    walk_at "rs"
    refine hQt _ _ _ _ ?_
    dsimp only [Turn]
    refine ⟨o, _, _, by walk_at "pick", hP, ba3, J3, t3, tm3, _, ?_, h8, rfl, rfl⟩
    simp only [List.length_append, rowB_length, List.length_drop] at h9
    omega
  rintro loc0 led0 hI0
  refine ex5 hI0 (fun ba2 J2 t2 tm2 ov hI1 => ?_)
  clear hI0
  refine andL2 hI1 (fun h6 h7 => ?_)
  clear hI1
  rw [hlen, Nat.sub_self, List.drop_zero] at h7 ⊢
  rw [hlen, Nat.sub_self] at h6
  walk_at "rs"
  refine run_Method ?_
  walk_at "rs"
  intro pl
  refine run_meth hC (by assumption) (by walk_at "mem") (by walk_at "mem") (run_callWith (keeps_ref hC (by assumption)) ?_)
  walk_at "rs"
  refine run_call hC (c_EndV (k := ns.length) (J := J2) (out := rowB ns ++ addV ns.length out) (by omega) (by omega) h7) rfl (by walk_at "pick") ?_
  rintro _ _ ⟨J3, t3, t4, rfl, h8, rfl⟩
  refine ⟨_, by walk_at "app", ?_⟩
  walk_at "rs"
  exact hQf _ _ _ ⟨_, _, by walk_at "pick", ba2, J3, t3, tm2, t4, rfl, by rw [rowOut, List.length_append, leI_length]; omega, rfl⟩
end
end

/-! G9 -/



section
variable {prog : Program} {w : World}
theorem run_newLst {C : Cx} {loc : Loc} {led : Led} {vs : List Value} {Q : Value → Loc → Led → Prop} (hz : Nat.ble vs.length 100000 = true) (h : ∀ a, Q (.ref a) loc ((a, lstObj vs 0) :: led)) : Run C (newList vs) loc led Q := run_newList h hz
section
variable {b dx ba ca : Addr} {cv oe ne vt fi : Value} {hd ma : Int} {th tm : Tok} {vn : Option Value} {l J out : List UInt8} {its : List Value} {kc : Nat}
theorem c_Slot {i : Nat} {ti : Tok} (hi : i < its.length) (h8 : its.length ≤ 8) (hz : J.length + out.length ≤ 500) : CallP prog w (myK w.params) (.ref 494) [.ref b, .int i ti] [] 2 ((ca, lstObj its kc) :: bLed b dx ba (.ref ca) J.length th ma tm oe (.bool true) vn vt fi (J ++ out))
    (fun r led' => ∃ t, led' = (ca, lstObj (its.set i (.int out.length t)) kc) :: bLed b dx ba (.ref ca) J.length th ma tm oe (.bool true) vn vt fi (J ++ out)) := by
  refine CallP.fn0 (binds := [("self", .ref b), ("slotnum", .int i ti)]) (loc0 := [("self", none), ("slotnum", none)]) (loc := [("self", some (.ref b)), ("slotnum", some (.int i ti))]) [("self", .local), ("slotnum", .local)] ["self", "slotnum"] (by k_is) (by k_is) rfl (fun s X => BindsTo.of_eq rfl) (by decide +kernel) rfl (by walk_at "binds") (by walk_at "bindsc") rfl rfl rfl fun C hC => ?_
  have h_m_B_assertNested := @m_B_assertNested w.params
  have h_k_473 := @k_473 w.params
  have h_s_B_current_vtable := @s_B_current_vtable w.params
  have h_m_B_Offset := @m_B_Offset w.params
  have h_k_402 := @k_402 w.params
  refine Run.post fun Qf hQf => ?_
  refine run_execs (run_ExprC ?_)
  refine run_Method ?_
  walk_at "rs"
  intro pl
  refine run_meth hC (by assumption) (by walk_at "mem") (by walk_at "mem") (run_callWith (keeps_ref hC (by assumption)) ?_)
  walk_at "rs"
  refine run_call0 hC (c_BNested) rfl (by walk_at "pick") fun rv hv => ?_
  walk_at "rs"
  refine run_Method ?_
  walk_at "rs"
  intro pl
  refine run_meth hC (by assumption) (by walk_at "mem") (by walk_at "mem") (run_callWith (keeps_ref hC (by assumption)) ?_)
  walk_at "rs"
  refine run_callI hC (c_BOffset (l := J ++ out) (by rw [List.length_append]; omega)) rfl (by walk_at "pick") fun t => ?_
  walk_at "rs"
  rw [offs]
  refine run_set_list (its := its) (k := kc) (by walk_at "put") (by omega) (by omega) (by omega) ?_
  rw [Int.toNat_natCast]
  walk_at "rs"
  exact hQf _ _ _ ⟨_, _, by walk_at "pick", t, rfl⟩
theorem c_RelSlot {i o : Nat} {ti tx td : Tok} (hx : o ≠ 0) (h1 : o ≤ out.length) (hma : 4 ≤ ma) (ho : out.length ≤ 180) (hi : i < its.length) (h8 : its.length ≤ 8) (hz : J.length + out.length ≤ 500) : CallP prog w (myK w.params) (.ref 609) [.ref b, .int i ti, .int o tx, .int 0 td] [] 4
    ((ca, lstObj its kc) :: bLed b dx ba (.ref ca) J.length th ma tm oe (.bool true) vn vt fi (J ++ out))
    (fun r led' => ∃ ba' J' t tm' t2, J'.length + (addR o out).length ≤ 500 ∧ led' = (ca, lstObj (its.set i (.int (addR o out).length t2)) kc) :: bLed b dx ba' (.ref ca) J'.length t ma tm' oe (.bool true) vn vt fi (J' ++ addR o out)) := by
  refine CallP.fn0 (binds := [("self", .ref b), ("o", .int i ti), ("x", .int o tx), ("d", .int 0 td)]) (loc0 := [("self", none), ("o", none), ("x", none), ("d", none)]) (loc := [("self", some (.ref b)), ("o", some (.int i ti)), ("x", some (.int o tx)), ("d", some (.int 0 td))]) [("self", .local), ("o", .local), ("x", .local), ("d", .local)] ["self", "o", "x", "d"] (by k_is) (by k_is) rfl (fun s X => BindsTo.of_eq rfl) (by decide +kernel) rfl (by walk_at "binds") (by walk_at "bindsc") rfl rfl rfl fun C hC => ?_
  have h_s_B_forceDefaults := @s_B_forceDefaults w.params
  have h_m_B_PrependUOffsetTRelative := @m_B_PrependUOffsetTRelative w.params
  have h_k_430 := @k_430 w.params
  have h_m_B_Slot := @m_B_Slot w.params
  have h_k_494 := @k_494 w.params
  refine Run.post fun Qf hQf => ?_
  refine run_execs (run_IfT (run_isOrT ?_))
  walk_at "rs"
  refine ⟨by simpa using hx, rfl, ?_⟩
  walk_at "rs"
  refine run_ExprC ?_
  refine run_Method ?_
  walk_at "rs"
  intro pl
  refine run_meth hC (by assumption) (by walk_at "mem") (by walk_at "mem") (run_callWith (keeps_ref hC (by assumption)) ?_)
  walk_at "rs"
  refine run_call hC (c_PrependUR (J := J) (out := out) (o := o) h1 hma ho hz) rfl (by walk_at "pick") ?_
  rintro _ _ ⟨rfl, ba', J', t, tm', h, rfl⟩
  refine ⟨_, by walk_at "app", ?_⟩
  walk_at "rs"
  refine run_ExprC ?_
  refine run_Method ?_
  walk_at "rs"
  intro pl
  refine run_meth hC (by assumption) (by walk_at "mem") (by walk_at "mem") (run_callWith (keeps_ref hC (by assumption)) ?_)
  walk_at "rs"
  refine run_call hC (c_Slot (its := its) (J := J') (out := addR o out) hi h8 h) rfl (by walk_at "pick") ?_
  rintro _ _ ⟨t2, rfl⟩
  refine ⟨_, by walk_at "app", ?_⟩
  walk_at "rs"
  exact hQf _ _ _ ⟨_, _, by walk_at "pick", ba', J', t, tm', t2, h, rfl⟩
theorem c_StartObj {t1 : Tok} (hz : J.length + out.length ≤ 500) : CallP prog w (myK w.params) (.ref 367) [.ref b, .int 5 t1] [] 2 (bLed b dx ba cv J.length th ma tm oe (.bool false) vn vt fi (J ++ out))
    (fun r led' => ∃ ca t0 t, led' = (ca, lstObj [.int 0 t0, .int 0 t0, .int 0 t0, .int 0 t0, .int 0 t0] 0) :: bLed b dx ba (.ref ca) J.length th ma tm (.int out.length t) (.bool true) vn vt fi (J ++ out)) := by
  refine CallP.fn0 (binds := [("self", .ref b), ("numfields", .int 5 t1)]) (loc0 := [("self", none), ("numfields", none)]) (loc := [("self", some (.ref b)), ("numfields", some (.int 5 t1))]) [("self", .local), ("numfields", .local)] ["self", "numfields"] (by k_is) (by k_is) rfl (fun s X => BindsTo.of_eq rfl) (by decide +kernel) rfl (by walk_at "binds") (by walk_at "bindsc") rfl rfl rfl fun C hC => ?_
  have h_s_B_current_vtable := @s_B_current_vtable w.params
  have h_s_B_objectEnd := @s_B_objectEnd w.params
  have h_s_B_nested := @s_B_nested w.params
  have h_m_B_assertNotNested := @m_B_assertNotNested w.params
  have h_k_480 := @k_480 w.params
  have h_m_B_Offset := @m_B_Offset w.params
  have h_k_402 := @k_402 w.params
  refine Run.post fun Qf hQf => ?_
  refine run_execs (run_ExprC ?_)
  refine run_Method ?_
  walk_at "rs"
  intro pl
  refine run_meth hC (by assumption) (by walk_at "mem") (by walk_at "mem") (run_callWith (keeps_ref hC (by assumption)) ?_)
  walk_at "rs"
  refine run_call0 hC (c_BNotNested) rfl (by walk_at "pick") fun rv hv => ?_
  walk_at "rs"
  refine run_List ?_
  walk_at "rs"
  refine run_newLst rfl fun c0 => ?_
  rename_i t0
  walk_at "rs"
  refine run_mul_list (its := [.int 0 t0]) (k := 0) (by walk_at "mem") (by decide) (show 1 * 5 ≤ 256 by decide) (by decide) fun ca => ?_
  walk_at "rs"
  refine run_Method ?_
  walk_at "rs"
  intro pl
  refine run_meth hC (by assumption) (by walk_at "mem") (by walk_at "mem") (run_callWith (keeps_ref hC (by assumption)) ?_)
  walk_at "rs"
  refine run_callI hC (c_BOffset (l := J ++ out) (by rw [List.length_append]; omega)) rfl (by walk_at "pick") fun t => ?_
  rw [offs]
  walk_at "rs"
  exact hQf _ _ _ ⟨_, _, Pick.cons .here (Pick.cons (.there .here) (Pick.cons (.there .here) (Pick.cons (.there .here) .nil))), ca, t0, t, rfl⟩
theorem c_Output (hz : J.length + out.length ≤ 500) : CallP prog w (myK w.params) (.ref 360) [.ref b] [] 1 (bLed b dx ba cv J.length th ma tm oe ne vn vt (.bool true) (J ++ out))
    (fun r led' => ∃ c, r = .ref c ∧ led' = [(c, baObj out)]) := by
  refine CallP.fn0 (binds := [("self", .ref b)]) (loc0 := [("self", none)]) (loc := [("self", some (.ref b))]) [("self", .local), ("BuilderNotFinishedError", .globalImplicit)] ["self"] (by k_is) (by k_is) rfl (fun s X => BindsTo.of_eq rfl) (by decide +kernel) rfl (by walk_at "binds") (by walk_at "bindsc") rfl rfl rfl fun C hC => ?_
  have h_s_B_finished := @s_B_finished w.params
  have h_s_B_Bytes := @s_B_Bytes w.params
  have h_s_B_head := @s_B_head w.params
  refine Run.post fun Qf hQf => ?_
  refine run_execs (run_IfF (run_isNot (run_isPlain ?_)))
  walk_at "rs"
  refine ⟨rfl, ?_⟩
  walk_at "rs"
  refine run_sub ?_
  walk_at "rs"
  intro sl
  refine run_py_ba (by walk_at "mem") ⟨rfl, ?_⟩
  refine run_cut_ba (l := J ++ out) (lo := some J.length) (hi := none) (by walk_at "mem") (by walk_at "mem") (.int _ _) .none (by rw [List.length_append]; omega) fun c => ?_
  have e : (((J ++ out).drop ((some (J.length : Int)).elim 0 (clipAt (J ++ out).length))).take ((none : Option Int).elim (J ++ out).length (clipAt (J ++ out).length) - (some (J.length : Int)).elim 0 (clipAt (J ++ out).length))) = out := by
    simp only [Option.elim, clipAt_nat]
    rw [Nat.min_eq_left (by rw [List.length_append]; omega), List.drop_left, List.take_of_length_le (by rw [List.length_append]; omega)]
  rw [e]
  exact hQf _ _ _ ⟨_, _, by walk_at "pick", c, rfl, rfl⟩
end
end

/-! G10 -/



section
variable {prog : Program} {w : World}
/-- the offsets of a table of five, as they are laid -/
def vOut : Nat → List UInt8 → List UInt8
  | 0, o => o
  | n + 1, o => leI 2 (4 * ((n : Int) + 1)) ++ vOut n o
theorem vOut_length : ∀ (n : Nat) (o : List UInt8), (vOut n o).length = 2 * n + o.length
  | 0, o => by simp [vOut]
  | n + 1, o => by rw [vOut, List.length_append, leI_length, vOut_length n o]; omega
theorem pad0 {x s : Nat} (h : x % s = 0) : padI x s = 0 := by unfold padI; rw [h]; simp
theorem addS_even {v : Int} {o : List UInt8} (h : o.length % 2 = 0) : addS 2 v o = leI 2 v ++ o := by
  unfold addS
  rw [pad0 (by simpa using h), List.replicate_zero, List.nil_append]
abbrev wvLoc (b : Addr) (tO : Tok) (vk trim elem osz vt2 i trl off vb os : Option Value) : Loc :=
  [("self", some (.ref b)), ("objectOffset", some (.int 88 tO)), ("vtKey", vk), ("trim", trim), ("elem", elem), ("objectSize", osz), ("vt2Offset", vt2), ("i", i), ("trailing", trl), ("off", off), ("vBytes", vb), ("objectStart", os)]
theorem wv_item {i : Nat} {v : Value} {t0 t1 t2 t3 t4 : Tok} (hi : i < 5) (hv : [Value.int 68 t0, .int 72 t1, .int 76 t2, .int 80 t3, .int 84 t4][5 - 1 - i]? = some v) : ∃ t, v = .int (84 - 4 * (i : Int)) t := by
  match i, hi with
  | 0, _ => exact ⟨t4, (Option.some.inj hv).symm⟩
  | 1, _ => exact ⟨t3, (Option.some.inj hv).symm⟩
  | 2, _ => exact ⟨t2, (Option.some.inj hv).symm⟩
  | 3, _ => exact ⟨t1, (Option.some.inj hv).symm⟩
  | 4, _ => exact ⟨t0, (Option.some.inj hv).symm⟩
theorem wv_take {i : Nat} (hi : i < 5) : ([4, 8, 12, 16, 20] : List Int).take (i + 1) = ([4, 8, 12, 16, 20] : List Int).take i ++ [88 - (84 - 4 * (i : Int))] := by
  match i, hi with
  | 0, _ => rfl
  | 1, _ => rfl
  | 2, _ => rfl
  | 3, _ => rfl
  | 4, _ => rfl
theorem wv_get {m : Nat} {t0 t1 t2 t3 t4 : Tok} (h0 : 1 ≤ m) (h5 : m ≤ 5) : ∃ t, [Value.int 68 t0, .int 72 t1, .int 76 t2, .int 80 t3, .int 84 t4][((m : Int) - 1).toNat]? = some (.int (64 + 4 * (m : Int)) t) := by
  match m, h0, h5 with
  | 1, _, _ => exact ⟨t0, rfl⟩
  | 2, _, _ => exact ⟨t1, rfl⟩
  | 3, _, _ => exact ⟨t2, rfl⟩
  | 4, _, _ => exact ⟨t3, rfl⟩
  | 5, _, _ => exact ⟨t4, rfl⟩
theorem wv_out {m : Nat} {o : List UInt8} (h0 : 1 ≤ m) (h5 : m ≤ 5) (ho : o.length % 2 = 0) : addS 2 (88 - (64 + 4 * (m : Int))) (vOut (5 - m) o) = vOut (5 - (m - 1)) o := by
  rw [addS_even (by rw [vOut_length]; omega)]
  have e : 5 - (m - 1) = (5 - m) + 1 := by omega
  rw [e, vOut]
  have e2 : (88 - (64 + 4 * (m : Int))) = 4 * (((5 - m : Nat) : Int) + 1) := by omega
  rw [e2]
theorem wv_patch {J H out : List UInt8} {i : Int} {r r2 : List UInt8} (h1 : r.length = 4) (h2 : r2.length = 4) (ho : out.length = 84) (hi : i = ((J ++ (H ++ (r ++ out))).length : Int) - 88) : patchL (J ++ (H ++ (r ++ out))) i.toNat r2 = J ++ (H ++ (r2 ++ out)) := by
  have e : i.toNat = (J ++ H).length := by rw [hi]; simp; omega
  unfold patchL
  rw [e, ← List.append_assoc J H, ← List.append_assoc J H, List.take_left, h2]
  have e2 : List.drop ((J ++ H).length + 4) (J ++ H ++ (r ++ out)) = out := by
    rw [← List.append_assoc]
    exact List.drop_left' (by rw [List.length_append, h1])
  rw [e2, List.append_assoc]
theorem vOut_app : ∀ (n : Nat) (o : List UInt8), ∃ H, ∀ q, vOut n q = H ++ q
  | 0, o => ⟨[], fun q => rfl⟩
  | n + 1, o => by
    obtain ⟨H, h⟩ := vOut_app n o
    exact ⟨leI 2 (4 * ((n : Int) + 1)) ++ H, fun q => by rw [vOut, h, List.append_assoc]⟩
section
variable {b dx ba ca vd : Addr} {cv oe ne fi : Value} {hd ma : Int} {th tm toe : Tok} {vn : Option Value} {l J out : List UInt8} {kc : Nat} {t0 t1 t2 t3 t4 : Tok} {vo : Obj}
theorem c_WriteVt (hD : Dict0 prog w vd vo) (ho : out.length = 84) (hz : J.length + out.length ≤ 500) : CallP prog w (myK w.params) (.ref 374) [.ref b] [] 5
    ((ca, lstObj [.int 68 t0, .int 72 t1, .int 76 t2, .int 80 t3, .int 84 t4] kc) :: (vd, vo) :: bLed b dx ba (.ref ca) J.length th 4 tm (.int 64 toe) ne vn (.ref vd) fi (J ++ out))
    (fun r led' => ∃ ba' J' t tm' t5, r = .int 88 t5 ∧ J'.length + 102 ≤ 500 ∧ led' = bLed b dx ba' .none J'.length t 4 tm' (.int 64 toe) ne vn (.ref vd) fi (J' ++ (leI 2 14 ++ (leI 2 24 ++ vOut 5 (leI 4 14 ++ out))))) := by
  refine CallP.fn0 (binds := [("self", .ref b)]) (loc0 := [("self", none), ("objectOffset", none), ("vtKey", none), ("trim", none), ("elem", none), ("objectSize", none), ("vt2Offset", none), ("i", none), ("trailing", none), ("off", none), ("vBytes", none), ("objectStart", none)]) (loc := [("self", some (.ref b)), ("objectOffset", none), ("vtKey", none), ("trim", none), ("elem", none), ("objectSize", none), ("vt2Offset", none), ("i", none), ("trailing", none), ("off", none), ("vBytes", none), ("objectStart", none)]) [("self", .local), ("objectOffset", .local), ("vtKey", .local), ("trim", .local), ("elem", .local), ("objectSize", .local), ("vt2Offset", .local), ("i", .local), ("trailing", .local), ("off", .local), ("vBytes", .local), ("objectStart", .local), ("reversed", .globalImplicit), ("UOffsetTFlags", .globalImplicit), ("tuple", .globalImplicit), ("len", .globalImplicit), ("VOffsetTFlags", .globalImplicit), ("VtableMetadataFields", .globalImplicit), ("SOffsetTFlags", .globalImplicit), ("Write", .globalImplicit), ("soffset", .globalImplicit)] ["self", "objectOffset", "vtKey", "trim", "elem", "objectSize", "vt2Offset", "i", "trailing", "off", "vBytes", "objectStart"] (by k_is) (by k_is) rfl (fun s X => BindsTo.of_eq rfl) (by decide +kernel) rfl (by walk_at "binds") (by walk_at "bindsc") rfl rfl rfl fun C hC => ?_
  have h_b_reversed := @b_reversed w.params
  have h_g_UOffsetTFlags := @g_UOffsetTFlags w.params
  have h_b_tuple := @b_tuple w.params
  have h_b_len := @b_len w.params
  have h_g_VOffsetTFlags := @g_VOffsetTFlags w.params
  have h_g_VtableMetadataFields := @g_VtableMetadataFields w.params
  have h_g_SOffsetTFlags := @g_SOffsetTFlags w.params
  have h_g_Write := @g_Write w.params
  have h_k_166 := @k_166 w.params
  have h_g_soffset := @g_soffset w.params
  have h_s_B_current_vtable := @s_B_current_vtable w.params
  have h_m_B_PrependSOffsetTRelative := @m_B_PrependSOffsetTRelative w.params
  have h_k_423 := @k_423 w.params
  have h_m_B_Offset := @m_B_Offset w.params
  have h_k_402 := @k_402 w.params
  have h_t_131 := @t_131 w.params
  have h_v_143_bytewidth := @v_143_bytewidth w.params
  have h_s_B_head := @s_B_head w.params
  have h_s_B_objectEnd := @s_B_objectEnd w.params
  have h_s_B_vtables := @s_B_vtables w.params
  have h_m_B_PrependVOffsetT := @m_B_PrependVOffsetT w.params
  have h_k_700 := @k_700 w.params
  have h_t_119 := @t_119 w.params
  have h_s_B_Bytes := @s_B_Bytes w.params
  have h_t_143 := @t_143 w.params
  have h_m_B_Head := @m_B_Head w.params
  have h_k_395 := @k_395 w.params
  refine Run.post fun Qf hQf => ?_
  refine run_execs (run_ExprC ?_)
  refine run_Method ?_
  walk_at "rs"
  intro pl
  refine run_meth hC (by assumption) (by walk_at "mem") (by walk_at "mem") (run_callWith (keeps_ref hC (by assumption)) ?_)
  walk_at "rs"
  refine run_call hC (c_PrependSR (J := J) (out := out) (o := 0) (Nat.zero_le _) (show (4 : Int) ≤ 4 by decide) (by omega) hz) rfl (by walk_at "pick") ?_
  have e1 : addR 0 out = leI 4 88 ++ out := by
    unfold addR
    rw [pad0 (by omega), List.replicate_zero, List.nil_append, ho]
    rfl
  rw [e1]
  rintro _ _ ⟨rfl, ba1, J1, th1, tm1, h1, rfl⟩
  refine ⟨_, by walk_at "app", ?_⟩
  have hl1 : ((leI 4 88 ++ out).length : Int) = 88 := by rw [List.length_append, leI_length, ho]; rfl
  have hn1 : (leI 4 88 ++ out).length = 88 := by rw [List.length_append, leI_length, ho]
  walk_at "rs"
  refine run_Method ?_
  walk_at "rs"
  intro pl
  refine run_meth hC (by assumption) (by walk_at "mem") (by walk_at "mem") (run_callWith (keeps_ref hC (by assumption)) ?_)
  walk_at "rs"
  refine run_callI hC (c_BOffset (l := J1 ++ (leI 4 88 ++ out)) (by rw [List.length_append]; omega)) rfl (by walk_at "pick") fun tO => ?_
  rw [offs, hl1]
  walk_at "rs"
  refine run_List ?_
  walk_at "rs"
  refine run_newLst rfl fun vk => ?_
  walk_at "rs"
  refine run_For ?_
  refine run_Call ?_
  walk_at "rs"
  refine run_callWith keeps_type ?_
  walk_at "rs"
  refine run_reversed (its := [.int 68 t0, .int 72 t1, .int 76 t2, .int 80 t3, .int 84 t4]) (k := kc) (by walk_at "mem") fun it => ?_
  walk_at "rs"
  refine iter_revSelf (l := ca) (n := 5) (i := 0) (by walk_at "mem") ⟨rfl, by simp [revObj]⟩ ?_
  refine RunC.forT (iterRev it ca [.int 68 t0, .int 72 t1, .int 76 t2, .int 80 t3, .int 84 t4] kc) (fun i loc led => ∃ (vs : List Value) (tr el : Option Value), IntsAre vs (([4, 8, 12, 16, 20] : List Int).take i) ∧
    loc = wvLoc b tO (some (.ref vk)) tr el none none none none none none none ∧
    led = (vk, lstObj vs i) :: (b, inst 732 dx (bSl ba1 (.ref ca) J1.length th1 4 tm1 (.int 64 toe) ne vn (.ref vd) fi)) :: (dx, dict0) :: (ba1, baObj (J1 ++ (leI 4 88 ++ out))) :: (ca, lstObj [.int 68 t0, .int 72 t1, .int 76 t2, .int 80 t3, .int 84 t4] kc) :: [(vd, vo)]) ?_ ?_ ?_ _ 0 _ _ _ rfl (Nat.zero_le _) ⟨rfl, by simp [revObj]⟩
    ⟨[], some (.bool true), none, .nil, rfl, rfl⟩
  · rintro i loc0 led0 hI0
    refine ex3 hI0 (fun vs tr el hI1 => ?_)
    clear hI0
    refine andL1 hI1 (fun hi => ?_)
    clear hI1
    walk_at "mem"
  · rintro Qt hQt i v o loc0 led0 hlt hv hP hI0
    refine ex3 hI0 (fun vs tr el hI1 => ?_)
    clear hI0
    refine andL1 hI1 (fun hi => ?_)
    clear hI1
    obtain ⟨t, rfl⟩ := wv_item hlt hv
    have hi2 := fun t' : Tok => IntsAre.append hi (IntsAre.cons (88 - (84 - 4 * (i : Int))) t' .nil)
    rw [← wv_take hlt] at hi2
    have hvs : vs.length ≤ 5 := by have := hi.length; rw [List.length_take] at this; simp at this; omega
    refine ⟨_, by walk_at "setl", ?_⟩
    walk_at "rs"
    refine run_IfF ?_
    walk_at "rs"
    have hlt' : i < 5 := hlt
    refine ⟨beq_false_of_ne (by omega), ?_⟩
    walk_at "rs"
    rename_i t' t''
    refine run_ExprC (run_Method ?_)
    walk_at "rs"
    intro pl
    refine run_meth_append (by walk_at "mem") (run_callWith keeps_builtin ?_)
    walk_at "rs"
    refine run_append (by walk_at "put") (by omega) ?_
    walk_at "rs"
    refine hQt _ _ _ _ ?_
    dsimp only [Turn]
    exact ⟨o, _, _, by walk_at "pick", hP, _, _, _, hi2 _, rfl, rfl⟩
  rintro loc0 led0 hI0
  refine ex3 hI0 (fun vs tr el hI1 => ?_)
  clear hI0
  refine andL1 hI1 (fun hi => ?_)
  clear hI1
  walk_at "rs"
  refine run_Method ?_
  walk_at "rs"
  intro pl
  refine run_meth_int hC (by assumption) own_py (run_callWith keeps_type ?_)
  walk_at "rs"
  refine run_int_of ?_
  walk_at "rs"
  rename_i t6
  have hi6 : IntsAre (vs ++ [.int (88 - 64) t6]) [4, 8, 12, 16, 20, 24] := IntsAre.append hi (.cons _ t6 .nil)
  have hvs : vs.length = 5 := hi.length
  refine run_ExprC (run_Method ?_)
  walk_at "rs"
  intro pl
  refine run_meth_append (by walk_at "mem") (run_callWith keeps_builtin ?_)
  walk_at "rs"
  refine run_append (by walk_at "put") (by omega) ?_
  walk_at "rs"
  refine run_Call ?_
  walk_at "rs"
  refine run_callWith keeps_type ?_
  walk_at "rs"
  refine run_tuple_of (by walk_at "mem") (by simp; omega) fun tk => ?_
  walk_at "rs"
  refine run_Method ?_
  walk_at "rs"
  intro pl
  refine run_meth_get0 hC (by walk_at "mem") hD (run_callWith keeps_builtin ?_)
  walk_at "rs"
  refine run_get0 hC (by walk_at "mem") hD (by walk_at "mem") hi6 ?_
  walk_at "rs"
  refine run_IfT ?_
  walk_at "rs"
  refine ⟨rfl, ?_⟩
  walk_at "rs"
  refine run_Call ?_
  walk_at "rs"
  refine run_callWith keeps_builtin ?_
  walk_at "rs"
  refine run_len_list (its := [.int 68 t0, .int 72 t1, .int 76 t2, .int 80 t3, .int 84 t4]) (by walk_at "mem") (by simp) fun t => ?_
  walk_at "rs"
  refine Run.drop (keep := [(b, inst 732 dx (bSl ba1 (.ref ca) J1.length th1 4 tm1 (.int 64 toe) ne vn (.ref vd) fi)), (dx, dict0), (ba1, baObj (J1 ++ (leI 4 88 ++ out))), (ca, lstObj [.int 68 t0, .int 72 t1, .int 76 t2, .int 80 t3, .int 84 t4] kc), (vd, vo), (tk, tupObj (vs ++ [.int (88 - 64) t6]))]) (by walk_at "pick") ?_
  rw [hn1] at h1
  refine run_While (RunC.while (fun m loc led => m ≤ 5 ∧ ∃ (ba' : Addr) (J' : List UInt8) (t tm' ti tt : Tok) (tr el of_ : Option Value), J'.length + (vOut (5 - m) (leI 4 88 ++ out)).length ≤ 500 ∧
    loc = wvLoc b tO (some (.ref tk)) tr el (some (.int (88 - 64) t6)) (some .none) (some (.int ((m : Nat) - 1) ti)) (some (.int 0 tt)) of_ none none ∧
    led = [(b, inst 732 dx (bSl ba' (.ref ca) J'.length t 4 tm' (.int 64 toe) ne vn (.ref vd) fi)), (dx, dict0), (ba', baObj (J' ++ vOut (5 - m) (leI 4 88 ++ out))), (ca, lstObj [.int 68 t0, .int 72 t1, .int 76 t2, .int 80 t3, .int 84 t4] kc), (vd, vo), (tk, tupObj (vs ++ [.int (88 - 64) t6]))]) ?_ 5 _ _ ⟨by omega, ba1, J1, th1, tm1, _, _, _, _, _, by rw [Nat.sub_self]; show _ + (leI 4 88 ++ out).length ≤ 500; omega, rfl, rfl⟩)
  rintro m loc0 led0 hI0
  obtain ⟨hm5, hI0⟩ := hI0
  refine ex9 hI0 (fun ba2 J2 th2 tm2 ti tt tr el of_ hI1 => ?_)
  clear hI0
  refine andL1 hI1 (fun h2 => ?_)
  clear hI1
  have h2' := h2
  rw [vOut_length] at h2'
  walk_at "rs"
  refine ⟨fun hge => ?_, fun hge => ?_⟩
  · have hm1 : 1 ≤ m := by have := of_decide_eq_true hge; omega
    obtain ⟨tx, hx⟩ := wv_get (t0 := t0) (t1 := t1) (t2 := t2) (t3 := t3) (t4 := t4) hm1 hm5
    walk_at "rs"
    refine run_sub ?_
    walk_at "rs"
    refine run_py_list (by walk_at "mem") ⟨rfl, ?_⟩
    refine run_get_list (by walk_at "mem") (by omega) (by omega) hx ?_
    walk_at "rs"
    refine run_IfF ?_
    walk_at "rs"
    refine ⟨beq_false_of_ne (by omega), ?_⟩
    walk_at "rs"
    refine run_ExprC ?_
    refine run_Method ?_
    walk_at "rs"
    intro pl
    refine run_meth hC (by assumption) (by walk_at "mem") (by walk_at "mem") (run_callWith (keeps_ref hC (by assumption)) ?_)
    walk_at "rs"
    refine run_call hC (c_PrependV (J := J2) (out := vOut (5 - m) (leI 4 88 ++ out)) (by omega) (by omega) (show (2 : Int) ≤ 4 by decide) (by rw [vOut_length]; omega) h2) rfl (by walk_at "pick") ?_
    rw [wv_out hm1 hm5 (by omega)]
    rintro _ _ ⟨rfl, ba3, J3, t3', tm3, h8, h9, rfl⟩
    refine ⟨_, by walk_at "app", ?_⟩
    walk_at "rs"
    dsimp only [TurnW]
    have em : ((m : Int) - 1) = ((m - 1 : Nat) : Int) := by omega
    rw [em]
    exact ⟨m - 1, _, _, by omega, by walk_at "pick", by omega, ba3, J3, t3', tm3, _, _, _, _, _, h8, rfl, rfl⟩
  have hm0 : m = 0 := by have := of_decide_eq_false hge; omega
  subst hm0
  walk_at "rs"
  have hv5 : (vOut 5 (leI 4 88 ++ out)).length = 98 := by rw [vOut_length, hn1]
  have e24 : addS 2 (88 - 64) (vOut (5 - 0) (leI 4 88 ++ out)) = leI 2 24 ++ vOut 5 (leI 4 88 ++ out) := addS_even (by rw [vOut_length]; omega)
  have hn24 : (leI 2 24 ++ vOut 5 (leI 4 88 ++ out)).length = 100 := by rw [List.length_append, leI_length, hv5]
  have e14 : addS 2 14 (leI 2 24 ++ vOut 5 (leI 4 88 ++ out)) = leI 2 14 ++ (leI 2 24 ++ vOut 5 (leI 4 88 ++ out)) := addS_even (by rw [hn24])
  have hn14 : (leI 2 14 ++ (leI 2 24 ++ vOut 5 (leI 4 88 ++ out))).length = 102 := by rw [List.length_append, leI_length, hn24]
  refine run_ExprC (run_Method ?_)
  walk_at "rs"
  intro pl
  refine run_meth hC (by assumption) (by walk_at "mem") (by walk_at "mem") (run_callWith (keeps_ref hC (by assumption)) ?_)
  walk_at "rs"
  refine run_Method ?_
  walk_at "rs"
  intro pl
  refine run_meth_int hC (by assumption) own_py (run_callWith keeps_type ?_)
  walk_at "rs"
  refine run_int_of ?_
  walk_at "rs"
  refine run_call hC (c_PrependV (J := J2) (out := vOut (5 - 0) (leI 4 88 ++ out)) (by decide) (by decide) (show (2 : Int) ≤ 4 by decide) (by rw [vOut_length, hn1]; decide) h2) rfl (by walk_at "pick") ?_
  rw [e24, hn24]
  rintro _ _ ⟨rfl, ba3, J3, th3, tm3, h8, h9, rfl⟩
  refine ⟨_, by walk_at "app", ?_⟩
  walk_at "rs"
  refine run_Call ?_
  walk_at "rs"
  refine run_callWith keeps_builtin ?_
  walk_at "rs"
  refine run_len_list (its := [.int 68 t0, .int 72 t1, .int 76 t2, .int 80 t3, .int 84 t4]) (by walk_at "mem") (by simp) fun t => ?_
  walk_at "rs"
  refine run_imul (mul_ok (show (-1000000000 : Int) ≤ 7 by decide) (show (7 : Int) ≤ 1000000000 by decide)) fun t => ?_
  have ev : ((([Value.int 68 t0, .int 72 t1, .int 76 t2, .int 80 t3, .int 84 t4].length : Nat) : Int) - 0 + 2) * 2 = 14 := rfl
  rw [ev]
  walk_at "rs"
  refine run_ExprC (run_Method ?_)
  walk_at "rs"
  intro pl
  refine run_meth hC (by assumption) (by walk_at "mem") (by walk_at "mem") (run_callWith (keeps_ref hC (by assumption)) ?_)
  walk_at "rs"
  refine run_Method ?_
  walk_at "rs"
  intro pl
  refine run_meth_int hC (by assumption) own_py (run_callWith keeps_type ?_)
  walk_at "rs"
  refine run_int_of ?_
  walk_at "rs"
  refine run_call hC (c_PrependV (J := J3) (out := leI 2 24 ++ vOut 5 (leI 4 88 ++ out)) (by decide) (by decide) (show (2 : Int) ≤ 4 by decide) (by rw [hn24]; decide) (by rw [hn24]; exact h8)) rfl (by walk_at "pick") ?_
  rw [e14, hn14]
  rintro _ _ ⟨rfl, ba4, J4, th4, tm4, h10, h11, rfl⟩
  refine ⟨_, by walk_at "app", ?_⟩
  walk_at "rs"
  refine run_Method ?_
  walk_at "rs"
  intro pl
  refine run_meth_int hC (by assumption) own_py (run_callWith keeps_type ?_)
  walk_at "rs"
  refine run_Call ?_
  walk_at "rs"
  refine run_callWith keeps_builtin ?_
  walk_at "rs"
  refine run_len_ba (by walk_at "mem") (by rw [List.length_append, hn14]; omega) fun t => ?_
  walk_at "rs"
  refine run_int_of ?_
  walk_at "rs"
  obtain ⟨H5, hH⟩ := vOut_app 5 (leI 4 88 ++ out)
  have hlen4 : (J4 ++ (leI 2 14 ++ (leI 2 24 ++ vOut 5 (leI 4 88 ++ out)))).length = J4.length + 102 := by rw [List.length_append, hn14]
  refine run_ExprC (run_Call ?_)
  walk_at "rs"
  refine run_callWith (keeps_ref hC (by assumption)) ?_
  walk_at "rs"
  refine run_Method ?_
  walk_at "rs"
  intro pl
  refine run_meth_int hC (by assumption) own_py (run_callWith keeps_type ?_)
  walk_at "rs"
  refine run_Method ?_
  walk_at "rs"
  intro pl
  refine run_meth hC (by assumption) (by walk_at "mem") (by walk_at "mem") (run_callWith (keeps_ref hC (by assumption)) ?_)
  walk_at "rs"
  refine run_callI hC (c_BOffset (l := J4 ++ (leI 2 14 ++ (leI 2 24 ++ vOut 5 (leI 4 88 ++ out)))) (by rw [hlen4]; omega)) rfl (by walk_at "pick") fun t7 => ?_
  rw [offs, hn14]
  walk_at "rs"
  refine run_int_of ?_
  walk_at "rs"
  refine run_call hC (c_Write (l := J4 ++ (leI 2 14 ++ (leI 2 24 ++ vOut 5 (leI 4 88 ++ out)))) .i st_53 (by rw [hlen4]; omega) (by rw [hlen4]; omega) (by rw [hlen4]; omega) (by decide) (by decide)) rfl (by walk_at "pick") ?_
  have ep : patchL (J4 ++ (leI 2 14 ++ (leI 2 24 ++ vOut 5 (leI 4 88 ++ out)))) (((J4 ++ (leI 2 14 ++ (leI 2 24 ++ vOut 5 (leI 4 88 ++ out)))).length : Int) - 88).toNat (leB 4 ((((102 : Nat) : Int) - 88) % 2 ^ (8 * 4)).toNat) = J4 ++ (leI 2 14 ++ (leI 2 24 ++ vOut 5 (leI 4 14 ++ out))) := by
    rw [hH, hH]
    have ea : ∀ q : List UInt8, leI 2 14 ++ (leI 2 24 ++ (H5 ++ q)) = (leI 2 14 ++ leI 2 24 ++ H5) ++ q := fun q => by simp
    rw [ea, ea]
    exact wv_patch (leI_length _ _) (leI_length 4 14) ho rfl
  rw [ep]
  rintro _ _ ⟨rfl, rfl⟩
  refine ⟨_, by walk_at "app", ?_⟩
  have hn14' : (leI 2 14 ++ (leI 2 24 ++ vOut 5 (leI 4 14 ++ out))).length = 102 := by rw [List.length_append, List.length_append, vOut_length, List.length_append, leI_length, leI_length, leI_length, ho]
  walk_at "rs"
  refine run_Method ?_
  walk_at "rs"
  intro pl
  refine run_meth hC (by assumption) (by walk_at "mem") (by walk_at "mem") (run_callWith (keeps_ref hC (by assumption)) ?_)
  walk_at "rs"
  refine run_callI hC (c_BOffset (l := J4 ++ (leI 2 14 ++ (leI 2 24 ++ vOut 5 (leI 4 14 ++ out)))) (by rw [List.length_append, hn14']; omega)) rfl (by walk_at "pick") fun t8 => ?_
  walk_at "rs"
  refine run_set0 hC (by walk_at "rem") hD (by walk_at "mem") hi6 ?_
  walk_at "rs"
  exact hQf _ _ _ ⟨_, _, by walk_at "pick", ba4, J4, th4, tm4, tO, rfl, by rw [hn14] at *; omega, rfl⟩
end
end

/-! G11 -/



section
variable {prog : Program} {w : World}
/-- the table with its offsets laid, ahead of `out` -/
abbrev endOut (out : List UInt8) : List UInt8 := leI 2 14 ++ (leI 2 24 ++ vOut 5 (leI 4 14 ++ out))
theorem endOut_length {out : List UInt8} (h : out.length = 84) : (endOut out).length = 102 := by
  rw [endOut, List.length_append, List.length_append, vOut_length, List.length_append, leI_length, leI_length, leI_length, h]
/-- the last `n` marks of the name FAT1, ahead of `o` -/
def idOut : Nat → List UInt8 → List UInt8
  | 0, o => o
  | 1, o => leI 1 49 ++ o
  | 2, o => leI 1 84 ++ (leI 1 49 ++ o)
  | 3, o => leI 1 65 ++ (leI 1 84 ++ (leI 1 49 ++ o))
  | _, o => leI 1 70 ++ (leI 1 65 ++ (leI 1 84 ++ (leI 1 49 ++ o)))
theorem idOut_step {i : Nat} {a b c d : Tok} (o : List UInt8) (h : i < 4) : ∃ (x : Int) (t : Tok), [Value.int 70 a, .int 65 b, .int 84 c, .int 49 d][(3 + (i : Int) * -1).toNat]? = some (.int x t) ∧ 0 ≤ x ∧ x ≤ 255 ∧ leI 1 x ++ idOut i o = idOut (i + 1) o := by
  match i, h with
  | 0, _ => exact ⟨49, d, rfl, by decide, by decide, rfl⟩
  | 1, _ => exact ⟨84, c, rfl, by decide, by decide, rfl⟩
  | 2, _ => exact ⟨65, b, rfl, by decide, by decide, rfl⟩
  | 3, _ => exact ⟨70, a, rfl, by decide, by decide, rfl⟩
theorem idOut_length : ∀ {i : Nat} {o : List UInt8}, i ≤ 4 → (idOut i o).length = i + o.length
  | 0, o, _ => by simp [idOut]
  | 1, o, _ => by simp only [idOut, List.length_append, leI_length]
  | 2, o, _ => by simp only [idOut, List.length_append, leI_length]; omega
  | 3, o, _ => by simp only [idOut, List.length_append, leI_length]; omega
  | 4, o, _ => by simp only [idOut, List.length_append, leI_length]; omega
/-- the whole image -/
abbrev finOut (o : List UInt8) : List UInt8 := addR 88 (idOut 4 (List.replicate 2 0 ++ o))
section
variable {b dx ba ca vd : Addr} {cv oe ne vt fi : Value} {hd ma : Int} {th tm toe : Tok} {vn : Option Value} {l J out : List UInt8} {kc : Nat} {t0 t1 t2 t3 t4 : Tok} {vo : Obj}
theorem c_EndObj (hD : Dict0 prog w vd vo) (ho : out.length = 84) (hz : J.length + out.length ≤ 500) : CallP prog w (myK w.params) (.ref 381) [.ref b] [] 6
    ((ca, lstObj [.int 68 t0, .int 72 t1, .int 76 t2, .int 80 t3, .int 84 t4] kc) :: (vd, vo) :: bLed b dx ba (.ref ca) J.length th 4 tm (.int 64 toe) (.bool true) vn (.ref vd) fi (J ++ out))
    (fun r led' => ∃ ba' J' t tm' t5, r = .int 88 t5 ∧ J'.length + 102 ≤ 500 ∧ led' = bLed b dx ba' .none J'.length t 4 tm' (.int 64 toe) (.bool false) vn (.ref vd) fi (J' ++ endOut out)) := by
  refine CallP.fn0 (binds := [("self", .ref b)]) (loc0 := [("self", none)]) (loc := [("self", some (.ref b))]) [("self", .local)] ["self"] (by k_is) (by k_is) rfl (fun s X => BindsTo.of_eq rfl) (by decide +kernel) rfl (by walk_at "binds") (by walk_at "bindsc") rfl rfl rfl fun C hC => ?_
  have h_s_B_nested := @s_B_nested w.params
  have h_m_B_assertNested := @m_B_assertNested w.params
  have h_k_473 := @k_473 w.params
  have h_m_B_WriteVtable := @m_B_WriteVtable w.params
  have h_k_374 := @k_374 w.params
  refine Run.post fun Qf hQf => ?_
  refine run_execs (run_ExprC ?_)
  refine run_Method ?_
  walk_at "rs"
  intro pl
  refine run_meth hC (by assumption) (by walk_at "mem") (by walk_at "mem") (run_callWith (keeps_ref hC (by assumption)) ?_)
  walk_at "rs"
  refine run_call0 hC (c_BNested) rfl (by walk_at "pick") fun rv hv => ?_
  walk_at "rs"
  refine run_Method ?_
  walk_at "rs"
  intro pl
  refine run_meth hC (by assumption) (by walk_at "mem") (by walk_at "mem") (run_callWith (keeps_ref hC (by assumption)) ?_)
  walk_at "rs"
  refine run_call hC (c_WriteVt (J := J) (out := out) hD ho hz) rfl (by walk_at "pick") ?_
  rintro _ _ ⟨ba', J', t, tm', t5, rfl, h, rfl⟩
  refine ⟨_, by walk_at "app", ?_⟩
  walk_at "rs"
  exact hQf _ _ _ ⟨_, _, by walk_at "pick", ba', J', t, tm', t5, rfl, h, rfl⟩
theorem c_XFinish {u : Tok} {o : List UInt8} (ho : o.length = 102) (hz : J.length + o.length ≤ 500) : CallP prog w (myK w.params) (.ref 502) [.ref b, .int 88 t0, .bool false] [("file_identifier", .bytes #[70, 65, 84, 49] u)] 4
    (bLed b dx ba cv J.length th 4 tm oe ne vn vt fi (J ++ o))
    (fun r led' => ∃ ba' J' t tm', J'.length + 112 ≤ 500 ∧ led' = bLed b dx ba' cv J'.length t 4 tm' oe ne vn vt (.bool true) (J' ++ finOut o)) := by
  refine CallP.fn0 (binds := [("self", .ref b), ("rootTable", .int 88 t0), ("sizePrefix", .bool false), ("file_identifier", .bytes #[70, 65, 84, 49] u)]) (loc0 := [("self", none), ("rootTable", none), ("sizePrefix", none), ("file_identifier", none), ("prepSize", none), ("i", none), ("size", none)]) (loc := [("self", some (.ref b)), ("rootTable", some (.int 88 t0)), ("sizePrefix", some (.bool false)), ("file_identifier", some (.bytes #[70, 65, 84, 49] u)), ("prepSize", none), ("i", none), ("size", none)]) [("self", .local), ("rootTable", .local), ("sizePrefix", .local), ("file_identifier", .local), ("prepSize", .local), ("i", .local), ("size", .local), ("enforce_number", .globalImplicit), ("UOffsetTFlags", .globalImplicit), ("Int32Flags", .globalImplicit), ("FILE_IDENTIFIER_LENGTH", .globalImplicit), ("unpack", .globalImplicit), ("range", .globalImplicit), ("Uint8Flags", .globalImplicit), ("len", .globalImplicit)] ["self", "rootTable", "sizePrefix", "file_identifier", "prepSize", "i", "size"] (by k_is) (by k_is) rfl (fun s X => binds_K X rfl (by k_is) rfl rfl rfl) (by decide +kernel) rfl (by walk_at "binds") (by walk_at "bindsc") rfl rfl rfl fun C hC => ?_
  have h_g_enforce_number := @g_enforce_number w.params
  have h_k_152 := @k_152 w.params
  have h_g_UOffsetTFlags := @g_UOffsetTFlags w.params
  have h_g_Int32Flags := @g_Int32Flags w.params
  have h_g_FILE_IDENTIFIER_LENGTH := @g_FILE_IDENTIFIER_LENGTH w.params
  have h_g_unpack := @g_unpack w.params
  have h_b_range := @b_range w.params
  have h_g_Uint8Flags := @g_Uint8Flags w.params
  have h_b_len := @b_len w.params
  have h_v_131_bytewidth := @v_131_bytewidth w.params
  have h_s_B_finished := @s_B_finished w.params
  have h_s_B_head := @s_B_head w.params
  have h_v_105_bytewidth := @v_105_bytewidth w.params
  have h_m_B_Prep := @m_B_Prep w.params
  have h_k_416 := @k_416 w.params
  have h_s_B_minalign := @s_B_minalign w.params
  have h_m_B_PrependUOffsetTRelative := @m_B_PrependUOffsetTRelative w.params
  have h_k_430 := @k_430 w.params
  have h_m_B_Place := @m_B_Place w.params
  have h_k_707 := @k_707 w.params
  have h_s_B_Bytes := @s_B_Bytes w.params
  refine Run.post fun Qf hQf => ?_
  refine run_execs (run_ExprC ?_)
  refine run_Call ?_
  walk_at "rs"
  refine run_callWith (keeps_ref hC (by assumption)) ?_
  walk_at "rs"
  refine run_call0 hC (c_enforce v_131_min_val v_131_max_val (by decide) (by decide)) rfl (by walk_at "pick") fun rv hv => ?_
  walk_at "rs"
  refine run_IfT ?_
  walk_at "rs"
  refine ⟨rfl, ?_⟩
  walk_at "rs"
  refine run_IfF (run_isPlain ?_)
  walk_at "rs"
  refine ⟨rfl, ?_⟩
  walk_at "rs"
  refine run_ExprC ?_
  refine run_Method ?_
  walk_at "rs"
  intro pl
  refine run_meth hC (by assumption) (by walk_at "mem") (by walk_at "mem") (run_callWith (keeps_ref hC (by assumption)) ?_)
  walk_at "rs"
  refine run_call hC (c_Prep (a := 8) (J := J) (out := o) (s := 4) (.inr (.inr rfl)) (by omega) hz) rfl (by walk_at "pick") ?_
  rw [show padI (o.length + 8) 4 = 2 by rw [ho]; decide, if_neg (by decide)]
  rintro _ _ ⟨rfl, ba1, J1, th1, tm1, h1, h2, h3, rfl⟩
  refine ⟨_, by walk_at "app", ?_⟩
  have ho1 : (List.replicate 2 0 ++ o).length = 104 := by rw [List.length_append, ho, List.length_replicate]
  walk_at "rs"
  refine run_IfT ?_
  walk_at "rs"
  refine ⟨rfl, ?_⟩
  walk_at "rs"
  refine run_ExprC ?_
  refine run_Method ?_
  walk_at "rs"
  intro pl
  refine run_meth hC (by assumption) (by walk_at "mem") (by walk_at "mem") (run_callWith (keeps_ref hC (by assumption)) ?_)
  walk_at "rs"
  refine run_call hC (c_Prep (a := 4) (J := J1) (out := List.replicate 2 0 ++ o) (s := 4) (.inr (.inr rfl)) (by omega) (by omega)) rfl (by walk_at "pick") ?_
  rw [show padI ((List.replicate 2 (0 : UInt8) ++ o).length + 4) 4 = 0 by rw [ho1]; decide, if_neg (by decide), List.replicate_zero, List.nil_append]
  rintro _ _ ⟨rfl, ba2, J2, th2, tm2, h4, h5, h6, rfl⟩
  refine ⟨_, by walk_at "app", ?_⟩
  walk_at "rs"
  refine run_Call ?_
  walk_at "rs"
  refine run_callWith keeps_builtin ?_
  walk_at "rs"
  refine run_unpack4 fun r a1 b1 c1 d1 => ?_
  walk_at "rs"
  refine run_For ?_
  refine run_Call ?_
  walk_at "rs"
  refine run_callWith keeps_type ?_
  walk_at "rs"
  refine run_range3 (by decide) (by decide) fun rg => ?_
  walk_at "rs"
  refine run_iter_range (by walk_at "mem") rfl fun it => ?_
  refine RunC.forT (iterRange it 3 (-1) 4) (fun i loc led => i ≤ 4 ∧ ∃ (J' : List UInt8) (t2 tp : Tok) (ov : Option Value) (ro : Obj), J'.length + i = J2.length ∧
    loc = ([("self", some (.ref b)), ("rootTable", some (.int 88 t0)), ("sizePrefix", some (.bool false)), ("file_identifier", some (.ref r)), ("prepSize", some (.int 8 tp)), ("i", ov), ("size", none)] : Loc) ∧
    led = [(rg, ro), (r, tupObj [.int 70 a1, .int 65 b1, .int 84 c1, .int 49 d1]), (b, inst 732 dx (bSl ba2 cv J'.length t2 4 tm2 oe ne vn vt fi)), (dx, dict0), (ba2, baObj (J' ++ idOut i (List.replicate 2 0 ++ o)))]) ?_ ?_ ?_ _ 0 _ _ _ rfl (Nat.zero_le _) rfl
    ⟨Nat.zero_le _, J2, th2, _, none, _, rfl, rfl, rfl⟩
  · intro i _ _ _
    trivial
  · rintro Qt hQt i v o' loc0 led0 hlt hv hP hI0
    obtain ⟨h7, hI0⟩ := hI0
    refine ex5 hI0 (fun J3 t5 tp ov ro hI1 => ?_)
    clear hI0
    refine andL1 hI1 (fun h8 => ?_)
    clear hI1
    obtain ⟨ti, rfl⟩ := hv
    obtain ⟨x, tx, hx, hx0, hx1, hx2⟩ := idOut_step (a := a1) (b := b1) (c := c1) (d := d1) (List.replicate 2 0 ++ o) hlt
    refine ⟨_, by walk_at "setl", ?_⟩
    walk_at "rs"
    refine run_ExprC ?_
    refine run_Method ?_
    walk_at "rs"
    intro pl
    refine run_meth hC (by assumption) (by walk_at "mem") (by walk_at "mem") (run_callWith (keeps_ref hC (by assumption)) ?_)
    walk_at "rs"
    refine run_sub ?_
    walk_at "rs"
    refine run_py_tup (by walk_at "mem") ⟨rfl, ?_⟩
    refine run_get_tup (by walk_at "mem") (by omega) (by omega) hx ?_
    walk_at "rs"
    have hi5 := idOut_length (i := i) (o := List.replicate 2 0 ++ o) h7
    refine run_call hC (c_Place (J := J3) (out := idOut i (List.replicate 2 0 ++ o)) (n' := 1) .B st_50 v_63_min_val v_63_max_val v_63_packer_type v_63_bytewidth hx0 hx1 (by omega) (by rw [hi5]; omega)) rfl (by walk_at "pick") ?_
    rw [hx2]
    rintro _ _ ⟨rfl, J4, t6, h9, rfl⟩
    refine ⟨_, by walk_at "app", ?_⟩
    walk_at "rs"
    refine hQt _ _ _ _ ?_
    dsimp only [Turn]
    exact ⟨o', _, _, by walk_at "pick", hP, hlt, J4, t6, tp, _, ro, by omega, rfl, rfl⟩
  rintro loc0 led0 hI0
  obtain ⟨h7, hI0⟩ := hI0
  refine ex5 hI0 (fun J3 t5 tp ov ro hI1 => ?_)
  clear hI0
  refine andL1 hI1 (fun h8 => ?_)
  clear hI1
  have hi5 := idOut_length (i := 4) (o := List.replicate 2 0 ++ o) (by decide)
  walk_at "rs"
  refine run_ExprC ?_
  refine run_Method ?_
  walk_at "rs"
  intro pl
  refine run_meth hC (by assumption) (by walk_at "mem") (by walk_at "mem") (run_callWith (keeps_ref hC (by assumption)) ?_)
  walk_at "rs"
  refine run_call hC (c_PrependUR (J := J3) (out := idOut 4 (List.replicate 2 0 ++ o)) (o := 88) (by omega) (show (4 : Int) ≤ 4 by decide) (by omega) (by omega)) rfl (by walk_at "pick") ?_
  rintro _ _ ⟨rfl, ba4, J4, t6, tm4, h9, rfl⟩
  refine ⟨_, by walk_at "app", ?_⟩
  walk_at "rs"
  refine run_IfF (run_isPlain ?_)
  walk_at "rs"
  refine ⟨rfl, ?_⟩
  walk_at "rs"
  have hf : (finOut o).length = 112 := by
    rw [List.length_append, List.length_append, leI_length, List.length_replicate, hi5, ho1, pad0 (by decide)]
  exact hQf _ _ _ ⟨_, _, by walk_at "pick", ba4, J4, t6, tm4, by rw [← hf]; exact h9, rfl⟩
theorem c_Finish {u : Tok} {o : List UInt8} (ho : o.length = 102) (hz : J.length + o.length ≤ 500) : CallP prog w (myK w.params) (.ref 510) [.ref b, .int 88 t0, .bytes #[70, 65, 84, 49] u] [] 5
    (bLed b dx ba cv J.length th 4 tm oe ne vn vt fi (J ++ o))
    (fun r led' => ∃ ba' J' t tm', J'.length + 112 ≤ 500 ∧ led' = bLed b dx ba' cv J'.length t 4 tm' oe ne vn vt (.bool true) (J' ++ finOut o)) := by
  refine CallP.fn0 (binds := [("self", .ref b), ("rootTable", .int 88 t0), ("file_identifier", .bytes #[70, 65, 84, 49] u)]) (loc0 := [("self", none), ("rootTable", none), ("file_identifier", none)]) (loc := [("self", some (.ref b)), ("rootTable", some (.int 88 t0)), ("file_identifier", some (.bytes #[70, 65, 84, 49] u))]) [("self", .local), ("rootTable", .local), ("file_identifier", .local)] ["self", "rootTable", "file_identifier"] (by k_is) (by k_is) rfl (fun s X => binds_K X rfl (by k_is) rfl rfl rfl) (by decide +kernel) rfl (by walk_at "binds") (by walk_at "bindsc") rfl rfl rfl fun C hC => ?_
  have h_m_B_XFinish := @m_B_XFinish w.params
  have h_k_502 := @k_502 w.params
  refine Run.post fun Qf hQf => ?_
  refine run_execs ?_
  walk_at "rs"
  refine run_Method ?_
  walk_at "rs"
  intro pl
  refine run_meth hC (by assumption) (by walk_at "mem") (by walk_at "mem") (run_callWith1 (keeps_ref hC (by assumption)) ?_)
  walk_at "rs"
  refine run_call hC (c_XFinish (J := J) (o := o) ho hz) rfl (by walk_at "pick") ?_
  rintro _ _ ⟨ba4, J4, t6, tm4, h9, rfl⟩
  refine ⟨_, by walk_at "app", ?_⟩
  walk_at "rs"
  exact hQf _ _ _ ⟨_, _, by walk_at "pick", ba4, J4, t6, tm4, h9, rfl⟩
end
end

/-! G12 -/



section
variable {prog : Program} {w : World}
section
variable {x dx : Addr} {tf : Tok}
theorem bInit_sl {B c h m oe vt ne fd ss fi : Value} : setS (setS (setS (setS (setS (setS (setS (setS (setS (setS [] 0 B) 1 c) 4 h) 5 m) 7 oe) 10 vt) 6 ne) 3 fd) 8 ss) 2 fi = [some B, some c, some fi, some fd, some h, some m, some ne, some oe, some ss, none, some vt] := by simp [setS, List.replicate]
theorem c_BInit {n : Nat} (hn : n ≤ 100) :
    CallP prog w (myK w.params) (.ref 346) [.ref x, .int n tf] [] 2 [(x, inst 732 dx []), (dx, dict0)]
      (fun r led' => r = .none ∧ ∃ ba vd vo t tm, Dict0 prog w vd vo ∧ led' = (vd, vo) :: bLed x dx ba .none (n : Int) t 1 tm .none (.bool false) none (.ref vd) (.bool false) (List.replicate n 0)) := by
  refine CallP.fn0 (binds := [("self", .ref x), ("initialSize", .int n tf)]) (loc0 := [("self", none), ("initialSize", none), ("msg", none)]) (loc := [("self", some (.ref x)), ("initialSize", some (.int n tf)), ("msg", none)]) [("self", .local), ("initialSize", .local), ("msg", .local), ("Builder", .globalImplicit), ("BuilderSizeError", .globalImplicit), ("bytearray", .globalImplicit), ("UOffsetTFlags", .globalImplicit)] ["self", "initialSize", "msg"] (by k_is) (by k_is) rfl (fun s X => binds_K X rfl (by k_is) rfl rfl rfl) (by decide +kernel) rfl (by walk_at "binds") (by walk_at "bindsc") rfl rfl rfl fun C hC => ?_
  have h_g_Builder := @g_Builder w.params
  have h_k_732 := @k_732 w.params
  have h_b_bytearray := @b_bytearray w.params
  have h_g_UOffsetTFlags := @g_UOffsetTFlags w.params
  have h_s_B_Bytes := @s_B_Bytes w.params
  have h_s_B_current_vtable := @s_B_current_vtable w.params
  have h_s_B_head := @s_B_head w.params
  have h_s_B_minalign := @s_B_minalign w.params
  have h_s_B_objectEnd := @s_B_objectEnd w.params
  have h_s_B_vtables := @s_B_vtables w.params
  have h_s_B_nested := @s_B_nested w.params
  have h_s_B_forceDefaults := @s_B_forceDefaults w.params
  have h_s_B_sharedStrings := @s_B_sharedStrings w.params
  have h_s_B_finished := @s_B_finished w.params
  have h_t_131 := @t_131 w.params
  have h_v_732_MAX := @v_732_MAX w.params
  refine Run.post fun Qf hQf => ?_
  refine run_execs (run_IfF (run_isNot (run_isCmp2T ?_)))
  walk_at "rs"
  refine ⟨by rw [decide_eq_true (show (0 : Int) ≤ n by omega)], ?_⟩
  walk_at "rs"
  refine ⟨by rw [decide_eq_true (show (n : Int) ≤ 2147483648 by omega)]; rfl, ?_⟩
  walk_at "rs"
  refine run_Call ?_
  walk_at "rs"
  refine run_callWith keeps_type ?_
  walk_at "rs"
  refine run_new_ba (by omega) (by omega) fun ba => ?_
  rw [Int.toNat_natCast]
  walk_at "rs"
  refine run_set_slot hC s_B_Bytes (by walk_at "put") (by walk_at "mem") rfl ?_
  walk_at "rs"
  refine run_set_slot hC s_B_current_vtable (by walk_at "put") (by walk_at "mem") rfl ?_
  walk_at "rs"
  refine run_Method ?_
  walk_at "rs"
  intro pl
  refine run_meth_int hC (by assumption) own_py (run_callWith keeps_type ?_)
  walk_at "rs"
  refine run_int_of ?_
  walk_at "rs"
  refine run_set_slot hC s_B_head (by walk_at "put") (by walk_at "mem") rfl ?_
  walk_at "rs"
  refine run_set_slot hC s_B_minalign (by walk_at "put") (by walk_at "mem") rfl ?_
  walk_at "rs"
  refine run_set_slot hC s_B_objectEnd (by walk_at "put") (by walk_at "mem") rfl ?_
  walk_at "rs"
  refine run_dict0 hC fun vd vo hD => ?_
  walk_at "rs"
  refine run_set_slot hC s_B_vtables (by walk_at "put") (by walk_at "mem") rfl ?_
  walk_at "rs"
  refine run_set_slot hC s_B_nested (by walk_at "put") (by walk_at "mem") rfl ?_
  walk_at "rs"
  refine run_set_slot hC s_B_forceDefaults (by walk_at "put") (by walk_at "mem") rfl ?_
  walk_at "rs"
  refine run_set_slot hC s_B_sharedStrings (by walk_at "put") (by walk_at "mem") rfl ?_
  walk_at "rs"
  refine run_set_slot hC s_B_finished (by walk_at "put") (by walk_at "mem") rfl ?_
  walk_at "rs"
  rw [bInit_sl]
  exact hQf _ _ _ ⟨_, _, Pick.cons .here (Pick.cons (.there .here) (Pick.cons (.there .here) (Pick.cons .here .nil))), rfl, ba, vd, vo, tf, _, hD, rfl⟩
theorem c_Builder {n : Nat} (hn : n ≤ 100) : CallP prog w (myK w.params) (.ref 732) [.int n tf] [] 3 []
      (fun r led' => ∃ x dx ba vd vo t tm, r = .ref x ∧ Dict0 prog w vd vo ∧ led' = (vd, vo) :: bLed x dx ba .none (n : Int) t 1 tm .none (.bool false) none (.ref vd) (.bool false) (List.replicate n 0)) :=
  CallP.make mk_732.1 mk_732.2.1 mk_732.2.2 fun x dx => (c_BInit hn).mono fun v l h => ⟨h.1, by
    obtain ⟨_, ba, vd, vo, t, tm, hD, h2⟩ := h
    exact ⟨x, dx, ba, vd, vo, t, tm, rfl, hD, h2⟩⟩
end
end

/-! G13 -/



section
variable {prog : Program} {w : World}
/-- the byte at `i` -/
abbrev byteAt (l : List UInt8) (i : Nat) : Int := ((l.getD i 0).toNat : Int)
section
variable {x dx ba : Addr} {p : Int} {tp ta tb : Tok} {l : List UInt8}
theorem read1 {l : List UInt8} {i : Nat} (h : i < l.length) : readL 'B' 1 ((l.drop i).take 1) = byteAt l i := by
  have e : (l.drop i).take 1 = [l[i]] := by
    rw [List.drop_eq_getElem_cons h, List.take_succ_cons, List.take_zero]
  rw [e]
  unfold readL natL byteAt
  simp [show ('B' : Char).isLower = false from rfl, h]
theorem patch1 {l : List UInt8} {i : Nat} {v : Int} (h : i < l.length) (h0 : 0 ≤ v) (h1 : v < 256) : patchL l i (leB 1 (v % 2 ^ (8 * 1)).toNat) = l.set i (UInt8.ofNat v.toNat) := by
  have e : v % 2 ^ (8 * 1) = v := Int.emod_eq_of_lt h0 h1
  rw [e]
  unfold patchL
  have e1 : leB 1 v.toNat = [UInt8.ofNat v.toNat] := by
    unfold leB
    have e2 : v.toNat % 256 = v.toNat := Nat.mod_eq_of_lt (by omega)
    simp [e2]
  rw [e1, List.set_eq_take_append_cons_drop, if_pos h, List.append_assoc]
  rfl
theorem c_at {r j : Nat} (h : r + j < l.length) (hz : l.length ≤ 100000) : CallP prog w (myK w.params) (.ref 792) [.ref x, .int r ta, .int j tb] [] 3 (tLed x dx ba p tp l)
    (fun v led' => (∃ t, v = .int (byteAt l (r + j)) t) ∧ led' = tLed x dx ba p tp l) := by
  refine CallP.fn0 (binds := [("t", .ref x), ("row", .int r ta), ("j", .int j tb)]) (loc0 := [("t", none), ("row", none), ("j", none)]) (loc := [("t", some (.ref x)), ("row", some (.int r ta)), ("j", some (.int j tb))]) [("t", .local), ("row", .local), ("j", .local), ("Uint8Flags", .globalImplicit)] ["t", "row", "j"] (by k_is) (by k_is) rfl (fun s X => BindsTo.of_eq rfl) (by decide +kernel) rfl (by walk_at "binds") (by walk_at "bindsc") rfl rfl rfl fun C hC => ?_
  have h_g_Uint8Flags := @g_Uint8Flags w.params
  have h_m_T_Get := @m_T_Get w.params
  have h_k_230 := @k_230 w.params
  refine Run.post fun Qf hQf => ?_
  refine run_execs ?_
  walk_at "rs"
  refine run_Method ?_
  walk_at "rs"
  intro pl
  refine run_meth hC (by assumption) (by walk_at "mem") (by walk_at "mem") (run_callWith (keeps_ref hC (by assumption)) ?_)
  walk_at "rs"
  refine run_callI hC (c_TGet (l := l) .B st_50 v_63_packer_type t_63 (show (0 : Int) ≤ r + j by omega) (by omega) hz) rfl (by walk_at "pick") fun t => ?_
  walk_at "rs"
  have e : ((r : Int) + j).toNat = r + j := by omega
  rw [e, read1 h]
  exact hQf _ _ _ ⟨_, _, by walk_at "pick", ⟨_, rfl⟩, rfl⟩
theorem c_set {r j : Nat} {v : Int} {tv : Tok} (h : r + j < l.length) (hz : l.length ≤ 100000) (h0 : 0 ≤ v) (h1 : v < 256) : CallP prog w (myK w.params) (.ref 799) [.ref x, .int r ta, .int j tb, .int v tv] [] 3 (tLed x dx ba p tp l)
    (fun q led' => q = .none ∧ led' = tLed x dx ba p tp (l.set (r + j) (UInt8.ofNat v.toNat))) := by
  refine CallP.fn0 (binds := [("t", .ref x), ("row", .int r ta), ("j", .int j tb), ("x", .int v tv)]) (loc0 := [("t", none), ("row", none), ("j", none), ("x", none)]) (loc := [("t", some (.ref x)), ("row", some (.int r ta)), ("j", some (.int j tb)), ("x", some (.int v tv))]) [("t", .local), ("row", .local), ("j", .local), ("x", .local), ("Write", .globalImplicit), ("Uint8Flags", .globalImplicit)] ["t", "row", "j", "x"] (by k_is) (by k_is) rfl (fun s X => BindsTo.of_eq rfl) (by decide +kernel) rfl (by walk_at "binds") (by walk_at "bindsc") rfl rfl rfl fun C hC => ?_
  have h_g_Write := @g_Write w.params
  have h_k_166 := @k_166 w.params
  have h_g_Uint8Flags := @g_Uint8Flags w.params
  have h_v_63_packer_type := @v_63_packer_type w.params
  have h_s_T_Bytes := @s_T_Bytes w.params
  refine Run.post fun Qf hQf => ?_
  refine run_execs (run_ExprC ?_)
  refine run_Call ?_
  walk_at "rs"
  refine run_callWith (keeps_ref hC (by assumption)) ?_
  walk_at "rs"
  refine run_call hC (c_Write (l := l) .B st_50 (show (0 : Int) ≤ r + j by omega) (by omega) hz h0 h1) rfl (by walk_at "pick") ?_
  rintro _ _ ⟨rfl, rfl⟩
  refine ⟨_, by walk_at "app", ?_⟩
  walk_at "rs"
  have e : ((r : Int) + j).toNat = r + j := by omega
  rw [e, patch1 h h0 h1]
  exact hQf _ _ _ ⟨_, _, by walk_at "pick", rfl, rfl⟩
end
end

/-! G14 -/



section
variable {prog : Program} {w : World}
section
variable {x dx ba ra : Addr} {p : Int} {tp ta tb tv a0 a1 a2 a3 a4 : Tok} {l : List UInt8} {kr : Nat}
/-- the rows' places in the image -/
abbrev rwL (a0 a1 a2 a3 a4 : Tok) : List Value := [.int 108 a0, .int 100 a1, .int 92 a2, .int 80 a3, .int 52 a4]
theorem c_find {v : Int} (hl : l.length = 112) : CallP prog w (myK w.params) (.ref 806) [.ref x, .ref ra, .int v tv] [] 4 ((ra, lstObj (rwL a0 a1 a2 a3 a4) kr) :: tLed x dx ba p tp l)
    (fun q led' => ((∃ (j : Nat) (t : Tok), j < 3 ∧ q = .int j t ∧ byteAt l (108 + j) = v ∧ ∀ i < j, byteAt l (108 + i) ≠ v) ∨ (q = .none ∧ ∀ i < 3, byteAt l (108 + i) ≠ v)) ∧ led' = (ra, lstObj (rwL a0 a1 a2 a3 a4) kr) :: tLed x dx ba p tp l) := by
  refine CallP.fn0 (binds := [("t", .ref x), ("rows", .ref ra), ("name", .int v tv)]) (loc0 := [("t", none), ("rows", none), ("name", none), ("j", none)]) (loc := [("t", some (.ref x)), ("rows", some (.ref ra)), ("name", some (.int v tv)), ("j", none)]) [("t", .local), ("rows", .local), ("name", .local), ("j", .local), ("range", .globalImplicit), ("_law_at", .globalImplicit)] ["t", "rows", "name", "j"] (by k_is) (by k_is) rfl (fun s X => BindsTo.of_eq rfl) (by decide +kernel) rfl (by walk_at "binds") (by walk_at "bindsc") rfl rfl rfl fun C hC => ?_
  have h_b_range := @b_range w.params
  have h_g__law_at := @g__law_at w.params
  have h_k_792 := @k_792 w.params
  refine Run.post fun Qf hQf => ?_
  refine run_execs (run_For ?_)
  refine run_Call ?_
  walk_at "rs"
  refine run_callWith keeps_type ?_
  walk_at "rs"
  refine run_range1 fun rg t1 t2 t3 => ?_
  walk_at "rs"
  refine run_iter_range (by walk_at "mem") rfl fun it => ?_
  refine RunC.forR (iterRange it 0 1 3) (fun i loc led => (∀ m < i, byteAt l (108 + m) ≠ v) ∧ ∃ (ov : Option Value) (ro : Obj),
    loc = ([("t", some (.ref x)), ("rows", some (.ref ra)), ("name", some (.int v tv)), ("j", ov)] : Loc) ∧
    led = (rg, ro) :: (ra, lstObj (rwL a0 a1 a2 a3 a4) kr) :: tLed x dx ba p tp l) ?_ ?_ ?_ _ 0 _ _ _ rfl (Nat.zero_le _) rfl
    ⟨fun m h => absurd h (Nat.not_lt_zero m), none, _, rfl, rfl⟩
  · intro i _ _ _
    trivial
  · rintro Qt hQt i ti o' loc0 led0 hlt hP hI0
    obtain ⟨h7, hI0⟩ := hI0
    refine ex2 hI0 (fun ov ro hI1 => ?_)
    clear hI0
    refine andL0 hI1 ?_
    clear hI1
    refine ⟨_, by walk_at "setl", ?_⟩
    walk_at "rs"
    refine run_If ?_
    walk_at "rs"
    refine run_Call ?_
    walk_at "rs"
    refine run_callWith (keeps_ref hC (by assumption)) ?_
    walk_at "rs"
    refine run_sub ?_
    walk_at "rs"
    refine run_py_list (by walk_at "mem") ⟨rfl, ?_⟩
    refine run_get_list (its := rwL a0 a1 a2 a3 a4) (by walk_at "mem") (by decide) (by decide) rfl ?_
    walk_at "rs"
    refine run_callI hC (c_at (l := l) (r := 108) (j := i) (by omega) (by omega)) rfl (by walk_at "pick") fun t5 => ?_
    walk_at "rs"
    refine ⟨fun he => ?_, fun he => ?_⟩
    · skip
      walk_at "rs"
      exact hQt _ _ _ _ (hQf _ _ _ ⟨_, _, by walk_at "pick", .inl ⟨i, _, hlt, rfl, of_decide_eq_true he, h7⟩, rfl⟩)
    · skip
      walk_at "rs"
      refine hQt _ _ _ _ ?_
      dsimp only [Turn]
      refine ⟨o', _, _, by walk_at "pick", hP, fun m hm => ?_, _, ro, rfl, rfl⟩
      rcases Nat.lt_succ_iff_lt_or_eq.mp hm with h | h
      · exact h7 m h
      · rw [h]; exact of_decide_eq_false he
  rintro loc0 led0 hI0
  obtain ⟨h7, hI0⟩ := hI0
  refine ex2 hI0 (fun ov ro hI1 => ?_)
  clear hI0
  refine andL0 hI1 ?_
  clear hI1
  walk_at "rs"
  exact hQf _ _ _ ⟨_, _, by walk_at "pick", .inr ⟨rfl, h7⟩, rfl⟩
end
end

/-! G15 -/



section
variable {prog : Program} {w : World}
/-- the blocks of a chain that begins with the mark `b` -/
def Ch (l : List UInt8) : Int → List Nat → Prop
  | b, [] => b = 0 ∨ b = 255
  | b, k :: ks => b = k + 1 ∧ k < 6 ∧ Ch l (byteAt l (80 + k)) ks
abbrev natsI (bs : List Nat) : List Int := bs.map (fun (k : Nat) => (k : Int))
section
variable {x dx ba ra : Addr} {p : Int} {tp ta tb tv a0 a1 a2 a3 a4 : Tok} {l : List UInt8} {kr : Nat}
theorem c_chain {j : Nat} {bs : List Nat} (hl : l.length = 112) (hj : j < 3) (hc : Ch l (byteAt l (100 + j)) bs) (hb : bs.length ≤ 7) : CallP prog w (myK w.params) (.ref 813) [.ref x, .ref ra, .int j tv] [] 4 ((ra, lstObj (rwL a0 a1 a2 a3 a4) kr) :: tLed x dx ba p tp l)
    (fun q led' => ∃ c vs k, q = .ref c ∧ IntsAre vs (natsI bs) ∧ led' = (c, lstObj vs k) :: (ra, lstObj (rwL a0 a1 a2 a3 a4) kr) :: tLed x dx ba p tp l) := by
  refine CallP.fn0 (binds := [("t", .ref x), ("rows", .ref ra), ("j", .int j tv)]) (loc0 := [("t", none), ("rows", none), ("j", none), ("blocks", none), ("block", none), ("step", none)]) (loc := [("t", some (.ref x)), ("rows", some (.ref ra)), ("j", some (.int j tv)), ("blocks", none), ("block", none), ("step", none)]) [("t", .local), ("rows", .local), ("j", .local), ("blocks", .local), ("block", .local), ("step", .local), ("_law_at", .globalImplicit), ("range", .globalImplicit)] ["t", "rows", "j", "blocks", "block", "step"] (by k_is) (by k_is) rfl (fun s X => BindsTo.of_eq rfl) (by decide +kernel) rfl (by walk_at "binds") (by walk_at "bindsc") rfl rfl rfl fun C hC => ?_
  have h_g__law_at := @g__law_at w.params
  have h_k_792 := @k_792 w.params
  have h_b_range := @b_range w.params
  refine Run.post fun Qf hQf => ?_
  refine run_execs ?_
  walk_at "rs"
  refine run_List ?_
  walk_at "rs"
  refine run_newLst rfl fun vk => ?_
  walk_at "rs"
  refine run_Call ?_
  walk_at "rs"
  refine run_callWith (keeps_ref hC (by assumption)) ?_
  walk_at "rs"
  refine run_sub ?_
  walk_at "rs"
  refine run_py_list (by walk_at "mem") ⟨rfl, ?_⟩
  refine run_get_list (its := rwL a0 a1 a2 a3 a4) (by walk_at "mem") (by decide) (by decide) rfl ?_
  walk_at "rs"
  refine run_callI hC (c_at (l := l) (r := 100) (j := j) (by omega) (by omega)) rfl (by walk_at "pick") fun t5 => ?_
  walk_at "rs"
  refine run_For ?_
  refine run_Call ?_
  walk_at "rs"
  refine run_callWith keeps_type ?_
  walk_at "rs"
  refine run_range1 fun rg t1 t2 t3 => ?_
  walk_at "rs"
  refine run_iter_range (by walk_at "mem") rfl fun it => ?_
  refine RunC.forT (iterRange it 0 1 7) (fun i loc led => ∃ (dn rs : List Nat) (vs : List Value) (k : Nat) (bv : Int) (bt : Tok) (ov : Option Value) (ro : Obj), bs = dn ++ rs ∧ IntsAre vs (natsI dn) ∧ Ch l bv rs ∧ (dn.length = i ∨ rs = []) ∧
    loc = ([("t", some (.ref x)), ("rows", some (.ref ra)), ("j", some (.int j tv)), ("blocks", some (.ref vk)), ("block", some (.int bv bt)), ("step", ov)] : Loc) ∧
    led = (rg, ro) :: (vk, lstObj vs k) :: (ra, lstObj (rwL a0 a1 a2 a3 a4) kr) :: tLed x dx ba p tp l) ?_ ?_ ?_ _ 0 _ _ _ rfl (Nat.zero_le _) rfl
    ⟨[], bs, [], 0, _, t5, none, _, rfl, IntsAre.nil, hc, .inl rfl, rfl, rfl⟩
  · intro i _ _ _
    trivial
  · rintro Qt hQt i v' o' loc0 led0 hlt hv hP hI0
    refine ex8 hI0 (fun dn rs vs k bv bt ov ro hI1 => ?_)
    clear hI0
    refine andL4 hI1 (fun h1 h2 h3 h4 => ?_)
    clear hI1
    refine ⟨_, by walk_at "setl", ?_⟩
    cases rs with
    | nil =>
      rcases h3 with rfl | rfl
      · refine run_execs (run_IfF (run_isAndF (run_isCmp1 ?_)))
        walk_at "rs"
        refine ⟨rfl, rfl, ?_⟩
        walk_at "rs"
        refine hQt _ _ _ _ ?_
        dsimp only [Turn]
        exact ⟨o', _, _, by walk_at "pick", hP, dn, [], vs, k, _, _, _, ro, h1, h2, .inl rfl, .inr rfl, rfl, rfl⟩
      · refine run_execs (run_IfF (run_isAndT (run_isCmp1 ?_)))
        walk_at "rs"
        refine ⟨rfl, run_isAndF (run_isCmp1 ?_)⟩
        walk_at "rs"
        refine ⟨rfl, rfl, ?_⟩
        walk_at "rs"
        refine hQt _ _ _ _ ?_
        dsimp only [Turn]
        exact ⟨o', _, _, by walk_at "pick", hP, dn, [], vs, k, _, _, _, ro, h1, h2, .inr rfl, .inr rfl, rfl, rfl⟩
    | cons b ks =>
      obtain ⟨rfl, hb6, h5⟩ := h3
      have hd : dn.length = i := h4.resolve_right (by simp)
      have hvs : vs.length ≤ 7 := by have := h2.length; simp only [List.length_map] at this; omega
      refine run_execs (run_IfT (run_isAndT (run_isCmp1 ?_)))
      walk_at "rs"
      refine ⟨bne_iff_ne.mpr (by omega), run_isAndT (run_isCmp1 ?_)⟩
      walk_at "rs"
      refine ⟨bne_iff_ne.mpr (by omega), run_isAnd0 ⟨rfl, ?_⟩⟩
      walk_at "rs"
      refine run_ExprC (run_Method ?_)
      walk_at "rs"
      intro pl
      refine run_meth_append (by walk_at "mem") (run_callWith keeps_builtin ?_)
      walk_at "rs"
      rename_i t6 t7
      refine run_append (by walk_at "put") (by omega) ?_
      walk_at "rs"
      refine run_Call ?_
      walk_at "rs"
      refine run_callWith (keeps_ref hC (by assumption)) ?_
      walk_at "rs"
      refine run_sub ?_
      walk_at "rs"
      refine run_py_list (by walk_at "mem") ⟨rfl, ?_⟩
      refine run_get_list (its := rwL a0 a1 a2 a3 a4) (by walk_at "mem") (by decide) (by decide) rfl ?_
      walk_at "rs"
      rw [show ((b : Int) + 1 - 1) = (b : Int) by omega]
      refine run_callI hC (c_at (l := l) (r := 80) (j := b) (by omega) (by omega)) rfl (by walk_at "pick") fun t8 => ?_
      walk_at "rs"
      refine hQt _ _ _ _ ?_
      dsimp only [Turn]
      exact ⟨o', _, _, by walk_at "pick", hP, dn ++ [b], ks, _, k + 1, _, _, _, ro, by rw [h1]; simp, by simpa [natsI] using IntsAre.append h2 (.cons (b : Int) _ .nil), h5, .inl (by simp [hd]), rfl, rfl⟩
  rintro loc0 led0 hI0
  refine ex8 hI0 (fun dn rs vs k bv bt ov ro hI1 => ?_)
  clear hI0
  refine andL4 hI1 (fun h1 h2 h3 h4 => ?_)
  clear hI1
  have hr : rs = [] := by
    rcases h4 with h | h
    · have e := congrArg List.length h1
      rw [List.length_append] at e
      exact List.length_eq_zero_iff.mp (by omega)
    · exact h
  subst hr
  walk_at "rs"
  rw [List.append_nil] at h1
  subst h1
  exact hQf _ _ _ ⟨_, _, by walk_at "pick", vk, vs, k, rfl, h2, rfl⟩
end
end

/-! G16 -/



section
variable {prog : Program} {w : World}
/-- clear the marks of these blocks -/
def clr (l : List UInt8) : List Nat → List UInt8
  | [] => l
  | k :: ks => clr (l.set (80 + k) 0) ks
theorem clr_length : ∀ (l : List UInt8) (ks : List Nat), (clr l ks).length = l.length
  | l, [] => rfl
  | l, k :: ks => by rw [clr, clr_length, List.length_set]
theorem clr_snoc : ∀ (l : List UInt8) (ks : List Nat) (k : Nat), clr l (ks ++ [k]) = (clr l ks).set (80 + k) 0
  | l, [], k => rfl
  | l, a :: ks, k => by rw [List.cons_append, clr, clr_snoc, clr]
theorem u0 : UInt8.ofNat (Int.toNat 0) = 0 := rfl
theorem Ch.lt {l : List UInt8} : ∀ {b : Int} {bs : List Nat}, Ch l b bs → ∀ k ∈ bs, k < 6
  | b, [], h, k, hk => by cases hk
  | b, a :: ks, h, k, hk => by
    rcases List.mem_cons.mp hk with e | e
    · rw [e]; exact h.2.1
    · exact Ch.lt h.2.2 k e
abbrev dropL (l : List UInt8) (bs : List Nat) (j : Nat) : List UInt8 := ((clr l bs).set (100 + j) 0).set (92 + j) 0
section
variable {x dx ba ra : Addr} {p : Int} {tp ta tb tv a0 a1 a2 a3 a4 : Tok} {l : List UInt8} {kr : Nat}
theorem c_drop {j : Nat} {bs : List Nat} (hl : l.length = 112) (hj : j < 3) (hc : Ch l (byteAt l (100 + j)) bs) (hb : bs.length ≤ 7) : CallP prog w (myK w.params) (.ref 825) [.ref x, .ref ra, .int j tv] [] 5 ((ra, lstObj (rwL a0 a1 a2 a3 a4) kr) :: tLed x dx ba p tp l)
    (fun q led' => q = .none ∧ led' = (ra, lstObj (rwL a0 a1 a2 a3 a4) kr) :: tLed x dx ba p tp (dropL l bs j)) := by
  refine CallP.fn0 (binds := [("t", .ref x), ("rows", .ref ra), ("j", .int j tv)]) (loc0 := [("t", none), ("rows", none), ("j", none), ("block", none)]) (loc := [("t", some (.ref x)), ("rows", some (.ref ra)), ("j", some (.int j tv)), ("block", none)]) [("t", .local), ("rows", .local), ("j", .local), ("block", .local), ("_law_chain", .globalImplicit), ("_law_set", .globalImplicit)] ["t", "rows", "j", "block"] (by k_is) (by k_is) rfl (fun s X => BindsTo.of_eq rfl) (by decide +kernel) rfl (by walk_at "binds") (by walk_at "bindsc") rfl rfl rfl fun C hC => ?_
  have h_g__law_chain := @g__law_chain w.params
  have h_k_813 := @k_813 w.params
  have h_g__law_set := @g__law_set w.params
  have h_k_799 := @k_799 w.params
  refine Run.post fun Qf hQf => ?_
  refine run_execs (run_For ?_)
  refine run_Call ?_
  walk_at "rs"
  refine run_callWith (keeps_ref hC (by assumption)) ?_
  walk_at "rs"
  refine run_call hC (c_chain (l := l) (j := j) (bs := bs) hl hj hc hb) rfl (by walk_at "pick") ?_
  rintro _ _ ⟨c, vs, k, rfl, hi, rfl⟩
  refine ⟨_, by walk_at "app", ?_⟩
  walk_at "rs"
  have hlen : vs.length = bs.length := by rw [hi.length, List.length_map]
  refine run_iter_list (its := vs) (k := k) (by walk_at "mem") fun it => ?_
  refine RunC.forT (iterList it c vs k) (fun i loc led => ∃ (ov : Option Value),
    loc = ([("t", some (.ref x)), ("rows", some (.ref ra)), ("j", some (.int j tv)), ("block", ov)] : Loc) ∧
    led = (c, lstObj vs k) :: (ra, lstObj (rwL a0 a1 a2 a3 a4) kr) :: tLed x dx ba p tp (clr l (bs.take i))) ?_ ?_ ?_ _ 0 _ _ _ rfl (Nat.zero_le _) ⟨rfl, rfl⟩
    ⟨none, rfl, rfl⟩
  · rintro i _ _ ⟨ov, rfl, rfl⟩
    walk_at "mem"
  · rintro Qt hQt i v' o' _ _ hlt hv hP ⟨ov, rfl, rfl⟩
    obtain ⟨xi, tx, rfl, hx⟩ := hi.at _ _ hv
    obtain ⟨b, hb', rfl⟩ := (List.getElem?_map ▸ hx : (bs[i]?).map _ = some xi) |> Option.map_eq_some_iff.mp
    have h6 : b < 6 := hc.lt b (List.mem_of_getElem? hb')
    refine ⟨_, by walk_at "setl", ?_⟩
    walk_at "rs"
    refine run_ExprC ?_
    refine run_Call ?_
    walk_at "rs"
    refine run_callWith (keeps_ref hC (by assumption)) ?_
    walk_at "rs"
    refine run_sub ?_
    walk_at "rs"
    refine run_py_list (by walk_at "mem") ⟨rfl, ?_⟩
    refine run_get_list (its := rwL a0 a1 a2 a3 a4) (by walk_at "mem") (by decide) (by decide) rfl ?_
    walk_at "rs"
    refine run_call hC (c_set (l := clr l (bs.take i)) (r := 80) (j := b) (by rw [clr_length]; omega) (by rw [clr_length]; omega) (by decide) (by decide)) rfl (by walk_at "pick") ?_
    rw [u0]
    rintro _ _ ⟨rfl, rfl⟩
    refine ⟨_, by walk_at "app", ?_⟩
    walk_at "rs"
    refine hQt _ _ _ _ ?_
    dsimp only [Turn]
    have e : bs.take (i + 1) = bs.take i ++ [b] := by
      rw [List.take_add_one, hb']
      rfl
    rw [e, clr_snoc]
    exact ⟨o', _, _, by walk_at "pick", hP, _, rfl, rfl⟩
  rintro _ _ ⟨ov, rfl, rfl⟩
  rw [hlen, List.take_length]
  walk_at "rs"
  refine run_ExprC ?_
  refine run_Call ?_
  walk_at "rs"
  refine run_callWith (keeps_ref hC (by assumption)) ?_
  walk_at "rs"
  refine run_sub ?_
  walk_at "rs"
  refine run_py_list (by walk_at "mem") ⟨rfl, ?_⟩
  refine run_get_list (its := rwL a0 a1 a2 a3 a4) (by walk_at "mem") (by decide) (by decide) rfl ?_
  walk_at "rs"
  refine run_call hC (c_set (l := clr l bs) (r := 100) (j := j) (by rw [clr_length]; omega) (by rw [clr_length]; omega) (by decide) (by decide)) rfl (by walk_at "pick") ?_
  rw [u0]
  rintro _ _ ⟨rfl, rfl⟩
  refine ⟨_, by walk_at "app", ?_⟩
  walk_at "rs"
  refine run_ExprC ?_
  refine run_Call ?_
  walk_at "rs"
  refine run_callWith (keeps_ref hC (by assumption)) ?_
  walk_at "rs"
  refine run_sub ?_
  walk_at "rs"
  refine run_py_list (by walk_at "mem") ⟨rfl, ?_⟩
  refine run_get_list (its := rwL a0 a1 a2 a3 a4) (by walk_at "mem") (by decide) (by decide) rfl ?_
  walk_at "rs"
  refine run_call hC (c_set (l := (clr l bs).set (100 + j) 0) (r := 92) (j := j) (by rw [List.length_set, clr_length]; omega) (by rw [List.length_set, clr_length]; omega) (by decide) (by decide)) rfl (by walk_at "pick") ?_
  rw [u0]
  rintro _ _ ⟨rfl, rfl⟩
  refine ⟨_, by walk_at "app", ?_⟩
  walk_at "rs"
  exact hQf _ _ _ ⟨_, _, by walk_at "pick", rfl, rfl⟩
end
end

/-! G17 -/



section
variable {prog : Program} {w : World}
theorem run_cut_ba_at {C : Cx} {loc : Loc} {led : Led} {a sl : Addr} {l r : List UInt8} {vl vu : Value} {lo hi : Option Int} {Q : Value → Loc → Led → Prop} (h : (a, baObj l) ∈ led) (hs : (sl, slObj vl vu) ∈ led) (hl : IsPart vl lo) (hu : IsPart vu hi) (hz : l.length ≤ 100000)
    (e : (l.drop (lo.elim 0 (clipAt l.length))).take (hi.elim l.length (clipAt l.length) - lo.elim 0 (clipAt l.length)) = r) (hq : ∀ c, Q (.ref c) loc ((c, baObj r) :: led)) : Run C (getItem (.ref a) (.ref sl)) loc led Q := run_cut_ba h hs hl hu hz (by rw [e]; exact hq)
theorem run_cut_list_at {C : Cx} {loc : Loc} {led : Led} {a sl : Addr} {its r : List Value} {k : Nat} {vl vu : Value} {lo hi : Option Int} {Q : Value → Loc → Led → Prop} (h : (a, lstObj its k) ∈ led) (hs : (sl, slObj vl vu) ∈ led) (hl : IsPart vl lo) (hu : IsPart vu hi) (hz : its.length ≤ 100000)
    (e : (its.drop (lo.elim 0 (clipAt its.length))).take (hi.elim its.length (clipAt its.length) - lo.elim 0 (clipAt its.length)) = r) (hq : ∀ c, Q (.ref c) loc ((c, lstObj r 0) :: led)) : Run C (getItem (.ref a) (.ref sl)) loc led Q := run_cut_list h hs hl hu hz (by rw [e]; exact hq)
def needN (c : List UInt8) : Nat := (c.length + 3) / 4
section
variable {x dx ba ra : Addr} {p : Int} {tp ta tb tv a0 a1 a2 a3 a4 : Tok} {l : List UInt8} {kr : Nat}
theorem c_need {c : List UInt8} {tc : Tok} (hz : c.length ≤ 1000) : CallP prog w (myK w.params) (.ref 775) [.bytes c.toArray tc] [] 1 []
    (fun v led' => (∃ t, v = .int (needN c) t) ∧ led' = []) := by
  refine CallP.fn0 (binds := [("content", .bytes c.toArray tc)]) (loc0 := [("content", none)]) (loc := [("content", some (.bytes c.toArray tc))]) [("content", .local), ("len", .globalImplicit)] ["content"] (by k_is) (by k_is) rfl (fun s X => BindsTo.of_eq rfl) (by decide +kernel) rfl (by walk_at "binds") (by walk_at "bindsc") rfl rfl rfl fun C hC => ?_
  have h_b_len := @b_len w.params
  refine Run.post fun Qf hQf => ?_
  refine run_execs ?_
  walk_at "rs"
  refine run_Call ?_
  walk_at "rs"
  refine run_callWith keeps_builtin ?_
  walk_at "rs"
  refine run_len_bytes (by omega) fun t => ?_
  walk_at "rs"
  rename_i t1 t2 t3 t4
  have e : ((c.length : Int) + 3).fdiv 4 = (needN c : Nat) := by
    unfold needN
    rw [Int.fdiv_eq_ediv_of_nonneg _ (by decide)]
    omega
  rw [e]
  exact hQf _ _ _ ⟨_, _, by walk_at "pick", ⟨_, rfl⟩, rfl⟩
theorem c_getId (hz : l.length = 112) : CallP prog w (myK w.params) (.ref 753) [.ref ba, .int 0 ta] [("size_prefixed", .bool false)] 1 [(ba, baObj l)]
    (fun v led' => ∃ c, v = .ref c ∧ led' = [(c, baObj ((l.drop 4).take 4)), (ba, baObj l)]) := by
  refine CallP.fn0 (binds := [("buf", .ref ba), ("offset", .int 0 ta), ("size_prefixed", .bool false)]) (loc0 := [("buf", none), ("offset", none), ("size_prefixed", none), ("end", none)]) (loc := [("buf", some (.ref ba)), ("offset", some (.int 0 ta)), ("size_prefixed", some (.bool false)), ("end", none)]) [("buf", .local), ("offset", .local), ("size_prefixed", .local), ("end", .local), ("UOffsetTFlags", .globalImplicit), ("FILE_IDENTIFIER_LENGTH", .globalImplicit)] ["buf", "offset", "size_prefixed", "end"] (by k_is) (by k_is) rfl (fun s X => binds_K X rfl (by k_is) rfl rfl rfl) (by decide +kernel) rfl (by walk_at "binds") (by walk_at "bindsc") rfl rfl rfl fun C hC => ?_
  have h_g_UOffsetTFlags := @g_UOffsetTFlags w.params
  have h_g_FILE_IDENTIFIER_LENGTH := @g_FILE_IDENTIFIER_LENGTH w.params
  have h_v_131_bytewidth := @v_131_bytewidth w.params
  refine Run.post fun Qf hQf => ?_
  refine run_execs (run_IfF (run_isPlain ?_))
  walk_at "rs"
  refine ⟨rfl, ?_⟩
  walk_at "rs"
  refine run_sub ?_
  walk_at "rs"
  intro sl
  refine run_py_ba (by walk_at "mem") ⟨rfl, ?_⟩
  refine run_cut_ba_at (r := (l.drop 4).take 4) (by walk_at "mem") (by walk_at "mem") (.int _ _) (.int _ _) (by omega) (by rw [hz]; rfl) fun c => ?_
  walk_at "rs"
  exact hQf _ _ _ ⟨_, _, by walk_at "pick", c, rfl, rfl⟩
theorem c_hasId (hz : l.length = 112) : CallP prog w (myK w.params) (.ref 761) [.ref ba, .int 0 ta, .bytes [70, 65, 84, 49].toArray tb] [] 2 [(ba, baObj l)]
    (fun v led' => v = .bool (decide ((l.drop 4).take 4 = [70, 65, 84, 49])) ∧ led' = [(ba, baObj l)]) := by
  refine CallP.fn0 (binds := [("buf", .ref ba), ("offset", .int 0 ta), ("file_identifier", .bytes [70, 65, 84, 49].toArray tb), ("size_prefixed", .bool false)]) (loc0 := [("buf", none), ("offset", none), ("file_identifier", none), ("size_prefixed", none), ("got", none)]) (loc := [("buf", some (.ref ba)), ("offset", some (.int 0 ta)), ("file_identifier", some (.bytes [70, 65, 84, 49].toArray tb)), ("size_prefixed", some (.bool false)), ("got", none)]) [("buf", .local), ("offset", .local), ("file_identifier", .local), ("size_prefixed", .local), ("got", .local), ("GetBufferIdentifier", .globalImplicit)] ["buf", "offset", "file_identifier", "size_prefixed", "got"] (by k_is) (by k_is) rfl (fun s X => binds_K X rfl (by k_is) rfl rfl rfl) (by decide +kernel) rfl (by walk_at "binds") (by walk_at "bindsc") rfl rfl rfl fun C hC => ?_
  have h_g_GetBufferIdentifier := @g_GetBufferIdentifier w.params
  have h_k_753 := @k_753 w.params
  refine Run.post fun Qf hQf => ?_
  refine run_execs ?_
  walk_at "rs"
  refine run_Call ?_
  walk_at "rs"
  refine run_callWith1 (keeps_ref hC (by assumption)) ?_
  walk_at "rs"
  refine run_call hC (c_getId hz) rfl (by walk_at "pick") ?_
  rintro _ _ ⟨c, rfl, rfl⟩
  refine ⟨_, by walk_at "app", ?_⟩
  walk_at "rs"
  refine run_eq_bb (by walk_at "mem") ?_
  walk_at "rs"
  exact hQf _ _ _ ⟨_, _, by walk_at "pick", rfl, rfl⟩
/-- what lies in these blocks -/
abbrev blk (l : List UInt8) (b : Nat) : List Int := (List.range 4).map fun q => byteAt l (52 + (4 * b + q))
def cont (l : List UInt8) : List Nat → List Int
  | [] => []
  | b :: bs => blk l b ++ cont l bs
theorem cont_snoc (l : List UInt8) : ∀ (bs : List Nat) (b : Nat), cont l (bs ++ [b]) = cont l bs ++ blk l b
  | [], b => by simp [cont]
  | a :: bs, b => by rw [List.cons_append, cont, cont, cont_snoc l bs b, List.append_assoc]
theorem cont_length (l : List UInt8) : ∀ (bs : List Nat), (cont l bs).length = 4 * bs.length
  | [] => rfl
  | a :: bs => by rw [cont, List.length_append, cont_length l bs]; simp; omega
theorem cont_in (l : List UInt8) : ∀ (bs : List Nat), ∀ n ∈ cont l bs, 0 ≤ n ∧ n < 256
  | [], n, h => by cases h
  | a :: bs, n, h => by
    rcases List.mem_append.mp h with h | h
    · obtain ⟨q, _, rfl⟩ := List.mem_map.mp h
      have := (l.getD (52 + (4 * a + q)) 0).toNat_lt
      unfold byteAt
      exact ⟨by omega, by omega⟩
    · exact cont_in l bs n h
theorem range_map_snoc {α : Type} (f : Nat → α) (i : Nat) : (List.range (i + 1)).map f = (List.range i).map f ++ [f i] := by
  rw [List.range_succ, List.map_append]; rfl
theorem c_content {j : Nat} {bs : List Nat} (hl : l.length = 112) (hj : j < 3) (hc : Ch l (byteAt l (100 + j)) bs) (hb : bs.length ≤ 7) : CallP prog w (myK w.params) (.ref 818) [.ref x, .ref ra, .int j tv] [] 5 ((ra, lstObj (rwL a0 a1 a2 a3 a4) kr) :: tLed x dx ba p tp l)
    (fun q led' => (∃ t, q = .bytes (((cont l bs).take (l.getD (92 + j) 0).toNat).map fun n => n.toNat.toUInt8).toArray t) ∧ led' = (ra, lstObj (rwL a0 a1 a2 a3 a4) kr) :: tLed x dx ba p tp l) := by
  refine CallP.fn1 (binds := [("t", .ref x), ("rows", .ref ra), ("j", .int j tv)]) (loc0 := [("j", none), ("size", none), ("out", none)]) (loc := [("j", some (.int j tv)), ("size", none), ("out", none)]) (cloc0 := [("block", none), ("rows", none), ("t", none)]) (cloc := [("block", none), ("rows", some (.ref ra)), ("t", some (.ref x))]) [("t", .cell), ("rows", .cell), ("j", .local), ("size", .local), ("out", .local), ("block", .cell), ("_law_at", .globalImplicit), ("_law_chain", .globalImplicit), ("range", .globalImplicit), ("bytes", .globalImplicit)] ["j", "size", "out"] ["block", "rows", "t"] (by k_is) (by k_is) rfl (fun s X => BindsTo.of_eq rfl) (by decide +kernel) rfl rfl rfl (by walk_at "binds") (by walk_at "bindsc") rfl rfl rfl fun C cells led hC hcl happ => ?_
  have h_g__law_at := @g__law_at w.params
  have h_k_792 := @k_792 w.params
  have h_g__law_chain := @g__law_chain w.params
  have h_k_813 := @k_813 w.params
  have h_b_range := @b_range w.params
  have h_b_bytes := @b_bytes w.params
  refine Run.post fun Qf hQf => ?_
  cases hcl with | @cons _ _ c1 o1 _ _ hl1 hd1 hcl => ?_
  cases hcl with | @cons _ _ c2 o2 _ _ hl2 hd2 hcl => ?_
  cases hcl with | @cons _ _ c3 o3 _ _ hl3 hd3 hcl => ?_
  cases hcl
  cases happ with | cons happ => ?_
  cases happ with | cons happ => ?_
  cases happ with | cons happ => ?_
  cases happ
  refine run_execs ?_
  walk_at "rs"
  refine run_Call ?_
  walk_at "rs"
  refine run_callWith (keeps_ref hC (by assumption)) ?_
  walk_at "rs"
  refine run_sub ?_
  walk_at "rs"
  refine run_py_list (by walk_at "mem") ⟨rfl, ?_⟩
  refine run_get_list (its := rwL a0 a1 a2 a3 a4) (by walk_at "mem") (by decide) (by decide) rfl ?_
  walk_at "rs"
  refine run_callI hC (c_at (l := l) (r := 92) (j := j) (by omega) (by omega)) rfl (by walk_at "pick") fun ts => ?_
  walk_at "rs"
  refine run_List ?_
  walk_at "rs"
  refine run_newLst rfl fun ol => ?_
  walk_at "rs"
  refine run_For ?_
  refine run_Call ?_
  walk_at "rs"
  refine run_callWith (keeps_ref hC (by assumption)) ?_
  walk_at "rs"
  refine run_call hC (c_chain (l := l) (j := j) (bs := bs) hl hj hc hb) rfl (by walk_at "pick") ?_
  rintro _ _ ⟨c, vs, k, rfl, hi, rfl⟩
  refine ⟨_, by walk_at "app", ?_⟩
  walk_at "rs"
  have hlen : vs.length = bs.length := by rw [hi.length, List.length_map]
  refine run_iter_list (its := vs) (k := k) (by walk_at "mem") fun it => ?_
  refine RunC.drop (keep := (it, _) :: (c, lstObj vs k) :: (ol, lstObj [] _) :: (c1, o1) :: (c2, o2) :: (c3, o3) :: (ra, lstObj (rwL a0 a1 a2 a3 a4) kr) :: tLed x dx ba p tp l) (by walk_at "pick") ?_
  refine RunC.forAT (iterList it c vs k) (fun i loc led => ∃ (ol : Addr) (vo : List Value) (ko : Nat) (ob : Obj) (vb : Option Value), ob.data = .cell vb ∧ IntsAre vo (cont l (bs.take i)) ∧
    loc = ([("j", some (.int j tv)), ("size", some (.int (byteAt l (92 + j)) ts)), ("out", some (.ref ol))] : Loc) ∧
    led = (c, lstObj vs k) :: (ol, lstObj vo ko) :: (c1, ob) :: (c2, o2) :: (c3, o3) :: (ra, lstObj (rwL a0 a1 a2 a3 a4) kr) :: tLed x dx ba p tp l) ?_ ?_ ?_ _ 0 _ _ _ rfl (Nat.zero_le _) ⟨rfl, rfl⟩
    ⟨ol, [], _, o1, none, hd1, .nil, rfl, rfl⟩
  · rintro i loc0 led0 hI0
    refine ex5 hI0 (fun ol vo ko ob vb hI1 => ?_)
    clear hI0
    refine andL2 hI1 (fun hob hvo => ?_)
    clear hI1
    walk_at "mem"
  · rintro Qt hQt i v' o' loc0 led0 hlt hv hP hI0
    refine ex5 hI0 (fun ol vo ko ob vb hI1 => ?_)
    clear hI0
    refine andL2 hI1 (fun hob hvo => ?_)
    clear hI1
    obtain ⟨xi, tx, rfl, hx⟩ := hi.at _ _ hv
    obtain ⟨b, hb', rfl⟩ := (List.getElem?_map ▸ hx : (bs[i]?).map _ = some xi) |> Option.map_eq_some_iff.mp
    have h6 : b < 6 := hc.lt b (List.mem_of_getElem? hb')
    refine run_asCell hC (by walk_at "mem") hl1 (by walk_at "mem") hob fun ob' hob' => ⟨_, by walk_at "put", ?_⟩
    refine run_execs ?_
    walk_at "rs"
    walk_at "fbcomp"
    refine run_Call ?_
    walk_at "rs"
    refine run_callWith keeps_type ?_
    walk_at "rs"
    refine run_range1 fun rg t1 t2 t3 => ?_
    walk_at "rs"
    refine run_iter_range (by walk_at "mem") rfl fun it2 D C2 hC2 hcl2 => ?_
    have hq_t : C2.env.cells.lookup (Str.ofString "t") = some c3 := by rw [hcl2]; rfl
    have hq_rows : C2.env.cells.lookup (Str.ofString "rows") = some c2 := by rw [hcl2]; rfl
    have hq_block : C2.env.cells.lookup (Str.ofString "block") = some c1 := by rw [hcl2]; rfl
    refine RunC.compGo0T (iterRange it2 0 1 4) (fun i2 items led => ∃ ro : Obj, IntsAre items ((List.range i2).map fun q => byteAt l (52 + (4 * b + q))) ∧ i2 ≤ 4 ∧
      led = (rg, ro) :: (it, o') :: (c, lstObj vs k) :: (ol, lstObj vo ko) :: (c1, ob') :: (c2, o2) :: (c3, o3) :: (ra, lstObj (rwL a0 a1 a2 a3 a4) kr) :: tLed x dx ba p tp l) ?_ ?_ ?_ ?_ rfl ⟨_, .nil, by omega, rfl⟩
    · rintro i2 items k2 _ ⟨ro, h1, h2, rfl⟩
      trivial
    · rintro i2 items _ ⟨ro, h1, h2, rfl⟩
      have := h1.length
      simp at this; omega
    · rintro Qt hQt i2 v2 o2' k2 items _ hlt2 hv2 hP2 ⟨ro, h1, h2, rfl⟩
      obtain ⟨ti, rfl⟩ := rng0 hv2
      refine run_Call ?_
      walk_at "rs"
      refine run_callWith (keeps_ref hC2 (by assumption)) ?_
      walk_at "rs"
      refine run_sub ?_
      walk_at "rs"
      refine run_py_list (by walk_at "mem") ⟨rfl, ?_⟩
      refine run_get_list (its := rwL a0 a1 a2 a3 a4) (by walk_at "mem") (by decide) (by decide) rfl ?_
      walk_at "rs"
      refine run_mul (mul_ok (by omega) (by omega)) fun tm => ?_
      walk_at "rs"
      rename_i tq
      have eq : (4 : Int) * (b : Nat) + (i2 : Nat) = ((4 * b + i2 : Nat) : Int) := by omega
      rw [eq]
      refine run_callI hC2 (c_at (l := l) (r := 52) (j := 4 * b + i2) (by omega) (by omega)) rfl (by walk_at "pick") fun t5 => ?_
      refine hQt _ _ _ _ _ _ ⟨rfl, o2', _, _, _, by walk_at "pick", hP2, ro, ?_, by omega, rfl⟩
      rw [range_map_snoc]
      exact h1.append (.cons _ _ .nil)
    · rintro k2 ov items _ ⟨ro, h1, h2, rfl⟩
      have hz1 := hvo.length
      have hz2 := h1.length
      rw [cont_length, List.length_take] at hz1
      refine run_add_lists (its := vo) (ws := items) (k := ko) (k2 := k2) (by walk_at "mem") (by walk_at "mem") (by simp at hz2; omega) fun c9 => ?_
      walk_at "rs"
      refine hQt _ _ _ _ ?_
      dsimp only [Turn]
      have e : bs.take (i + 1) = bs.take i ++ [b] := by
        rw [List.take_add_one, hb']
        rfl
      refine ⟨o', _, _, by walk_at "pick", hP, c9, _, 0, ob', _, hob', ?_, rfl, rfl⟩
      rw [e, cont_snoc]
      exact hvo.append h1
  rintro loc0 led0 hI0
  refine ex5 hI0 (fun ol vo ko ob vb hI1 => ?_)
  clear hI0
  refine andL2 hI1 (fun hob hvo => ?_)
  clear hI1
  rw [hlen, List.take_length] at hvo
  walk_at "rs"
  refine run_Call ?_
  walk_at "rs"
  refine run_callWith keeps_type ?_
  walk_at "rs"
  refine run_sub ?_
  walk_at "rs"
  intro sl
  refine run_py_list (by walk_at "mem") ⟨rfl, ?_⟩
  have hz1 := hvo.length
  rw [cont_length] at hz1
  refine run_cut_list_at (r := vo.take (l.getD (92 + j) 0).toNat) (by walk_at "mem") (by walk_at "mem") .none (.int _ _) (by omega) ?_ fun c9 => ?_
  · simp only [Option.elim, clipAt_nat, List.drop_zero, Nat.sub_zero]
    rw [Nat.min_comm, ← List.take_take]
    exact List.take_of_length_le (by rw [List.length_take]; omega)
  walk_at "rs"
  refine run_bytes_list (by walk_at "mem") (hvo.take _) (fun n hn => cont_in l bs n (List.mem_of_mem_take hn)) (by rw [List.length_take]; omega) fun t9 => ?_
  walk_at "rs"
  exact hQf _ _ _ ⟨_, _, by walk_at "pick", ⟨_, rfl⟩, rfl⟩
end
end

/-! G18 -/



section
variable {prog : Program} {w : World}
/-- the blocks marked free, lowest first -/
def frees (l : List UInt8) : List Nat := (List.range 6).filter fun k => byteAt l (80 + k) == 0
/-- the first i octets of a piece written -/
def wr (l : List UInt8) (b : Nat) (c : List UInt8) (p : Nat) : Nat → List UInt8
  | 0 => l
  | i + 1 => if 4 * p + i < c.length then (wr l b c p i).set (52 + (4 * b + i)) (c.getD (4 * p + i) 0) else wr l b c p i
def linkL (l : List UInt8) (j : Nat) (last : Option Nat) (b : Nat) : List UInt8 := match last with
  | none => (l.set (80 + b) 255).set (100 + j) (UInt8.ofNat (b + 1))
  | some a => (l.set (80 + b) 255).set (80 + a) (UInt8.ofNat (b + 1))
def pieceL (l : List UInt8) (j : Nat) (c : List UInt8) (p : Nat) (last : Option Nat) (b : Nat) : List UInt8 := wr (linkL l j last b) b c p 4
def stp (l : List UInt8) (j : Nat) (c : List UInt8) : Nat → List UInt8 × Option Nat
  | 0 => (l, none)
  | p + 1 => (pieceL (stp l j c p).1 j c p (stp l j c p).2 ((frees (stp l j c p).1).headD 0), some ((frees (stp l j c p).1).headD 0))
theorem wr_length (l : List UInt8) (b : Nat) (c : List UInt8) (p : Nat) : ∀ i, (wr l b c p i).length = l.length
  | 0 => rfl
  | i + 1 => by
    unfold wr
    split
    · rw [List.length_set, wr_length]
    · exact wr_length l b c p i
theorem linkL_length (l : List UInt8) (j : Nat) (last : Option Nat) (b : Nat) : (linkL l j last b).length = l.length := by
  cases last <;> simp [linkL]
theorem stp_length (l : List UInt8) (j : Nat) (c : List UInt8) : ∀ p, (stp l j c p).1.length = l.length
  | 0 => rfl
  | p + 1 => by
    show (pieceL _ _ _ _ _ _).length = _
    unfold pieceL
    rw [wr_length, linkL_length, stp_length]
theorem stp_last {l : List UInt8} {j : Nat} {c : List UInt8} : ∀ p a, (stp l j c p).2 = some a → (∀ q < p, frees (stp l j c q).1 ≠ []) → a < 6
  | 0, a, h, _ => by cases h
  | p + 1, a, h, hf => by
    have hne := hf p (Nat.lt_succ_self p)
    have e : (frees (stp l j c p).1).headD 0 = a := Option.some.inj h
    cases hq : frees (stp l j c p).1 with
    | nil => exact absurd hq hne
    | cons b bs =>
      rw [hq] at e
      have hm : b ∈ frees (stp l j c p).1 := by rw [hq]; exact .head _
      have := List.mem_range.mp (List.mem_filter.mp hm).1
      simp at e
      omega
/-- where a file is put, and the disk made ready -/
inductive Ready (l : List UInt8) (name : Int) : Nat → List UInt8 → Prop
  | old {j : Nat} {bs : List Nat} : j < 3 → byteAt l (108 + j) = name → (∀ i < j, byteAt l (108 + i) ≠ name) → Ch l (byteAt l (100 + j)) bs → bs.length ≤ 7 → Ready l name j (dropL l bs j)
  | new {j : Nat} : (∀ i < 3, byteAt l (108 + i) ≠ name) → j < 3 → byteAt l (108 + j) = 0 → (∀ i < j, byteAt l (108 + i) ≠ 0) → Ready l name j (l.set (108 + j) (UInt8.ofNat name.toNat))
theorem Ready.lt {l : List UInt8} {name : Int} {j : Nat} {l1 : List UInt8} (h : Ready l name j l1) : j < 3 := by
  cases h <;> assumption
theorem Ready.length {l : List UInt8} {name : Int} {j : Nat} {l1 : List UInt8} (h : Ready l name j l1) : l1.length = l.length := by
  cases h <;> simp [dropL, clr_length]
theorem run_iter_rangeN {C : Cx} {loc : Loc} {led : Led} {r : Addr} {n : Nat} {t u v : Tok} {Q : Value → Loc → Led → Prop} (hn : n ≤ 1000) (h : (r, { cls := .type "range", data := .fields #[.int 0 t, .int n u, .int 1 v] }) ∈ led) (hq : ∀ i, Q (.ref i) loc ((i, riObj 0 n 1) :: led)) :
    Run C (pyIter (.ref r)) loc led Q := by
  refine run_iter_range h ?_ fun i => ?_
  · unfold Builtin.Range.small Builtin.Range.rangeSize Builtin.Range.rangeFitsLong; simp; omega
  · have e : Builtin.Range.rangeSize 0 (n : Int) 1 = n := by
      unfold Builtin.Range.rangeSize
      simp
      omega
    rw [e]; exact hq i
def LastV (v : Value) : Option Nat → Prop
  | none => v = .none
  | some a => ∃ t, v = .int a t
theorem u255 : UInt8.ofNat (Int.toNat 255) = 255 := rfl
section
variable {x dx ba ra : Addr} {p : Int} {tp ta tb tv tn tc a0 a1 a2 a3 a4 : Tok} {l l1 c : List UInt8} {kr : Nat} {name : Int}
theorem c_put {j : Nat} (hl : l.length = 112) (hn0 : 0 ≤ name) (hn1 : name < 256) (hr : Ready l name j l1) (hc : c.length ≤ 13) (hf : ∀ q < needN c, frees (stp (l1.set (92 + j) (UInt8.ofNat c.length)) j c q).1 ≠ []) :
    CallP prog w (myK w.params) (.ref 830) [.ref x, .ref ra, .int name tn, .bytes c.toArray tc] [] 6 ((ra, lstObj (rwL a0 a1 a2 a3 a4) kr) :: tLed x dx ba p tp l)
    (fun q led' => q = .none ∧ led' = (ra, lstObj (rwL a0 a1 a2 a3 a4) kr) :: tLed x dx ba p tp (stp (l1.set (92 + j) (UInt8.ofNat c.length)) j c (needN c)).1) := by
  have hj := hr.lt
  have hl1 : l1.length = 112 := by rw [hr.length]; exact hl
  refine CallP.fn1 (binds := [("t", .ref x), ("rows", .ref ra), ("name", .int name tn), ("content", .bytes c.toArray tc)]) (loc0 := [("name", none), ("content", none), ("j", none), ("last", none), ("piece", none), ("block", none), ("i", none)]) (loc := [("name", some (.int name tn)), ("content", some (.bytes c.toArray tc)), ("j", none), ("last", none), ("piece", none), ("block", none), ("i", none)]) (cloc0 := [("rows", none), ("t", none)]) (cloc := [("rows", some (.ref ra)), ("t", some (.ref x))]) [("t", .cell), ("rows", .cell), ("name", .local), ("content", .local), ("j", .local), ("last", .local), ("piece", .local), ("block", .local), ("i", .local), ("_law_find", .globalImplicit), ("_law_drop", .globalImplicit), ("_law_set", .globalImplicit), ("len", .globalImplicit), ("range", .globalImplicit), ("_law_need", .globalImplicit)] ["name", "content", "j", "last", "piece", "block", "i"] ["rows", "t"] (by k_is) (by k_is) rfl (fun s X => BindsTo.of_eq rfl) (by decide +kernel) rfl rfl rfl (by walk_at "binds") (by walk_at "bindsc") rfl rfl rfl fun C cells led hC hcl happ => ?_
  have h_g__law_find := @g__law_find w.params
  have h_k_806 := @k_806 w.params
  have h_g__law_drop := @g__law_drop w.params
  have h_k_825 := @k_825 w.params
  have h_g__law_set := @g__law_set w.params
  have h_k_799 := @k_799 w.params
  have h_b_len := @b_len w.params
  have h_b_range := @b_range w.params
  have h_g__law_need := @g__law_need w.params
  have h_k_775 := @k_775 w.params
  have h_g__law_at := @g__law_at w.params
  have h_k_792 := @k_792 w.params
  refine Run.post fun Qf hQf => ?_
  cases hcl with | @cons _ _ c1 o1 _ _ hc1 hd1 hcl => ?_
  cases hcl with | @cons _ _ c2 o2 _ _ hc2 hd2 hcl => ?_
  cases hcl
  cases happ with | cons happ => ?_
  cases happ with | cons happ => ?_
  cases happ
  refine run_execs ?_
  walk_at "rs"
  refine run_Call ?_
  walk_at "rs"
  refine run_callWith (keeps_ref hC (by assumption)) ?_
  walk_at "rs"
  refine run_call0 hC (c_find (l := l) (v := name) hl) rfl (by walk_at "pick") fun rv hv => ?_
  walk_at "rs"
  refine (Run.mono (Q := fun f loc led => f = .next ∧ ∃ (tj : Tok) (rest : Led), loc = ([("name", some (.int name tn)), ("content", some (.bytes c.toArray tc)), ("j", some (.int j tj)), ("last", none), ("piece", none), ("block", none), ("i", none)] : Loc) ∧
    Pick led ((c1, o1) :: (c2, o2) :: (ra, lstObj (rwL a0 a1 a2 a3 a4) kr) :: tLed x dx ba p tp l1) rest) ?_ ?_)
  · cases hr with
    | @old bs h1 h2 h3 h4 h5 =>
      obtain ⟨j', tj, hj', rfl, h6, h7⟩ : ∃ (j' : Nat) (t : Tok), j' < 3 ∧ rv = .int j' t ∧ byteAt l (108 + j') = name ∧ ∀ i < j', byteAt l (108 + i) ≠ name := by
        rcases hv with h | ⟨_, h⟩
        · exact h
        · exact absurd h2 (h j h1)
      obtain rfl : j' = j := by
        rcases Nat.lt_trichotomy j' j with h | h | h
        · exact absurd h6 (h3 _ h)
        · exact h
        · exact absurd h2 (h7 _ h)
      refine run_IfT ?_
      walk_at "rs"
      refine ⟨rfl, ?_⟩
      refine run_execs (run_ExprC ?_)
      refine run_Call ?_
      walk_at "rs"
      refine run_callWith (keeps_ref hC (by assumption)) ?_
      walk_at "rs"
      refine run_call hC (c_drop (l := l) (j := j') (bs := bs) hl h1 h4 h5) rfl (by walk_at "pick") ?_
      rintro _ _ ⟨rfl, rfl⟩
      refine ⟨_, by walk_at "app", ?_⟩
      walk_at "rs"
      exact ⟨rfl, tj, _, rfl, by walk_at "pick"⟩
    | new h1 h2 h3 h4 =>
      obtain rfl : rv = .none := by
        rcases hv with ⟨j', t, hj', _, h6, _⟩ | ⟨h, _⟩
        · exact absurd h6 (h1 _ hj')
        · exact h
      refine run_IfF ?_
      walk_at "rs"
      refine ⟨rfl, ?_⟩
      refine run_execs ?_
      walk_at "rs"
      refine run_Call ?_
      walk_at "rs"
      refine run_callWith (keeps_ref hC (by assumption)) ?_
      walk_at "rs"
      refine run_call0 hC (c_find (l := l) (v := 0) hl) rfl (by walk_at "pick") fun rv hv => ?_
      obtain ⟨j', tj, hj', rfl, h6, h7⟩ : ∃ (j' : Nat) (t : Tok), j' < 3 ∧ rv = .int j' t ∧ byteAt l (108 + j') = 0 ∧ ∀ i < j', byteAt l (108 + i) ≠ 0 := by
        rcases hv with h | ⟨_, h⟩
        · exact h
        · exact absurd h3 (h j h2)
      obtain rfl : j' = j := by
        rcases Nat.lt_trichotomy j' j with h | h | h
        · exact absurd h6 (h4 _ h)
        · exact h
        · exact absurd h3 (h7 _ h)
      walk_at "rs"
      refine run_ExprC ?_
      refine run_Call ?_
      walk_at "rs"
      refine run_callWith (keeps_ref hC (by assumption)) ?_
      walk_at "rs"
      refine run_sub ?_
      walk_at "rs"
      refine run_py_list (by walk_at "mem") ⟨rfl, ?_⟩
      refine run_get_list (its := rwL a0 a1 a2 a3 a4) (by walk_at "mem") (by decide) (by decide) rfl ?_
      walk_at "rs"
      refine run_call hC (c_set (l := l) (r := 108) (j := j') (by omega) (by omega) hn0 hn1) rfl (by walk_at "pick") ?_
      rintro _ _ ⟨rfl, rfl⟩
      refine ⟨_, by walk_at "app", ?_⟩
      walk_at "rs"
      exact ⟨rfl, tj, _, rfl, by walk_at "pick"⟩
  · rintro _ _ _ ⟨rfl, tj, rest, rfl, hp⟩
    refine run_after (Run.drop hp ?_)
    refine run_execs ?_
    walk_at "rs"
    refine run_ExprC ?_
    refine run_Call ?_
    walk_at "rs"
    refine run_callWith (keeps_ref hC (by assumption)) ?_
    walk_at "rs"
    refine run_sub ?_
    walk_at "rs"
    refine run_py_list (by walk_at "mem") ⟨rfl, ?_⟩
    refine run_get_list (its := rwL a0 a1 a2 a3 a4) (by walk_at "mem") (by decide) (by decide) rfl ?_
    walk_at "rs"
    refine run_Call ?_
    walk_at "rs"
    refine run_callWith keeps_builtin ?_
    walk_at "rs"
    refine run_len_bytes (by omega) fun t2 => ?_
    walk_at "rs"
    refine run_call hC (c_set (l := l1) (r := 92) (j := j) (by omega) (by omega) (by omega) (by omega)) rfl (by walk_at "pick") ?_
    rw [Int.toNat_natCast]
    rintro _ _ ⟨rfl, rfl⟩
    refine ⟨_, by walk_at "app", ?_⟩
    walk_at "rs"
    generalize hl2 : l1.set (92 + j) (UInt8.ofNat c.length) = l2 at hf hQf ⊢
    have hl2' : l2.length = 112 := by rw [← hl2, List.length_set]; exact hl1
    refine run_For ?_
    refine run_Call ?_
    walk_at "rs"
    refine run_callWith keeps_type ?_
    walk_at "rs"
    refine run_Call ?_
    walk_at "rs"
    refine run_callWith (keeps_ref hC (by assumption)) ?_
    walk_at "rs"
    refine run_callI hC (c_need (c := c) (by omega)) rfl (by walk_at "pick") fun tm => ?_
    walk_at "rs"
    refine run_range1 fun rg t1 t2 t3 => ?_
    walk_at "rs"
    have hnd : needN c ≤ 4 := by unfold needN; omega
    refine run_iter_rangeN (n := needN c) (by omega) (by walk_at "mem") fun it => ?_
    refine RunC.drop (keep := (it, _) :: (rg, _) :: (c1, o1) :: (c2, o2) :: (ra, lstObj (rwL a0 a1 a2 a3 a4) kr) :: tLed x dx ba p tp l2) (by walk_at "pick") ?_
    refine RunC.forR (iterRange it 0 1 (needN c)) (fun i loc led => ∃ (lv : Value) (ov bv iv : Option Value) (ro : Obj), LastV lv (stp l2 j c i).2 ∧
      loc = ([("name", some (.int name tn)), ("content", some (.bytes c.toArray tc)), ("j", some (.int j tj)), ("last", some lv), ("piece", ov), ("block", bv), ("i", iv)] : Loc) ∧
      led = (rg, ro) :: (c1, o1) :: (c2, o2) :: (ra, lstObj (rwL a0 a1 a2 a3 a4) kr) :: tLed x dx ba p tp (stp l2 j c i).1) ?_ ?_ ?_ _ 0 _ _ _ rfl (Nat.zero_le _) (by simp)
      ⟨.none, none, none, none, _, rfl, rfl, rfl⟩
    · intro i _ _ _
      trivial
    · rintro Qt hQt i ti o' loc0 led0 hlt hP hI0
      refine ex5 hI0 (fun lv ov bv iv ro hI1 => ?_)
      clear hI0
      refine andL1 hI1 (fun hlv => ?_)
      clear hI1
      refine ⟨_, by walk_at "setl", ?_⟩
      have hne := hf i hlt
      have hlast := stp_last (l := l2) (j := j) (c := c) i
      have hfq : ∀ q < i, frees (stp l2 j c q).1 ≠ [] := fun q hq => hf q (by omega)
      have hL : (stp l2 j c i).1.length = 112 := by rw [stp_length]; exact hl2'
      have hstep : stp l2 j c (i + 1) = (pieceL (stp l2 j c i).1 j c i (stp l2 j c i).2 ((frees (stp l2 j c i).1).headD 0), some ((frees (stp l2 j c i).1).headD 0)) := rfl
      generalize hG : (stp l2 j c i).1 = L at *
      generalize hG2 : (stp l2 j c i).2 = la at *
      obtain ⟨b, bs, hb⟩ : ∃ b bs, frees L = b :: bs := by
        cases hq : frees L with
        | nil => exact absurd hq hne
        | cons b bs => exact ⟨b, bs, rfl⟩
      have hb6 : b < 6 := by
        have hm : b ∈ frees L := by rw [hb]; exact .head _
        exact List.mem_range.mp (List.mem_filter.mp hm).1
      rw [hb] at hstep
      simp only [List.headD_cons] at hstep
      refine run_execs ?_
      walk_at "rs"
      refine run_sub ?_
      walk_at "fbcomp"
      refine run_Call ?_
      walk_at "rs"
      refine run_callWith keeps_type ?_
      walk_at "rs"
      refine run_range1 fun rg2 t4 t5 t6 => ?_
      walk_at "rs"
      refine run_iter_range (by walk_at "mem") rfl fun it2 D C2 hC2 hcl2 => ?_
      have hq_t : C2.env.cells.lookup (Str.ofString "t") = some c2 := by rw [hcl2]; rfl
      have hq_rows : C2.env.cells.lookup (Str.ofString "rows") = some c1 := by rw [hcl2]; rfl
      refine RunC.compGo1T (iterRange it2 0 1 6) (fun i2 items led => ∃ ro2 : Obj, IntsAre items (natsI ((List.range i2).filter fun k => byteAt L (80 + k) == 0)) ∧ i2 ≤ 6 ∧
        led = (rg2, ro2) :: (it, o') :: (rg, ro) :: (c1, o1) :: (c2, o2) :: (ra, lstObj (rwL a0 a1 a2 a3 a4) kr) :: tLed x dx ba p tp L) ?_ ?_ ?_ ?_ rfl ⟨_, .nil, by omega, rfl⟩
      · rintro i2 items k2 _ ⟨ro2, h1, h2, rfl⟩
        trivial
      · rintro i2 items _ ⟨ro2, h1, h2, rfl⟩
        have h3 := h1.length
        have h4 := List.length_filter_le (fun k => byteAt L (80 + k) == 0) (List.range i2)
        simp at h3 h4; omega
      · rintro Qt Qe hQt hQe i2 v2 o2' k2 items _ hlt2 hv2 hP2 ⟨ro2, h1, h2, rfl⟩
        obtain ⟨ti2, rfl⟩ := rng0 hv2
        refine run_isCmp1 ?_
        refine run_Call ?_
        walk_at "rs"
        refine run_callWith (keeps_ref hC2 (by assumption)) ?_
        walk_at "rs"
        refine run_sub ?_
        walk_at "rs"
        refine run_py_list (by walk_at "mem") ⟨rfl, ?_⟩
        refine run_get_list (its := rwL a0 a1 a2 a3 a4) (by walk_at "mem") (by decide) (by decide) rfl ?_
        walk_at "rs"
        refine run_callI hC2 (c_at (l := L) (r := 80) (j := i2) (by omega) (by omega)) rfl (by walk_at "pick") fun t5 => ?_
        walk_at "rs"
        refine ⟨fun hz => ?_, fun hz => ?_⟩
        · skip
          walk_at "rs"
          first
          | refine hQt _ _ _ _ _ _ ⟨rfl, o2', _, _, _, by walk_at "pick", hP2, ro2, ?_, by omega, rfl⟩
          | refine hQe _ _ _ _ _ ⟨rfl, o2', _, _, _, by walk_at "pick", hP2, ro2, ?_, by omega, rfl⟩
          rw [List.range_succ, List.filter_append]
          simp only [List.filter_cons, hz, if_true, List.filter_nil]
          simpa [natsI] using h1.append (.cons (i2 : Int) ti2 .nil)
        · skip
          first
          | refine hQt _ _ _ _ _ _ ⟨rfl, o2', _, _, _, by walk_at "pick", hP2, ro2, ?_, by omega, rfl⟩
          | refine hQe _ _ _ _ _ ⟨rfl, o2', _, _, _, by walk_at "pick", hP2, ro2, ?_, by omega, rfl⟩
          rw [List.range_succ, List.filter_append]
          simp only [List.filter_cons, hz, List.filter_nil]
          simpa [natsI] using h1
      · rintro k2 ov2 items _ ⟨ro2, h1, h2, rfl⟩
        have hit : items[0]? = some (items.headD .none) ∧ ∃ tb : Tok, items.headD .none = .int (b : Int) tb := by
          rw [show (List.range 6).filter (fun k => byteAt L (80 + k) == 0) = frees L from rfl, hb] at h1
          obtain ⟨tb, vs', rfl, _⟩ := h1.cons_inv
          exact ⟨rfl, tb, rfl⟩
        obtain ⟨hit, tb, htb⟩ := hit
        rw [htb] at hit
        walk_at "rs"
        refine run_py_list (by walk_at "mem") ⟨rfl, ?_⟩
        refine run_get_list (its := items) (by walk_at "mem") (by decide) (by decide) hit ?_
        walk_at "rs"
        refine run_ExprC ?_
        refine run_Call ?_
        walk_at "rs"
        refine run_callWith (keeps_ref hC (by assumption)) ?_
        walk_at "rs"
        refine run_sub ?_
        walk_at "rs"
        refine run_py_list (by walk_at "mem") ⟨rfl, ?_⟩
        refine run_get_list (its := rwL a0 a1 a2 a3 a4) (by walk_at "mem") (by decide) (by decide) rfl ?_
        walk_at "rs"
        refine run_call hC (c_set (l := L) (r := 80) (j := b) (by omega) (by omega) (by omega) (by omega)) rfl (by walk_at "pick") ?_
        rw [u255]
        rintro _ _ ⟨rfl, rfl⟩
        refine ⟨_, by walk_at "app", ?_⟩
        walk_at "rs"
        refine (Run.mono (Q := fun f loc led => f = .next ∧ ∃ (rest : Led), loc = ([("name", some (.int name tn)), ("content", some (.bytes c.toArray tc)), ("j", some (.int j tj)), ("last", some lv), ("piece", some (.int i ti)), ("block", some (.int b tb)), ("i", iv)] : Loc) ∧
          Pick led ((it, o') :: (rg, ro) :: (c1, o1) :: (c2, o2) :: (ra, lstObj (rwL a0 a1 a2 a3 a4) kr) :: tLed x dx ba p tp (linkL L j la b)) rest) ?_ ?_)
        · cases la with
          | none =>
            obtain rfl : lv = .none := hlv
            refine run_IfT ?_
            walk_at "rs"
            refine ⟨rfl, ?_⟩
            refine run_execs (run_ExprC ?_)
            refine run_Call ?_
            walk_at "rs"
            refine run_callWith (keeps_ref hC (by assumption)) ?_
            walk_at "rs"
            refine run_sub ?_
            walk_at "rs"
            refine run_py_list (by walk_at "mem") ⟨rfl, ?_⟩
            refine run_get_list (its := rwL a0 a1 a2 a3 a4) (by walk_at "mem") (by decide) (by decide) rfl ?_
            walk_at "rs"
            refine run_call hC (c_set (l := L.set (80 + b) 255) (r := 100) (j := j) (by rw [List.length_set]; omega) (by rw [List.length_set]; omega) (by omega) (by omega)) rfl (by walk_at "pick") ?_
            rw [show ((b : Int) + 1).toNat = b + 1 by omega]
            rintro _ _ ⟨rfl, rfl⟩
            refine ⟨_, by walk_at "app", ?_⟩
            walk_at "rs"
            exact ⟨rfl, _, rfl, by unfold linkL; walk_at "pick"⟩
          | some a =>
            obtain ⟨ta, rfl⟩ : ∃ t, lv = .int a t := hlv
            have ha6 : a < 6 := hlast a rfl hfq
            refine run_IfF ?_
            walk_at "rs"
            refine ⟨rfl, ?_⟩
            refine run_execs (run_ExprC ?_)
            refine run_Call ?_
            walk_at "rs"
            refine run_callWith (keeps_ref hC (by assumption)) ?_
            walk_at "rs"
            refine run_sub ?_
            walk_at "rs"
            refine run_py_list (by walk_at "mem") ⟨rfl, ?_⟩
            refine run_get_list (its := rwL a0 a1 a2 a3 a4) (by walk_at "mem") (by decide) (by decide) rfl ?_
            walk_at "rs"
            refine run_call hC (c_set (l := L.set (80 + b) 255) (r := 80) (j := a) (by rw [List.length_set]; omega) (by rw [List.length_set]; omega) (by omega) (by omega)) rfl (by walk_at "pick") ?_
            rw [show ((b : Int) + 1).toNat = b + 1 by omega]
            rintro _ _ ⟨rfl, rfl⟩
            refine ⟨_, by walk_at "app", ?_⟩
            walk_at "rs"
            exact ⟨rfl, _, rfl, by unfold linkL; walk_at "pick"⟩
        · rintro _ _ _ ⟨rfl, rest, rfl, hp⟩
          refine run_after (Run.drop hp ?_)
          refine run_execs ?_
          walk_at "rs"
          refine run_For ?_
          refine run_Call ?_
          walk_at "rs"
          refine run_callWith keeps_type ?_
          walk_at "rs"
          refine run_range1 fun rg3 t4 t5 t6 => ?_
          walk_at "rs"
          refine run_iter_range (by walk_at "mem") rfl fun it3 => ?_
          have hLL : (linkL L j la b).length = 112 := by rw [linkL_length]; exact hL
          refine RunC.forR (iterRange it3 0 1 4) (fun i3 loc led => ∃ (iv : Option Value) (ro3 : Obj),
            loc = ([("name", some (.int name tn)), ("content", some (.bytes c.toArray tc)), ("j", some (.int j tj)), ("last", some (.int b tb)), ("piece", some (.int i ti)), ("block", some (.int b tb)), ("i", iv)] : Loc) ∧
            led = (rg3, ro3) :: (it, o') :: (rg, ro) :: (c1, o1) :: (c2, o2) :: (ra, lstObj (rwL a0 a1 a2 a3 a4) kr) :: tLed x dx ba p tp (wr (linkL L j la b) b c i i3)) ?_ ?_ ?_ _ 0 _ _ _ rfl (Nat.zero_le _) rfl
            ⟨_, _, rfl, rfl⟩
          · rintro i3 _ _ ⟨iv3, ro3, rfl, rfl⟩
            trivial
          · rintro Qt hQt i3 ti3 o3' _ _ hlt3 hP3 ⟨iv3, ro3, rfl, rfl⟩
            refine ⟨_, by walk_at "setl", ?_⟩
            have hW : (wr (linkL L j la b) b c i i3).length = 112 := by rw [wr_length]; exact hLL
            by_cases hin : 4 * i + i3 < c.length
            · refine run_execs (run_IfT ?_)
              walk_at "rs"
              refine run_mul (mul_ok (by omega) (by omega)) fun tm2 => ?_
              walk_at "rs"
              refine run_Call ?_
              walk_at "rs"
              refine run_callWith keeps_builtin ?_
              walk_at "rs"
              refine run_len_bytes (by omega) fun t7 => ?_
              walk_at "rs"
              refine ⟨decide_eq_true (by omega), ?_⟩
              refine run_execs (run_ExprC ?_)
              refine run_Call ?_
              walk_at "rs"
              refine run_callWith (keeps_ref hC (by assumption)) ?_
              walk_at "rs"
              refine run_sub ?_
              walk_at "rs"
              refine run_py_list (by walk_at "mem") ⟨rfl, ?_⟩
              refine run_get_list (its := rwL a0 a1 a2 a3 a4) (by walk_at "mem") (by decide) (by decide) rfl ?_
              walk_at "rs"
              refine run_mul (mul_ok (by omega) (by omega)) fun tm3 => ?_
              walk_at "rs"
              refine run_sub ?_
              walk_at "rs"
              refine run_mul (mul_ok (by omega) (by omega)) fun tm4 => ?_
              walk_at "rs"
              refine run_py_bytes ⟨rfl, ?_⟩
              refine run_get_bytes (by omega) (by omega) (by omega) fun t9 => ?_
              walk_at "rs"
              have e1 : (4 : Int) * (b : Nat) + (i3 : Nat) = ((4 * b + i3 : Nat) : Int) := by omega
              have e2 : ((4 : Int) * (i : Nat) + (i3 : Nat)).toNat = 4 * i + i3 := by omega
              have e3 := (c.getD (4 * i + i3) 0).toNat_lt
              rw [e1, e2]
              refine run_call hC (c_set (l := wr (linkL L j la b) b c i i3) (r := 52) (j := 4 * b + i3) (by omega) (by omega) (by omega) (by omega)) rfl (by walk_at "pick") ?_
              rw [Int.toNat_natCast, UInt8.ofNat_toNat]
              rintro _ _ ⟨rfl, rfl⟩
              refine ⟨_, by walk_at "app", ?_⟩
              walk_at "rs"
              refine hQt _ _ _ _ ?_
              dsimp only [Turn]
              have e4 : wr (linkL L j la b) b c i (i3 + 1) = (wr (linkL L j la b) b c i i3).set (52 + (4 * b + i3)) (c.getD (4 * i + i3) 0) := by
                rw [wr, if_pos hin]
              rw [e4]
              exact ⟨o3', _, _, by walk_at "pick", hP3, _, ro3, rfl, rfl⟩
            · refine run_execs (run_IfF ?_)
              walk_at "rs"
              refine run_mul (mul_ok (by omega) (by omega)) fun tm2 => ?_
              walk_at "rs"
              refine run_Call ?_
              walk_at "rs"
              refine run_callWith keeps_builtin ?_
              walk_at "rs"
              refine run_len_bytes (by omega) fun t7 => ?_
              walk_at "rs"
              refine ⟨decide_eq_false (by omega), ?_⟩
              walk_at "rs"
              refine hQt _ _ _ _ ?_
              dsimp only [Turn]
              have e4 : wr (linkL L j la b) b c i (i3 + 1) = wr (linkL L j la b) b c i i3 := by
                rw [wr, if_neg hin]
              rw [e4]
              exact ⟨o3', _, _, by walk_at "pick", hP3, _, ro3, rfl, rfl⟩
          · rintro _ _ ⟨iv3, ro3, rfl, rfl⟩
            walk_at "rs"
            refine hQt _ _ _ _ ?_
            dsimp only [Turn]
            have hs1 : (stp l2 j c (i + 1)).1 = wr (linkL L j la b) b c i 4 := by rw [hstep]; rfl
            have hs2 : (stp l2 j c (i + 1)).2 = some b := by rw [hstep]
            rw [hs1, hs2]
            exact ⟨o', _, _, by walk_at "pick", hP, _, _, _, _, ro, ⟨tb, rfl⟩, rfl, rfl⟩
    · rintro loc0 led0 hI0
      refine ex5 hI0 (fun lv ov bv iv ro hI1 => ?_)
      clear hI0
      refine andL1 hI1 (fun hlv => ?_)
      clear hI1
      walk_at "rs"
      exact hQf _ _ _ ⟨_, _, by walk_at "pick", rfl, rfl⟩
end
end

/-! G19 -/



section
variable {prog : Program} {w : World}
theorem FD.nodup {d : Addr} {o : Obj} {F : Files} (h : FD prog w d o F) : (F.map (·.1)).Nodup := by
  obtain ⟨kvs, ⟨es, ep, h1, h2, h3, h4, h5⟩, h6⟩ := h.is
  rw [← h6.keys]; exact h5
theorem look_at {F : Files} (hn : (F.map (·.1)).Nodup) {i : Nat} {k : Int} {c : List UInt8} (h : F[i]? = some (k, c)) : look F k = some c := by
  induction F generalizing i with
  | nil => simp at h
  | cons p F ih =>
    rw [List.map_cons, List.nodup_cons] at hn
    unfold look
    rw [List.find?_cons]
    cases i with
    | zero => simp at h; subst h; simp
    | succ i =>
      simp at h
      have hm : k ∈ F.map (·.1) := List.mem_map_of_mem (f := (·.1)) (List.mem_of_getElem? h)
      have : ¬ p.1 = k := fun e => hn.1 (e ▸ hm)
      simp only [this, decide_false]
      exact ih hn.2 h
theorem key_at {F : Files} {i : Nat} {k : Int} (h : (F.map (·.1))[i]? = some k) : ∃ c, F[i]? = some (k, c) := by
  rw [List.getElem?_map] at h
  obtain ⟨⟨a, c⟩, h1, h2⟩ := Option.map_eq_some_iff.mp h
  exact ⟨c, by rw [h1]; simp at h2; rw [h2]⟩
theorem take_snoc {α : Type} {l : List α} {i : Nat} {a : α} (h : l[i]? = some a) : l.take (i + 1) = l.take i ++ [a] := by
  rw [List.take_add_one, h]; rfl
def fitsB (F : Files) (name : Int) (c : List UInt8) : Bool := decide (((remF F name).map fun p => (needN p.2 : Int)).sum + needN c ≤ 6) && decide ((remF F name).length < 3)
theorem remF_snoc (F : Files) (k : Int) (c : List UInt8) (name : Int) : remF (F ++ [(k, c)]) name = remF F name ++ (if (k != name) = true then [(k, c)] else []) := by
  unfold remF
  rw [List.filter_append]
  congr 1
  by_cases h : k = name <;> simp [h]
section
variable {d : Addr} {o : Obj} {F : Files} {tn tc : Tok} {c : List UInt8} {name : Int}
theorem c_fits (hd : FD prog w d o F) (hF : F.length ≤ 10) (hF2 : ∀ p ∈ F, p.2.length ≤ 1000) (hc : c.length ≤ 1000) : CallP prog w (myK w.params) (.ref 840) [.ref d, .int name tn, .bytes c.toArray tc] [] 2 [(d, o)]
    (fun v led' => v = .bool (fitsB F name c) ∧ led' = [(d, o)]) := by
  have hnd := hd.nodup
  obtain ⟨ep, he⟩ := hd.ep
  refine CallP.fn1 (binds := [("files", .ref d), ("name", .int name tn), ("content", .bytes c.toArray tc)]) (loc0 := [("content", none), ("blocks", none)]) (loc := [("content", some (.bytes c.toArray tc)), ("blocks", none)]) (cloc0 := [("name", none), ("files", none)]) (cloc := [("name", some (.int name tn)), ("files", some (.ref d))]) [("files", .cell), ("name", .cell), ("content", .local), ("blocks", .local), ("sum", .globalImplicit), ("_law_need", .globalImplicit), ("len", .globalImplicit)] ["content", "blocks"] ["name", "files"] (by k_is) (by k_is) rfl (fun s X => BindsTo.of_eq rfl) (by decide +kernel) rfl rfl rfl (by walk_at "binds") (by walk_at "bindsc") rfl rfl rfl fun C cells led hC hcl happ => ?_
  have h_b_sum := @b_sum w.params
  have h_g__law_need := @g__law_need w.params
  have h_k_775 := @k_775 w.params
  have h_b_len := @b_len w.params
  refine Run.post fun Qf hQf => ?_
  cases hcl with | @cons _ _ c1 o1 _ _ hl1 hd1 hcl => ?_
  cases hcl with | @cons _ _ c2 o2 _ _ hl2 hd2 hcl => ?_
  cases hcl
  cases happ with | cons happ => ?_
  cases happ with | cons happ => ?_
  cases happ
  refine run_execs ?_
  walk_at "rs"
  refine run_Call ?_
  walk_at "rs"
  refine run_callWith keeps_builtin ?_
  walk_at "rs"
  walk_at "fbcomp"
  walk_at "rs"
  refine run_iter_dict hC (by walk_at "mem") he fun it oi hoi D C2 hC2 hcl2 => ?_
  have hq_files : C2.env.cells.lookup (Str.ofString "files") = some c2 := by rw [hcl2]; rfl
  have hq_name : C2.env.cells.lookup (Str.ofString "name") = some c1 := by rw [hcl2]; rfl
  refine RunC.compGo1T (iterDict hC2 it d o F he) (fun i items led => IntsAre items ((remF (F.take i) name).map fun p => (needN p.2 : Int)) ∧ i ≤ F.length ∧
    led = (c1, o1) :: (c2, o2) :: (d, o) :: []) ?_ ?_ ?_ ?_ hoi ⟨.nil, Nat.zero_le _, rfl⟩
  · rintro i items k2 _ ⟨h1, h2, rfl⟩
    walk_at "mem"
  · rintro i items _ ⟨h1, h2, rfl⟩
    have h3 := h1.length
    have h4 := List.length_filter_le (fun p : Int × List UInt8 => decide (p.1 ≠ name)) (F.take i)
    simp [remF] at h3 h4; omega
  · rintro Qt Qe hQt hQe i v o' k2 items _ hlt hv hP ⟨h1, h2, rfl⟩
    obtain ⟨k, tk, hk, rfl⟩ := hv
    obtain ⟨ck, hck⟩ := key_at hk
    refine run_isCmp1 ?_
    walk_at "rs"
    refine ⟨fun hz => ?_, fun hz => ?_⟩
    · skip
      walk_at "rs"
      refine run_Call ?_
      walk_at "rs"
      refine run_callWith (keeps_ref hC2 (by assumption)) ?_
      walk_at "rs"
      refine run_sub ?_
      walk_at "rs"
      refine run_py_dict hC2 (by walk_at "mem") hd ⟨rfl, ?_⟩
      refine run_get_dict hC2 (by walk_at "mem") hd (look_at hnd hck) fun u => ?_
      walk_at "rs"
      refine run_callI hC2 (c_need (c := ck) (hF2 _ (List.mem_of_getElem? hck))) rfl (by walk_at "pick") fun tm => ?_
      first
      | refine hQt _ _ _ _ _ _ ⟨rfl, o', _, _, _, by walk_at "pick", hP, ?_, by omega, rfl⟩
      | refine hQe _ _ _ _ _ ⟨rfl, o', _, _, _, by walk_at "pick", hP, ?_, by omega, rfl⟩
      rw [take_snoc hck, remF_snoc, if_pos hz, List.map_append]
      exact h1.append (.cons _ _ .nil)
    · skip
      first
      | refine hQt _ _ _ _ _ _ ⟨rfl, o', _, _, _, by walk_at "pick", hP, ?_, by omega, rfl⟩
      | refine hQe _ _ _ _ _ ⟨rfl, o', _, _, _, by walk_at "pick", hP, ?_, by omega, rfl⟩
      rw [take_snoc hck, remF_snoc, if_neg (by rw [hz]; decide), List.append_nil]
      exact h1
  · rintro k20 ov items0 _ ⟨h1, h2, rfl⟩
    rw [List.take_length] at h1
    walk_at "rs"
    refine run_sum (by walk_at "mem") h1 fun ts => ?_
    walk_at "rs"
    refine run_Call ?_
    walk_at "rs"
    refine run_callWith (keeps_ref hC (by assumption)) ?_
    walk_at "rs"
    refine run_callI hC (c_need (c := c) hc) rfl (by walk_at "pick") fun tm => ?_
    walk_at "rs"
    refine run_And2 ?_
    walk_at "rs"
    by_cases hle : ((remF F name).map fun p => (needN p.2 : Int)).sum + needN c ≤ 6
    · rw [if_pos (decide_eq_true hle)]
      walk_at "rs"
      refine run_Call ?_
      walk_at "rs"
      refine run_callWith keeps_builtin ?_
      walk_at "rs"
      walk_at "fbcomp"
      walk_at "rs"
      refine run_iter_dict hC (by walk_at "mem") he fun it3 oi3 hoi3 D3 C3 hC3 hcl3 => ?_
      have hq_name : C3.env.cells.lookup (Str.ofString "name") = some c1 := by rw [hcl3]; rfl
      refine RunC.compGo1T (iterDict hC3 it3 d o F he) (fun i items led => items.length = (remF (F.take i) name).length ∧ i ≤ F.length ∧
        led = (D, lstObj items0 k20) :: (c1, o1) :: (c2, o2) :: (d, o) :: []) ?_ ?_ ?_ ?_ hoi3 ⟨rfl, Nat.zero_le _, rfl⟩
      · rintro i items k2 _ ⟨h1, h2, rfl⟩
        walk_at "mem"
      · rintro i items _ ⟨h1, h2, rfl⟩
        have h4 := List.length_filter_le (fun p : Int × List UInt8 => decide (p.1 ≠ name)) (F.take i)
        simp [remF] at h1 h4; omega
      · rintro Qt Qe hQt hQe i v o' k2 items _ hlt hv hP ⟨h1, h2, rfl⟩
        obtain ⟨k, tk, hk, rfl⟩ := hv
        obtain ⟨ck, hck⟩ := key_at hk
        refine run_isCmp1 ?_
        walk_at "rs"
        refine ⟨fun hz => ?_, fun hz => ?_⟩
        · skip
          walk_at "rs"
          first
          | refine hQt _ _ _ _ _ _ ⟨rfl, o', _, _, _, by walk_at "pick", hP, ?_, by omega, rfl⟩
          | refine hQe _ _ _ _ _ ⟨rfl, o', _, _, _, by walk_at "pick", hP, ?_, by omega, rfl⟩
          rw [take_snoc hck, remF_snoc, if_pos hz, List.length_append, List.length_append, h1]
          rfl
        · skip
          first
          | refine hQt _ _ _ _ _ _ ⟨rfl, o', _, _, _, by walk_at "pick", hP, ?_, by omega, rfl⟩
          | refine hQe _ _ _ _ _ ⟨rfl, o', _, _, _, by walk_at "pick", hP, ?_, by omega, rfl⟩
          rw [take_snoc hck, remF_snoc, if_neg (by rw [hz]; decide), List.append_nil]
          exact h1
      · rintro k4 ov items4 _ ⟨h1, h2, rfl⟩
        rw [List.take_length] at h1
        have h4 := List.length_filter_le (fun p : Int × List UInt8 => decide (p.1 ≠ name)) F
        walk_at "rs"
        refine run_len_list (its := items4) (k := k4) (by walk_at "mem") (by unfold remF at h1; omega) fun t5 => ?_
        walk_at "rs"
        refine hQf _ _ _ ⟨_, _, by walk_at "pick", ?_, rfl⟩
        unfold fitsB
        rw [decide_eq_true hle, Bool.true_and, h1]
        show Value.bool _ = Value.bool _
        congr 1
        exact decide_eq_decide.mpr (by omega)
    · rw [if_neg (by rw [decide_eq_false hle]; decide)]
      walk_at "rs"
      refine hQf _ _ _ ⟨_, _, by walk_at "pick", ?_, rfl⟩
      unfold fitsB
      rw [decide_eq_false hle, Bool.false_and]
      rfl
/-- a list of the dict's pairs, as tuples -/
inductive Tups : List Value → Files → Led → Prop
  | nil : Tups [] [] []
  | snoc {a : Addr} {k : Int} {b : List UInt8} {t u : Tok} {refs G ts} : Tups refs G ts → Tups (refs ++ [.ref a]) (G ++ [(k, b)]) ((a, tupObj [.int k t, .bytes b.toArray u]) :: ts)
theorem Tups.length {refs G ts} (h : Tups refs G ts) : refs.length = G.length := by
  induction h with
  | nil => rfl
  | snoc _ ih => simp [ih]
theorem Tups.at {refs G ts} (h : Tups refs G ts) {i : Nat} {k : Int} {b : List UInt8} (e : G[i]? = some (k, b)) : ∃ a t u, refs[i]? = some (.ref a) ∧ (a, tupObj [.int k t, .bytes b.toArray u]) ∈ ts := by
  induction h with
  | nil => simp at e
  | @snoc a k' b' t u refs G ts h ih =>
    have hl := h.length
    rcases Nat.lt_or_ge i G.length with h1 | h1
    · rw [List.getElem?_append_left h1] at e
      obtain ⟨a2, t2, u2, h2, h3⟩ := ih e
      exact ⟨a2, t2, u2, by rw [List.getElem?_append_left (by omega)]; exact h2, .tail _ h3⟩
    · rw [List.getElem?_append_right h1] at e
      cases hj : i - G.length with
      | zero =>
        rw [hj] at e
        simp at e
        obtain ⟨rfl, rfl⟩ := e
        exact ⟨a, t, u, by rw [List.getElem?_append_right (by omega), hl, hj]; rfl, .head _⟩
      | succ n => rw [hj] at e; simp at e
structure TupsIn (refs : List Value) (G : Files) (ts : Led) : Prop where
  length : refs.length = G.length
  «at» : ∀ {i : Nat} {k : Int} {b : List UInt8}, G[i]? = some (k, b) → ∃ a t u, refs[i]? = some (.ref a) ∧ (a, tupObj [.int k t, .bytes b.toArray u]) ∈ ts
theorem Tups.in {refs G ts} (h : Tups refs G ts) : TupsIn refs G ts := ⟨h.length, h.at⟩
def gather (F : Files) (ns : List Int) : Files := ns.map fun k => (k, (look F k).getD [])
theorem look_mem {F : Files} (hn : (F.map (·.1)).Nodup) {k : Int} (h : k ∈ F.map (·.1)) : ∃ c, look F k = some c ∧ (k, c) ∈ F := by
  obtain ⟨⟨k', c⟩, h1, rfl⟩ := List.mem_map.mp h
  obtain ⟨i, hi⟩ := List.mem_iff_getElem?.mp h1
  exact ⟨c, look_at hn hi, h1⟩
theorem c_listed (hd : FD prog w d o F) (hF : F.length ≤ 10) : CallP prog w (myK w.params) (.ref 845) [.ref d] [] 1 [(d, o)]
    (fun v led' => ∃ L k refs ns ts, v = .ref L ∧ ns.Perm (F.map (·.1)) ∧ ns.Pairwise (· ≤ ·) ∧ Tups refs (gather F ns) ts ∧ led' = (L, lstObj refs k) :: (d, o) :: ts) := by
  have hnd := hd.nodup
  refine CallP.fn1 (binds := [("files", .ref d)]) (loc0 := []) (loc := []) (cloc0 := [("files", none)]) (cloc := [("files", some (.ref d))]) [("files", .cell), ("sorted", .globalImplicit)] [] ["files"] (by k_is) (by k_is) rfl (fun s X => BindsTo.of_eq rfl) (by decide +kernel) rfl rfl rfl (by walk_at "binds") (by walk_at "bindsc") rfl rfl rfl fun C cells led hC hcl happ => ?_
  have h_b_sorted := @b_sorted w.params
  refine Run.post fun Qf hQf => ?_
  cases hcl with | @cons _ _ c1 o1 _ _ hl1 hd1 hcl => ?_
  cases hcl
  cases happ with | cons happ => ?_
  cases happ
  refine run_execs ?_
  walk_at "rs"
  walk_at "fbcomp"
  refine run_Call ?_
  walk_at "rs"
  refine run_callWith keeps_builtin ?_
  walk_at "rs"
  refine run_sorted_dict hC (by walk_at "mem") hd (by omega) fun S vs ns k0 hi hpm hpw => ?_
  walk_at "rs"
  refine run_iter_list (its := vs) (k := k0) (by walk_at "mem") fun it D C2 hC2 hcl2 => ?_
  have hq_files : C2.env.cells.lookup (Str.ofString "files") = some c1 := by rw [hcl2]; rfl
  have hlen := hi.length
  have hlen2 := hpm.length_eq
  rw [List.length_map] at hlen2
  refine RunC.compGo0T (iterList it S vs k0) (fun i items led => ∃ ts, Tups items (gather F (ns.take i)) ts ∧ i ≤ ns.length ∧
    led = (S, lstObj vs k0) :: (c1, o1) :: (d, o) :: ts) ?_ ?_ ?_ ?_ ⟨rfl, rfl⟩ ⟨[], .nil, Nat.zero_le _, rfl⟩
  · rintro i items k2 _ ⟨ts, h1, h2, rfl⟩
    walk_at "mem"
  · rintro i items _ ⟨ts, h1, h2, rfl⟩
    have := h1.length
    simp [gather] at this
    omega
  · rintro Qt hQt i v o' k2 items _ hlt hv hP ⟨ts, h1, h2, rfl⟩
    obtain ⟨k, tk, rfl, hk⟩ := hi.at _ _ hv
    obtain ⟨c, hc, _⟩ := look_mem hnd (hpm.mem_iff.mp (List.mem_of_getElem? hk))
    refine run_Tuple ?_
    walk_at "rs"
    refine run_sub ?_
    walk_at "rs"
    refine run_py_dict hC2 (by walk_at "mem") hd ⟨rfl, ?_⟩
    refine run_get_dict hC2 (by walk_at "mem") hd hc fun u => ?_
    walk_at "rs"
    refine run_newTuple fun a => ?_
    refine hQt _ _ _ _ _ _ ⟨rfl, o', k2, (S, lstObj vs k0) :: (c1, o1) :: (d, o) :: (a, tupObj [.int k tk, .bytes c.toArray u]) :: ts, _, by walk_at "pick", hP, _, ?_, by omega, rfl⟩
    · rw [take_snoc hk]
      unfold gather
      rw [List.map_append]
      simp only [List.map_cons, List.map_nil, hc, Option.getD_some]
      exact .snoc h1
  · rintro k2 ov items _ ⟨ts, h1, h2, rfl⟩
    rw [hlen, List.take_length] at h1
    walk_at "rs"
    exact hQf _ _ _ ⟨_, _, by walk_at "pick", D, k2, items, ns, ts, rfl, hpm, hpw, h1, rfl⟩
end
end

/-! L7 -/
section
variable {C : Cx} {loc : Loc} {led : Led} {l : Addr} {refs : List Value} {G : Files} {ts : Led} {kk : Nat}
theorem TupsIn.firsts {refs : List Value} {G : Files} {ts : Led} (h : TupsIn refs G ts) {hp : Heap} (hts : ∀ p ∈ ts, hp.get? p.1 = some p.2) : ∃ fs, KatTups hp refs fs ∧ fs.length = refs.length ∧ ∀ v ∈ fs, ∃ k t, v = Value.int k t := by
  have key : ∀ (refs : List Value) (G : Files), refs.length = G.length → (∀ (i : Nat) (k : Int) (b : List UInt8), G[i]? = some (k, b) → ∃ (a : Addr) (t u : Tok), refs[i]? = some (.ref a) ∧ (a, tupObj [.int k t, .bytes b.toArray u]) ∈ ts) → ∃ fs, KatTups hp refs fs ∧ fs.length = refs.length ∧ ∀ v ∈ fs, ∃ k t, v = Value.int k t := fun refs => by
    induction refs with
    | nil => intro G _ _; exact ⟨[], trivial, rfl, fun v hv => nomatch hv⟩
    | cons r refs ih =>
      intro G hl hat
      cases G with
      | nil => cases hl
      | cons p G =>
        obtain ⟨a, t, u, h1, h2⟩ := hat 0 p.1 p.2 rfl
        obtain ⟨fs, h3, h4, h5⟩ := ih G (by simpa using hl) fun i k b e => by
          obtain ⟨a, t, u, h1, h2⟩ := hat (i + 1) k b (by simpa using e)
          exact ⟨a, t, u, by simpa using h1, h2⟩
        have hr : r = .ref a := by simpa using h1
        refine ⟨.int p.1 t :: fs, ⟨⟨a, _, _, 0, hr, hts _ h2, rfl, rfl, rfl⟩, h3⟩, by simp [h4], fun v hv => ?_⟩
        rcases List.mem_cons.mp hv with rfl | hv
        · exact ⟨_, _, rfl⟩
        · exact h5 v hv
  exact key refs G h.length fun i k b e => h.at e
theorem range_getD {α : Type} (G : List α) (d : α) : (List.range G.length).map (fun i => G.getD i d) = G := by
  refine List.ext_getElem? fun i => ?_
  rw [List.getElem?_map]
  rcases Nat.lt_or_ge i G.length with h | h
  · rw [List.getElem?_range h, List.getElem?_eq_getElem h]
    simp [h]
  · rw [List.getElem?_eq_none (by simpa using h), List.getElem?_eq_none h]; rfl
theorem TupsIn.pick (h : TupsIn refs G ts) {p : List Nat} (hp : p.Perm (List.range G.length)) : TupsIn (p.map fun i => refs.getD i .none) (p.map fun i => G.getD i (0, [])) ts := by
  refine ⟨by simp, fun {i k b} e => ?_⟩
  rw [List.getElem?_map] at e
  obtain ⟨x, hx, e⟩ := Option.map_eq_some_iff.mp e
  have hlt : x < G.length := List.mem_range.mp (hp.mem_iff.mp (List.mem_of_getElem? hx))
  obtain ⟨a, t, u, h1, h2⟩ := h.at (i := x) (k := k) (b := b) (by rw [List.getElem?_eq_getElem hlt]; simpa [hlt] using e)
  refine ⟨a, t, u, ?_, h2⟩
  rw [List.getElem?_map, hx]
  show some (refs.getD x .none) = _
  rw [List.getD_eq_getElem?_getD, h1]; rfl
theorem run_sorted_tups {Q : Value → Loc → Led → Prop} (h : (l, lstObj refs kk) ∈ led) (hT : TupsIn refs G ts) (hts : ∀ p ∈ ts, p ∈ led) (hnd : (G.map (·.1)).Nodup) (hG : G.length ≤ 3)
    (hq : ∀ D refs' G' c, TupsIn refs' G' ts → G'.Perm G → (G'.map (·.1)).Pairwise (· ≤ ·) → Q (.ref D) loc ((D, lstObj refs' c) :: led)) : Run C (call (.builtin "sorted") [.ref l]) loc led Q := Run.any fun ok s st => by
  have hlen := hT.length
  rcases Nat.lt_or_ge refs.length 2 with hlt | hge
  · have hpw : (G.map (·.1)).Pairwise (· ≤ ·) := by
      match G, hlen with
      | [], _ => exact .nil
      | [p], _ => exact .cons (fun _ h => nomatch h) .nil
      | p :: q :: r, e => simp at e; omega
    refine Calls.call_function_entry kind_sorted plain_sorted entry_sorted (args_sorted1 _) ?_
    unfold Builtin.«sorted»
    refine wpAny_bind (m := checkCount "sorted" 1 1 _) (wpAny_pure ?_)
    refine wpAny_bind (collect_list (st.lst h) ?_ (by rw [sizeLine_eq]; omega))
    refine wpAny_bind (wpAny_newList ?_ (by rw [sizeLine_eq]; omega))
    have hsz : ((s.heap.push (seqObj "list" #[] 0)).update s.heap.objs.size (Obj.mapSeq (· ++ refs.toArray))).objs.size = s.heap.objs.size + 1 := by
      rw [Heap.size_update, size_push']
    have hoL : (((s.heap.push (seqObj "list" #[] 0)).update s.heap.objs.size (Obj.mapSeq (· ++ refs.toArray))).push (seqObj "list" refs.toArray 0)).get? (s.heap.objs.size + 1) = some (seqObj "list" refs.toArray 0) := by
      rw [← hsz]; exact Heap.get?_push_size _ rfl
    show wpAny _ _ _ _ _ { s with heap := ((s.heap.push (seqObj "list" #[] 0)).update s.heap.objs.size (Obj.mapSeq (· ++ refs.toArray))).push (seqObj "list" refs.toArray 0) }
    rw [hsz]
    have fin : ∃ loc' led', St C loc' led' { s with heap := sortedAll s.heap refs refs.toArray } ∧ Q (.ref (s.heap.objs.size + 1)) loc' led' := by
      obtain ⟨e, he⟩ := sortedAll_at s.heap refs refs.toArray
      have F2 := st.fr.kept (h' := sortedAll s.heap refs refs.toArray) fun _ _ => sortedAll_old
      have N2 := News.kept_cons (h' := sortedAll s.heap refs refs.toArray) st.fr st.nw (fun _ _ => sortedAll_old) (Nat.le_succ _) he
      have st2 := st.new (k := s.toks) F2 N2 fun p hp => Nat.ne_of_lt (Nat.lt_succ_of_lt (Heap.lt_size (st.nw p hp).1))
      exact ⟨_, _, st2, hq _ refs G e hT (.refl _) hpw⟩
    refine wpAny_bind (wpAny_holding (wpAny_call_entry slot_list_sort ⟨_, hoL, rfl⟩ entry_list_sort ?_ (args_list_sort _)))
    rw [list_sort_plain]
    refine wpAny_bind (listItems_at hoL rfl ?_)
    refine wpAny_bind (listUpdate_at hoL rfl ?_)
    generalize hH : ((s.heap.push (seqObj "list" #[] 0)).update s.heap.objs.size (Obj.mapSeq (· ++ refs.toArray))).push (seqObj "list" refs.toArray 0) = H at hoL fin ⊢
    have ha : s.heap.objs.size + 1 < H.objs.size := Heap.lt_size hoL
    obtain ⟨e1, ho1⟩ : ∃ e1, (H.update (s.heap.objs.size + 1) (Obj.mapSeq fun _ => #[])).get? (s.heap.objs.size + 1) = some (seqObj "list" #[] e1) := ⟨_, get?_update_seq hoL (fun _ => #[])⟩
    refine wpAny_bind (seqEpoch_at ho1 rfl ?_)
    refine wpAny_bind (wpAny_newTuple ?_)
    refine wpAny_bind (wpAny_newList ?_)
    refine wpAny_holding ?_
    have ho6 : (((H.update (s.heap.objs.size + 1) (Obj.mapSeq fun _ => #[])).push (seqObj "tuple" refs.toArray 0)).push (seqObj "list" #[] 0)).get? (s.heap.objs.size + 1) = some (seqObj "list" #[] e1) := by
      rw [Heap.get?_push_ne _ _ _ (by rw [size_push', Heap.size_update]; exact Nat.ne_of_lt (Nat.lt_succ_of_lt ha)), Heap.get?_push_ne _ _ _ (by rw [Heap.size_update]; exact Nat.ne_of_lt ha)]
      exact ho1
    dsimp only
    have h2 : refs.toArray.size < 2 := by simpa using hlt
    rw [if_pos h2, if_pos h2]
    refine wpAny_bind (wpAny_pure ?_)
    rw [StateT.run_pure]
    refine wpAny_bind (wpAny_pure ?_)
    dsimp only
    refine wpAny_bind (seqEpoch_at ho6 rfl ?_)
    refine wpAny_bind (listUpdate_at ho6 rfl ?_ (hsz2 := by rw [Array.size_map]; show (pairsOf refs).size ≤ _; rw [pairsOf_size, sizeLine_eq]; omega))
    have hout : Array.map (fun x : Keyed => x.2) (arrOf (SortSt.mk' general' (refs.toArray.zip refs.toArray) #[] 7 none)) = refs.toArray := by
      show Array.map (fun x : Keyed => x.2) (refs.toArray.zip refs.toArray) = refs.toArray
      apply Array.toList_inj.mp
      simp only [Array.toList_map, Array.toList_zip]
      exact List.map_snd_zip (Nat.le_refl _)
    simp only [bne_self_eq_false, Bool.false_eq_true, if_false]
    rw [hout]
    subst hH
    exact wpAny_pure ⟨_, rfl, wpAny_pure ⟨_, rfl, fin⟩⟩
  · refine kat_sorted st.fr st.nw (st.lst h) hge (by omega) fun D e1 h' F' N' lt => ?_
    have hh : ∀ p ∈ ts, h'.get? p.1 = some p.2 := fun p hp => (N' p (.tail _ (hts p hp))).1
    obtain ⟨fs, hf1, hf2, hf3⟩ := hT.firsts hh
    refine kat_kind (T := .type "int") hf1 (by omega) (fun v hv => ?_) rfl ?_
    · obtain ⟨k, t, rfl⟩ := hf3 v hv
      exact Looks.of_pure rfl
    have hks : (G.map (·.1)).length = refs.length := by rw [List.length_map, hlen]
    obtain ⟨g1, g2, g3⟩ := sort_small hnd (by omega) (by rw [List.length_map]; exact hG)
    rw [hks] at g1 g2 g3
    refine kRun_wp (lt := fun i j => decide ((G.map (·.1)).getD i 0 < (G.map (·.1)).getD j 0)) (n := refs.length) (fun i j Cc hi hj hij hC => ?_) _ g1 ?_
    · have hi' : i < G.length := by omega
      have hj' : j < G.length := by omega
      obtain ⟨ai, ti, ui, h1, h2⟩ := hT.at (i := i) (k := (G[i]).1) (b := (G[i]).2) (by rw [List.getElem?_eq_getElem hi'])
      obtain ⟨aj, tj, uj, h3, h4⟩ := hT.at (i := j) (k := (G[j]).1) (b := (G[j]).2) (by rw [List.getElem?_eq_getElem hj'])
      have ei : (G.map (·.1)).getD i 0 = (G[i]).1 := by rw [List.getD_eq_getElem?_getD, List.getElem?_map, List.getElem?_eq_getElem hi']; rfl
      have ej : (G.map (·.1)).getD j 0 = (G[j]).1 := by rw [List.getD_eq_getElem?_getD, List.getElem?_map, List.getElem?_eq_getElem hj']; rfl
      have hne : (G[i]).1 ≠ (G[j]).1 := fun q => by
        refine hij ((List.getElem?_inj (l := G.map (·.1)) (by rw [List.length_map]; exact hi') hnd).mp ?_)
        rw [List.getElem?_map, List.getElem?_map, List.getElem?_eq_getElem hi', List.getElem?_eq_getElem hj']
        show some (G[i]).1 = some (G[j]).1
        rw [q]
      rw [ei, ej] at hC
      unfold kas_ask
      rw [List.getD_eq_getElem?_getD, List.getD_eq_getElem?_getD, h1, h3]
      refine kat_lt (hh _ h2) rfl (hh _ h4) rfl (kat_cons (wpAny_eqBool_int ?_))
      rw [beq_false_of_ne hne]
      exact kat_no (oneLt_int hC)
    · refine KasFin.intro F' N' (.head fun p hp => Nat.ne_of_lt (lt p hp)) fun h2 c F2 N2 => ?_
      have st2 := st.new (k := s.toks) F2 N2 fun p hp => Nat.ne_of_lt (lt p hp)
      have er : List.range refs.length = List.range G.length := by rw [hlen]
      rw [er] at g2
      have hT2 := hT.pick g2
      refine ⟨_, _, st2, hq D _ _ c hT2 ?_ ?_⟩
      · have := g2.map fun i => G.getD i (0, [])
        rw [range_getD] at this
        exact this
      · rw [List.map_map, List.pairwise_map]
        refine g3.imp_of_mem fun {a b} ha hb hab => ?_
        have ha' : a < G.length := List.mem_range.mp (g2.mem_iff.mp ha)
        have hb' : b < G.length := List.mem_range.mp (g2.mem_iff.mp hb)
        have := of_decide_eq_true hab
        have ea : ∀ x < G.length, (G.map (·.1)).getD x 0 = (G.getD x (0, [])).1 := fun x hx => by
          rw [List.getD_eq_getElem?_getD, List.getElem?_map, List.getD_eq_getElem?_getD, List.getElem?_eq_getElem hx]; rfl
        rw [ea a ha', ea b hb'] at this
        exact Int.le_of_lt this
end

/-! G20 -/



section
variable {prog : Program} {w : World}
/-- the names told by the first rows -/
def told (l : List UInt8) : Nat → List Int
  | 0 => []
  | i + 1 => told l i ++ (if byteAt l (108 + i) = 0 then [] else [byteAt l (108 + i)])
def taken (l : List UInt8) (cs : Nat → List Nat) : Nat → List Nat
  | 0 => []
  | i + 1 => taken l cs i ++ (if byteAt l (108 + i) = 0 then [] else cs i)
def usedL (l : List UInt8) : List Nat := (List.range 6).filter fun k => byteAt l (80 + k) != 0
theorem told_mem {l : List UInt8} {a : Int} : ∀ {i : Nat}, a ∈ told l i → ∃ j < i, byteAt l (108 + j) = a
  | 0, h => by cases h
  | i + 1, h => by
    rcases List.mem_append.mp h with h | h
    · obtain ⟨j, h1, h2⟩ := told_mem h
      exact ⟨j, by omega, h2⟩
    · split at h
      · cases h
      · exact ⟨i, by omega, (List.mem_singleton.mp h).symm⟩
/-- the octets that a row's file reads as -/
def fileB (l : List UInt8) (bs : List Nat) (j : Nat) : List UInt8 := ((cont l bs).take (l.getD (92 + j) 0).toNat).map fun n => n.toNat.toUInt8
structure Fine (l : List UInt8) (F : Files) (cs : Nat → List Nat) : Prop where
  len : l.length = 112
  ch : ∀ j < 3, Ch l (byteAt l (100 + j)) (cs j)
  small : ∀ j < 3, (cs j).length ≤ 7
  inj : ∀ i < 3, ∀ j < 3, byteAt l (108 + i) = byteAt l (108 + j) → byteAt l (108 + i) ≠ 0 → i = j
  cnt : (told l 3).length = F.length
  own : ∀ j < 3, byteAt l (108 + j) ≠ 0 → look F (byteAt l (108 + j)) = some (fileB l (cs j) j)
section
variable {x dx ba ra d : Addr} {p : Int} {tp a0 a1 a2 a3 a4 : Tok} {l : List UInt8} {kr : Nat} {o : Obj} {F : Files} {cs : Nat → List Nat}
theorem Run.nm {α : Type} {C : Cx} {loc : Loc} {led : Led} {t : Sem α} {Q : α → Loc → Led → Prop} (h : C.names = loc.map (·.1) → Run C t loc led Q) : Run C t loc led Q := fun ok s st => h st.nm.symm ok s st
theorem look_key {F : Files} {k : Int} {c : List UInt8} (h : look F k = some c) : k ∈ F.map (·.1) := by
  unfold look at h
  obtain ⟨p, h1, h2⟩ := Option.map_eq_some_iff.mp h
  have := List.find?_some h1
  have e : p.1 = k := by simpa using this
  exact e ▸ List.mem_map_of_mem (f := (·.1)) (List.mem_of_find?_eq_some h1)
theorem c_sound (hd : FD prog w d o F) (hF : F.length ≤ 10) (hf : Fine l F cs) : CallP prog w (myK w.params) (.ref 835) [.ref x, .ref ra, .ref d] [] 6 ((d, o) :: (ra, lstObj (rwL a0 a1 a2 a3 a4) kr) :: tLed x dx ba p tp l)
    (fun q led' => (∃ ns : List Int, ns.Perm (natsI (taken l cs 3)) ∧ ns.Pairwise (· ≤ ·) ∧ q = .bool (decide (ns = natsI (usedL l)))) ∧ led' = (d, o) :: (ra, lstObj (rwL a0 a1 a2 a3 a4) kr) :: tLed x dx ba p tp l) := by
  have hl := hf.len
  refine CallP.fn1 (binds := [("t", .ref x), ("rows", .ref ra), ("files", .ref d)]) (loc0 := [("files", none), ("taken", none), ("told", none), ("j", none), ("name", none), ("used", none)]) (loc := [("files", some (.ref d)), ("taken", none), ("told", none), ("j", none), ("name", none), ("used", none)]) (cloc0 := [("rows", none), ("t", none)]) (cloc := [("rows", some (.ref ra)), ("t", some (.ref x))]) [("t", .cell), ("rows", .cell), ("files", .local), ("taken", .local), ("told", .local), ("j", .local), ("name", .local), ("used", .local), ("range", .globalImplicit), ("_law_at", .globalImplicit), ("_law_content", .globalImplicit), ("_law_chain", .globalImplicit), ("len", .globalImplicit), ("sorted", .globalImplicit)] ["files", "taken", "told", "j", "name", "used"] ["rows", "t"] (by k_is) (by k_is) rfl (fun s X => BindsTo.of_eq rfl) (by decide +kernel) rfl rfl rfl (by walk_at "binds") (by walk_at "bindsc") rfl rfl rfl fun C cells led hC hcl happ => ?_
  have h_b_range := @b_range w.params
  have h_g__law_at := @g__law_at w.params
  have h_k_792 := @k_792 w.params
  have h_g__law_content := @g__law_content w.params
  have h_k_818 := @k_818 w.params
  have h_g__law_chain := @g__law_chain w.params
  have h_k_813 := @k_813 w.params
  have h_b_len := @b_len w.params
  have h_b_sorted := @b_sorted w.params
  refine Run.post fun Qf hQf => ?_
  cases hcl with | @cons _ _ c1 o1 _ _ hl1 hd1 hcl => ?_
  cases hcl with | @cons _ _ c2 o2 _ _ hl2 hd2 hcl => ?_
  cases hcl
  cases happ with | cons happ => ?_
  cases happ with | cons happ => ?_
  cases happ
  refine run_execs ?_
  walk_at "rs"
  refine run_List ?_
  walk_at "rs"
  refine run_newLst rfl fun tk => ?_
  walk_at "rs"
  refine run_List ?_
  walk_at "rs"
  refine run_newLst rfl fun td => ?_
  walk_at "rs"
  refine run_For ?_
  refine run_Call ?_
  walk_at "rs"
  refine run_callWith keeps_type ?_
  walk_at "rs"
  refine run_range1 fun rg t1 t2 t3 => ?_
  walk_at "rs"
  refine run_iter_range (by walk_at "mem") rfl fun it => ?_
  refine RunC.drop (keep := (it, _) :: (rg, _) :: (td, lstObj [] _) :: (tk, lstObj [] _) :: (c1, o1) :: (c2, o2) :: (d, o) :: (ra, lstObj (rwL a0 a1 a2 a3 a4) kr) :: tLed x dx ba p tp l) (by walk_at "pick") ?_
  refine RunC.forR (iterRange it 0 1 3) (fun i loc led => ∃ (tk : Addr) (vt vd : List Value) (kt kd : Nat) (jv nv : Option Value) (ro : Obj), IntsAre vt (natsI (taken l cs i)) ∧ IntsAre vd (told l i) ∧ (taken l cs i).length ≤ 7 * i ∧ (told l i).length ≤ i ∧
    loc = ([("files", some (.ref d)), ("taken", some (.ref tk)), ("told", some (.ref td)), ("j", jv), ("name", nv), ("used", none)] : Loc) ∧
    led = (rg, ro) :: (td, lstObj vd kd) :: (tk, lstObj vt kt) :: (c1, o1) :: (c2, o2) :: (d, o) :: (ra, lstObj (rwL a0 a1 a2 a3 a4) kr) :: tLed x dx ba p tp l) ?_ ?_ ?_ _ 0 _ _ _ rfl (Nat.zero_le _) rfl
    ⟨tk, [], [], _, _, none, none, _, .nil, .nil, Nat.le_refl _, Nat.le_refl _, rfl, rfl⟩
  · intro i _ _ _
    trivial
  · rintro Qt hQt i ti o' loc0 led0 hlt hP hI0
    refine ex8 hI0 (fun tk vt vd kt kd jv nv ro hI1 => ?_)
    clear hI0
    refine andL4 hI1 (fun h1 h2 h3 h4 => ?_)
    clear hI1
    refine ⟨_, by walk_at "setl", ?_⟩
    refine run_execs ?_
    walk_at "rs"
    refine run_Call ?_
    walk_at "rs"
    refine run_callWith (keeps_ref hC (by assumption)) ?_
    walk_at "rs"
    refine run_sub ?_
    walk_at "rs"
    refine run_py_list (by walk_at "mem") ⟨rfl, ?_⟩
    refine run_get_list (its := rwL a0 a1 a2 a3 a4) (by walk_at "mem") (by decide) (by decide) rfl ?_
    walk_at "rs"
    refine run_callI hC (c_at (l := l) (r := 108) (j := i) (by omega) (by omega)) rfl (by walk_at "pick") fun t5 => ?_
    walk_at "rs"
    by_cases hz : byteAt l (108 + i) = 0
    · refine run_IfF ?_
      walk_at "rs"
      refine ⟨by rw [hz]; rfl, ?_⟩
      walk_at "rs"
      refine hQt _ _ _ _ ?_
      dsimp only [Turn]
      refine ⟨o', _, _, by walk_at "pick", hP, tk, vt, vd, kt, kd, _, _, ro, ?_, ?_, ?_, ?_, rfl, rfl⟩
      · rw [taken, if_pos hz, List.append_nil]; exact h1
      · rw [told, if_pos hz, List.append_nil]; exact h2
      · rw [taken, if_pos hz, List.append_nil]; omega
      · rw [told, if_pos hz, List.append_nil]; omega
    · refine run_IfT ?_
      walk_at "rs"
      refine ⟨bne_iff_ne.mpr hz, ?_⟩
      have hown := hf.own i hlt hz
      refine run_execs (run_IfF (run_isOrF ?_))
      walk_at "rs"
      refine run_in_list (by walk_at "mem") h2 ?_
      walk_at "rs"
      refine ⟨?_, run_isOrF ?_⟩
      · rw [List.any_eq_false]
        intro a ha
        obtain ⟨j, hj, e⟩ := told_mem ha
        intro hab
        have hab := beq_iff_eq.mp hab
        have := hf.inj j (by omega) i hlt (by rw [e]; exact hab) (by rw [e, hab]; exact hz)
        omega
      walk_at "rs"
      refine run_notin_dict hC (by walk_at "mem") hd ?_
      walk_at "rs"
      refine ⟨by rw [decide_eq_true (look_key hown)]; rfl, run_isOrF ?_⟩
      walk_at "rs"
      refine run_Call ?_
      walk_at "rs"
      refine run_callWith (keeps_ref hC (by assumption)) ?_
      walk_at "rs"
      refine run_call0 hC (c_content (l := l) (j := i) (bs := cs i) hl hlt (hf.ch i hlt) (hf.small i hlt)) rfl (by walk_at "pick") fun rv hv => ?_
      obtain ⟨t6, rfl⟩ := hv
      walk_at "rs"
      refine run_sub ?_
      walk_at "rs"
      refine run_py_dict hC (by walk_at "mem") hd ⟨rfl, ?_⟩
      refine run_get_dict hC (by walk_at "mem") hd hown fun u => ?_
      walk_at "rs"
      refine run_ne_bytes ?_
      walk_at "rs"
      refine ⟨by unfold fileB; simp, ?_⟩
      refine run_isOr0 ⟨rfl, ?_⟩
      walk_at "rs"
      refine run_ExprC (run_Method ?_)
      walk_at "rs"
      intro pl
      refine run_meth_append (by walk_at "mem") (run_callWith keeps_builtin ?_)
      walk_at "rs"
      have hz1 := h1.length
      have hz2 := h2.length
      have hsm := hf.small i hlt
      rw [List.length_map] at hz1
      refine run_append (items := vd) (by walk_at "put") (by omega) ?_
      walk_at "rs"
      refine run_Call ?_
      walk_at "rs"
      refine run_callWith (keeps_ref hC (by assumption)) ?_
      walk_at "rs"
      refine run_call hC (c_chain (l := l) (j := i) (bs := cs i) hl hlt (hf.ch i hlt) hsm) rfl (by walk_at "pick") ?_
      rintro _ _ ⟨c, vs, k, rfl, hi, rfl⟩
      refine ⟨_, by walk_at "app", ?_⟩
      have hz3 := hi.length
      rw [List.length_map] at hz3
      walk_at "rs"
      refine run_add_lists (its := vt) (ws := vs) (k := kt) (k2 := k) (by walk_at "mem") (by walk_at "mem") (by omega) fun c9 => ?_
      walk_at "rs"
      refine hQt _ _ _ _ ?_
      dsimp only [Turn]
      refine ⟨o', _, _, by walk_at "pick", hP, c9, vt ++ vs, vd ++ [.int (byteAt l (108 + i)) t5], 0, kd + 1, _, _, ro, ?_, ?_, ?_, ?_, rfl, rfl⟩
      · rw [taken, if_neg hz]; simpa [natsI] using h1.append hi
      · rw [told, if_neg hz]; exact h2.append (.cons _ _ .nil)
      · rw [taken, if_neg hz, List.length_append]; omega
      · rw [told, if_neg hz, List.length_append]; simp; omega
  · rintro loc0 led0 hI0
    refine ex8 hI0 (fun tk vt vd kt kd jv nv ro hI1 => ?_)
    clear hI0
    refine andL4 hI1 (fun h1 h2 h3 h4 => ?_)
    clear hI1
    walk_at "rs"
    refine Run.nm fun hnm => ?_
    walk_at "fbacomp"
    case y => rw [hnm]; simp only [List.map_cons, List.map_nil]; decide +kernel
    refine run_Call ?_
    walk_at "rs"
    refine run_callWith keeps_type ?_
    walk_at "rs"
    refine run_range1 fun rg2 t4 t5 t6 => ?_
    walk_at "rs"
    refine run_iter_range (by walk_at "mem") rfl fun it2 D C2 hC2 hcl2 => ?_
    have hq_t : C2.env.cells.lookup (Str.ofString "t") = some c2 := by rw [hcl2]; rfl
    have hq_rows : C2.env.cells.lookup (Str.ofString "rows") = some c1 := by rw [hcl2]; rfl
    refine RunC.compGo1T (iterRange it2 0 1 6) (fun i2 items led => ∃ ro2 : Obj, IntsAre items (natsI ((List.range i2).filter fun k => byteAt l (80 + k) != 0)) ∧ i2 ≤ 6 ∧
      led = (rg2, ro2) :: (rg, ro) :: (td, lstObj vd kd) :: (tk, lstObj vt kt) :: (c1, o1) :: (c2, o2) :: (d, o) :: (ra, lstObj (rwL a0 a1 a2 a3 a4) kr) :: tLed x dx ba p tp l) ?_ ?_ ?_ ?_ rfl ⟨_, .nil, by omega, rfl⟩
    · rintro i2 items k2 _ ⟨ro2, h5, h6, rfl⟩
      trivial
    · rintro i2 items _ ⟨ro2, h5, h6, rfl⟩
      have h7 := h5.length
      have h8 := List.length_filter_le (fun k => byteAt l (80 + k) != 0) (List.range i2)
      simp at h7 h8; omega
    · rintro Qt Qe hQt hQe i2 v2 o2' k2 items _ hlt2 hv2 hP2 ⟨ro2, h5, h6, rfl⟩
      obtain ⟨ti2, rfl⟩ := rng0 hv2
      refine run_isCmp1 ?_
      refine run_Call ?_
      walk_at "rs"
      refine run_callWith (keeps_ref hC2 (by assumption)) ?_
      walk_at "rs"
      refine run_sub ?_
      walk_at "rs"
      refine run_py_list (by walk_at "mem") ⟨rfl, ?_⟩
      refine run_get_list (its := rwL a0 a1 a2 a3 a4) (by walk_at "mem") (by decide) (by decide) rfl ?_
      walk_at "rs"
      refine run_callI hC2 (c_at (l := l) (r := 80) (j := i2) (by omega) (by omega)) rfl (by walk_at "pick") fun t5 => ?_
      walk_at "rs"
      refine ⟨fun hz => ?_, fun hz => ?_⟩
      · skip
        walk_at "rs"
        first
        | refine hQt _ _ _ _ _ _ ⟨rfl, o2', _, _, _, by walk_at "pick", hP2, ro2, ?_, by omega, rfl⟩
        | refine hQe _ _ _ _ _ ⟨rfl, o2', _, _, _, by walk_at "pick", hP2, ro2, ?_, by omega, rfl⟩
        rw [List.range_succ, List.filter_append]
        simp only [List.filter_cons, hz, if_true, List.filter_nil]
        simpa [natsI] using h5.append (.cons (i2 : Int) ti2 .nil)
      · skip
        first
        | refine hQt _ _ _ _ _ _ ⟨rfl, o2', _, _, _, by walk_at "pick", hP2, ro2, ?_, by omega, rfl⟩
        | refine hQe _ _ _ _ _ ⟨rfl, o2', _, _, _, by walk_at "pick", hP2, ro2, ?_, by omega, rfl⟩
        rw [List.range_succ, List.filter_append]
        simp only [List.filter_cons, hz, List.filter_nil]
        simpa [natsI] using h5
    · rintro k2 ov2 items _ ⟨ro2, h5, h6, rfl⟩
      refine ⟨_, by walk_at "setl", ?_⟩
      have hz1 := h1.length
      have hz2 := h2.length
      rw [List.length_map] at hz1
      walk_at "rs"
      refine run_And2 ?_
      walk_at "rs"
      refine run_Call ?_
      walk_at "rs"
      refine run_callWith keeps_builtin ?_
      walk_at "rs"
      refine run_len_list (its := vd) (k := kd) (by walk_at "mem") (by omega) fun t7 => ?_
      walk_at "rs"
      refine run_Call ?_
      walk_at "rs"
      refine run_callWith keeps_builtin ?_
      walk_at "rs"
      refine run_len_dict hC (by walk_at "mem") hd (by omega) fun t8 => ?_
      walk_at "rs"
      rw [if_pos (by rw [hz2, hf.cnt]; exact beq_self_eq_true _)]
      walk_at "rs"
      refine run_Call ?_
      walk_at "rs"
      refine run_callWith keeps_builtin ?_
      walk_at "rs"
      refine run_sorted_ints (vs := vt) (by walk_at "mem") h1 (by rw [List.length_map]; omega) fun D2 vs' ns' c' hi' hpm hpw => ?_
      walk_at "rs"
      refine run_eq_lists (by walk_at "mem") hi' (by walk_at "mem") h5 ?_
      walk_at "rs"
      exact hQf _ _ _ ⟨_, _, by walk_at "pick", ⟨ns', hpm, hpw, rfl⟩, rfl⟩
end
end

/-! G21 -/



section
variable {prog : Program} {w : World}
/-- the rows of an image, while they are filled -/
structure Img where
  nm : List Int
  hd : List Int
  sz : List Int
  ch : List Int
  dt : List Int
  bk : Nat
def dataI (dt : List Int) (bk : Nat) (c : List UInt8) : Nat → List Int
  | 0 => dt
  | i + 1 => (dataI dt bk c i).set (4 * bk + i) ((c.getD i 0).toNat : Int)
def chainI (ch : List Int) (bk many : Nat) : Nat → List Int
  | 0 => ch
  | i + 1 => (chainI ch bk many i).set (bk + i) (if i + 1 < many then (bk : Int) + i + 2 else 255)
def imgStep (s : Img) (j : Nat) (p : Int × List UInt8) : Img :=
  ⟨s.nm.set j p.1, s.hd.set j (if 0 < needN p.2 then (s.bk : Int) + 1 else 0), s.sz.set j (p.2.length : Int), chainI s.ch s.bk (needN p.2) (needN p.2), dataI s.dt s.bk p.2 p.2.length, s.bk + needN p.2⟩
def imgS (G : Files) : Nat → Img
  | 0 => ⟨[0, 0, 0], [0, 0, 0], [0, 0, 0], [0, 0, 0, 0, 0, 0], List.replicate 24 0, 0⟩
  | j + 1 => match G[j]? with
    | some p => imgStep (imgS G j) j p
    | none => imgS G j
theorem dataI_length (dt : List Int) (bk : Nat) (c : List UInt8) : ∀ i, (dataI dt bk c i).length = dt.length
  | 0 => rfl
  | i + 1 => by rw [dataI, List.length_set, dataI_length]
theorem chainI_length (ch : List Int) (bk many : Nat) : ∀ i, (chainI ch bk many i).length = ch.length
  | 0 => rfl
  | i + 1 => by rw [chainI, List.length_set, chainI_length]
def Img.row (s : Img) : Nat → List Int
  | 0 => s.nm
  | 1 => s.hd
  | 2 => s.sz
  | 3 => s.ch
  | _ => s.dt
def rO (s : Img) : Nat → List UInt8
  | 0 => []
  | i + 1 => rowOut (s.row i) (rO s i)
structure Img.Ok (s : Img) : Prop where
  n : s.nm.length = 3
  h : s.hd.length = 3
  z : s.sz.length = 3
  c : s.ch.length = 6
  d : s.dt.length = 24
theorem imgS_ok (G : Files) : ∀ j, (imgS G j).Ok
  | 0 => ⟨rfl, rfl, rfl, rfl, rfl⟩
  | j + 1 => by
    have ih := imgS_ok G j
    rw [imgS]
    split
    · exact ⟨by simp [imgStep, ih.n], by simp [imgStep, ih.h], by simp [imgStep, ih.z], by simp [imgStep, chainI_length, ih.c], by simp [imgStep, dataI_length, ih.d]⟩
    · exact ih
theorem mem_set_in {l : List Int} {i : Nat} {a : Int} {P : Int → Prop} (hl : ∀ n ∈ l, P n) (ha : P a) : ∀ n ∈ l.set i a, P n := fun n hn => by
  rcases List.mem_or_eq_of_mem_set hn with h | h
  · exact hl n h
  · exact h ▸ ha
theorem dataI_in {dt : List Int} {bk : Nat} {c : List UInt8} (h : ∀ n ∈ dt, 0 ≤ n ∧ n ≤ 255) : ∀ i, ∀ n ∈ dataI dt bk c i, 0 ≤ n ∧ n ≤ 255
  | 0 => h
  | i + 1 => mem_set_in (dataI_in h i) (by have := (c.getD i 0).toNat_lt; omega)
theorem chainI_in {ch : List Int} {bk many : Nat} (h : ∀ n ∈ ch, 0 ≤ n ∧ n ≤ 255) (hb : bk + many ≤ 100) : ∀ i, ∀ n ∈ chainI ch bk many i, 0 ≤ n ∧ n ≤ 255
  | 0 => h
  | i + 1 => mem_set_in (chainI_in h hb i) (by split <;> omega)
theorem imgS_bk (G : Files) : ∀ j, (imgS G j).bk = ((G.take j).map fun p => needN p.2).sum
  | 0 => rfl
  | j + 1 => by
    have ih := imgS_bk G j
    rw [imgS]
    split
    · rename_i p hp
      rw [take_snoc hp, List.map_append, List.sum_append]
      simp [imgStep, ih]
    · rename_i hp
      rw [ih, List.take_of_length_le (List.getElem?_eq_none_iff.mp hp), List.take_of_length_le (by have := List.getElem?_eq_none_iff.mp hp; omega)]
theorem sum_take_le (l : List Nat) : ∀ i, (l.take i).sum ≤ l.sum := by
  induction l with
  | nil => intro i; simp
  | cons a l ih =>
    intro i
    cases i with
    | zero => simp
    | succ i => have := ih i; simp; omega
theorem imgS_room {G : Files} (h6 : (G.map fun p => needN p.2).sum ≤ 6) {j : Nat} {p : Int × List UInt8} (hp : G[j]? = some p) : (imgS G j).bk + needN p.2 ≤ 6 := by
  have h := sum_take_le (G.map fun p => needN p.2) (j + 1)
  rw [← List.map_take, take_snoc hp, List.map_append, List.sum_append] at h
  rw [imgS_bk]
  simp only [List.map_cons, List.map_nil, List.sum_cons, List.sum_nil, Nat.add_zero, List.map_take] at h ⊢
  omega
theorem need4 (c : List UInt8) : c.length ≤ 4 * needN c := by unfold needN; omega
theorem ints_set {vs : List Value} {ns : List Int} (h : IntsAre vs ns) (i : Nat) (n : Int) (t : Tok) : IntsAre (vs.set i (.int n t)) (ns.set i n) := by
  induction h generalizing i with
  | nil => exact .nil
  | cons a u h ih =>
    cases i with
    | zero => exact .cons n t h
    | succ i => exact .cons a u (ih i)
theorem Run.val {C : Cx} {loc : Loc} {led : Led} {t : Sem Value} {P : Value → Prop} {Q : Value → Loc → Led → Prop} (h : Run C t loc led (fun v l d => P v ∧ l = loc ∧ d = led)) (hq : ∀ v, P v → Q v loc led) : Run C t loc led Q := h.mono (by rintro v _ _ ⟨hp, rfl, rfl⟩; exact hq v hp)
theorem imgS_in {G : Files} (hk : ∀ p ∈ G, 0 ≤ p.1 ∧ p.1 ≤ 255 ∧ p.2.length ≤ 13) (h6 : (G.map fun p => needN p.2).sum ≤ 6) : ∀ j i, ∀ n ∈ (imgS G j).row i, 0 ≤ n ∧ n ≤ 255
  | 0, i => by
    match i with
    | 0 => show ∀ n ∈ [(0 : Int), 0, 0], 0 ≤ n ∧ n ≤ 255; decide
    | 1 => show ∀ n ∈ [(0 : Int), 0, 0], 0 ≤ n ∧ n ≤ 255; decide
    | 2 => show ∀ n ∈ [(0 : Int), 0, 0], 0 ≤ n ∧ n ≤ 255; decide
    | 3 => show ∀ n ∈ [(0 : Int), 0, 0, 0, 0, 0], 0 ≤ n ∧ n ≤ 255; decide
    | _ + 4 => show ∀ n ∈ List.replicate 24 (0 : Int), 0 ≤ n ∧ n ≤ 255; decide
  | j + 1, i => by
    have ih := imgS_in hk h6 j
    rw [imgS]
    split
    · rename_i p hp
      have hr := imgS_room h6 hp
      obtain ⟨k0, k1, k2⟩ := hk p (List.mem_of_getElem? hp)
      match i with
      | 0 => exact mem_set_in (ih 0) ⟨k0, k1⟩
      | 1 => exact mem_set_in (ih 1) (by split <;> omega)
      | 2 => exact mem_set_in (ih 2) (by omega)
      | 3 => exact chainI_in (ih 3) (by omega) _
      | _ + 4 => exact dataI_in (ih 4) _
    · exact ih i
theorem rO_length {s : Img} (h : s.Ok) : (rO s 1).length = 8 ∧ (rO s 2).length = 16 ∧ (rO s 3).length = 24 ∧ (rO s 4).length = 36 ∧ (rO s 5).length = 64 := by
  have key : ∀ i, (rO s (i + 1)).length = 4 + ((s.row i).length + (padI ((rO s i).length + (s.row i).length) 4 + (rO s i).length)) := fun i => by
    show (leI 4 _ ++ (rowB _ ++ addV _ _)).length = _
    rw [List.length_append, List.length_append, leI_length, rowB_length, addV, List.length_append, List.length_replicate]
  have e1 : (rO s 1).length = 8 := by rw [key 0, show (s.row 0).length = 3 from h.n]; rfl
  have e2 : (rO s 2).length = 16 := by rw [key 1, e1, show (s.row 1).length = 3 from h.h]; rfl
  have e3 : (rO s 3).length = 24 := by rw [key 2, e2, show (s.row 2).length = 3 from h.z]; rfl
  have e4 : (rO s 4).length = 36 := by rw [key 3, e3, show (s.row 3).length = 6 from h.c]; rfl
  have e5 : (rO s 5).length = 64 := by rw [key 4, e4, show (s.row 4).length = 24 from h.d]; rfl
  exact ⟨e1, e2, e3, e4, e5⟩
theorem Pick.ofPerm : ∀ {l2 l rest : Led}, l.Perm (l2 ++ rest) → ∃ rest', Pick l l2 rest'
  | [], l, rest, h => ⟨l, .nil⟩
  | e :: l2, l, rest, h => by
    have hm : e ∈ l := h.mem_iff.mpr (.head _)
    have key : ∀ l : Led, e ∈ l → ∃ l', Rem e l l' := fun l hm => by
      induction l with
      | nil => cases hm
      | cons x l ih =>
        rcases List.mem_cons.mp hm with rfl | hm
        · exact ⟨l, .here⟩
        · obtain ⟨l', h'⟩ := ih hm
          exact ⟨x :: l', .there h'⟩
    obtain ⟨l', hr⟩ := key l hm
    obtain ⟨rest', hp⟩ := Pick.ofPerm (l2 := l2) (List.Perm.cons_inv (hr.perm.symm.trans h))
    exact ⟨rest', .cons hr hp⟩
theorem Pick.exSub {l l1 l2 rest : Led} {R : Prop} (h : Pick l l1 rest) (hp : l1.Perm l2) (hR : R) : ∃ rest', Pick l l2 rest' ∧ R := by
  obtain ⟨rest', h'⟩ := Pick.ofPerm (h.perm.trans (hp.append_right rest))
  exact ⟨rest', h', hR⟩
theorem intsRep (t : Tok) : ∀ n : Nat, IntsAre (List.replicate n [Value.int 0 t]).flatten (List.replicate n 0)
  | 0 => .nil
  | n + 1 => by
    rw [List.replicate_succ, List.flatten_cons, List.replicate_succ]
    exact .cons 0 t (intsRep t n)
theorem its5 {its : List Value} (hl : its.length = 5) (h : ∀ q < 5, ∃ t, its[q]? = some (.int (68 + 4 * (q : Nat)) t)) : ∃ t0 t1 t2 t3 t4, its = [.int 68 t0, .int 72 t1, .int 76 t2, .int 80 t3, .int 84 t4] := by
  match its, hl with
  | [a, b, c, d, e], _ =>
    obtain ⟨t0, h0⟩ := h 0 (by decide)
    obtain ⟨t1, h1⟩ := h 1 (by decide)
    obtain ⟨t2, h2⟩ := h 2 (by decide)
    obtain ⟨t3, h3⟩ := h 3 (by decide)
    obtain ⟨t4, h4⟩ := h 4 (by decide)
    cases h0; cases h1; cases h2; cases h3; cases h4
    exact ⟨t0, t1, t2, t3, t4, rfl⟩
theorem finOut_length {o : List UInt8} (ho : o.length = 102) : (finOut o).length = 112 := by
  have h4 : (idOut 4 (List.replicate 2 0 ++ o)).length = 108 := by simp [idOut, leI_length, ho]
  unfold finOut addR
  rw [List.length_append, leI_length, List.length_append, List.length_replicate, h4]
  rfl
/-- the table, slot by slot -/
def tO (s : Img) : Nat → List UInt8
  | 0 => rO s 5
  | j + 1 => addR (rO s (j + 1)).length (tO s j)
theorem tO_length {s : Img} (h : s.Ok) : ∀ j, (tO s j).length = 64 + 4 * j
  | 0 => (rO_length h).2.2.2.2
  | j + 1 => by
    have ih := tO_length h j
    show (addR _ _).length = _
    unfold addR
    rw [List.length_append, leI_length, List.length_append, List.length_replicate, ih]
    have : padI (64 + 4 * j + 0) 4 = 0 := by unfold padI; omega
    rw [this]
    omega
/-- the image of these files -/
def imgB (G : Files) : List UInt8 := finOut (endOut (tO (imgS G G.length) 5))
section
variable {L : Addr} {tf : Tok} {refs : List Value} {kL : Nat} {G : Files} {ts : Led} {first : Nat}
theorem c_image (hT : TupsIn refs G ts) (hG : G.length ≤ 3) (hk : ∀ p ∈ G, 0 ≤ p.1 ∧ p.1 ≤ 255 ∧ p.2.length ≤ 13) (h6 : (G.map fun p => needN p.2).sum ≤ 6) (hf : first ≤ 100) :
    CallP prog w (myK w.params) (.ref 780) [.int first tf, .ref L] [] 7 ((L, lstObj refs kL) :: ts)
    (fun r led' => ∃ c, r = .ref c ∧ led' = [(c, baObj (imgB G))]) := by
  have hlen := hT.length
  refine CallP.fn1 (binds := [("first", .int first tf), ("files", .ref L)]) (loc0 := [("first", none), ("files", none), ("names", none), ("heads", none), ("sizes", none), ("chain", none), ("data", none), ("block", none), ("j", none), ("many", none), ("i", none), ("offsets", none)]) (loc := [("first", some (.int first tf)), ("files", some (.ref L)), ("names", none), ("heads", none), ("sizes", none), ("chain", none), ("data", none), ("block", none), ("j", none), ("many", none), ("i", none), ("offsets", none)]) (cloc0 := [("b", none)]) (cloc := [("b", none)]) [("first", .local), ("files", .local), ("names", .local), ("heads", .local), ("sizes", .local), ("chain", .local), ("data", .local), ("block", .local), ("j", .local), ("many", .local), ("i", .local), ("b", .cell), ("offsets", .local), ("range", .globalImplicit), ("len", .globalImplicit), ("_law_need", .globalImplicit), ("Builder", .globalImplicit)] ["first", "files", "names", "heads", "sizes", "chain", "data", "block", "j", "many", "i", "offsets"] ["b"] (by k_is) (by k_is) rfl (fun s X => BindsTo.of_eq rfl) (by decide +kernel) rfl rfl rfl (by walk_at "binds") (by walk_at "bindsc") rfl rfl rfl fun C cells led hC hcl happ => ?_
  have h_b_range := @b_range w.params
  have h_b_len := @b_len w.params
  have h_g__law_need := @g__law_need w.params
  have h_k_775 := @k_775 w.params
  have h_g_Builder := @g_Builder w.params
  have h_k_732 := @k_732 w.params
  have h_m_B_StartObject := @m_B_StartObject w.params
  have h_k_367 := @k_367 w.params
  have h_m_B_Finish := @m_B_Finish w.params
  have h_k_510 := @k_510 w.params
  have h_m_B_Output := @m_B_Output w.params
  have h_k_360 := @k_360 w.params
  have h_g__law_row := @g__law_row w.params
  have h_k_768 := @k_768 w.params
  have h_m_B_PrependUOffsetTRelativeSlot := @m_B_PrependUOffsetTRelativeSlot w.params
  have h_k_609 := @k_609 w.params
  have h_m_B_EndObject := @m_B_EndObject w.params
  have h_k_381 := @k_381 w.params
  refine Run.post fun Qf hQf => ?_
  cases hcl with | @cons _ _ c1 o1 _ _ hl1 hd1 hcl => ?_
  cases hcl
  cases happ with | cons happ => ?_
  cases happ
  refine run_execs ?_
  walk_at "rs"
  refine run_List ?_
  walk_at "rs"
  refine run_newLst rfl fun na => ?_
  walk_at "rs"
  refine run_List ?_
  walk_at "rs"
  refine run_newLst rfl fun ha => ?_
  walk_at "rs"
  refine run_List ?_
  walk_at "rs"
  refine run_newLst rfl fun sa => ?_
  walk_at "rs"
  refine run_List ?_
  walk_at "rs"
  refine run_newLst rfl fun z1 => ?_
  walk_at "rs"
  refine run_mul_list (its := [.int 0 _]) (by walk_at "mem") (by decide) (by show 1 * 6 ≤ 256; decide) (by decide) fun ca => ?_
  walk_at "rs"
  refine run_List ?_
  walk_at "rs"
  refine run_newLst rfl fun z2 => ?_
  walk_at "rs"
  refine run_mul_list (its := [.int 0 _]) (by walk_at "mem") (by decide) (by show 1 * 24 ≤ 256; decide) (by decide) fun da => ?_
  walk_at "rs"
  refine run_For ?_
  refine run_Call ?_
  walk_at "rs"
  refine run_callWith keeps_type ?_
  walk_at "rs"
  refine run_Call ?_
  walk_at "rs"
  refine run_callWith keeps_builtin ?_
  walk_at "rs"
  refine run_len_list (its := refs) (k := kL) (by walk_at "mem") (by omega) fun tl => ?_
  walk_at "rs"
  refine run_range1 fun rg t1 t2 t3 => ?_
  walk_at "rs"
  refine run_iter_rangeN (n := refs.length) (by omega) (by walk_at "mem") fun it => ?_
  refine RunC.drop (keep := (it, _) :: (rg, _) :: (na, _) :: (ha, _) :: (sa, _) :: (ca, _) :: (da, _) :: (c1, o1) :: (L, lstObj refs kL) :: ts) (by walk_at "pick") ?_
  refine RunC.forR (iterRange it 0 1 refs.length) (fun j loc led => ∃ (vn vh vs vc vd : List Value) (kn kh ks kc kd : Nat) (bt : Tok) (jv mv iv : Option Value) (ro : Obj),
    IntsAre vn (imgS G j).nm ∧ IntsAre vh (imgS G j).hd ∧ IntsAre vs (imgS G j).sz ∧ IntsAre vc (imgS G j).ch ∧ IntsAre vd (imgS G j).dt ∧
    loc = ([("first", some (.int first tf)), ("files", some (.ref L)), ("names", some (.ref na)), ("heads", some (.ref ha)), ("sizes", some (.ref sa)), ("chain", some (.ref ca)), ("data", some (.ref da)), ("block", some (.int (imgS G j).bk bt)), ("j", jv), ("many", mv), ("i", iv), ("offsets", none)] : Loc) ∧
    led = (rg, ro) :: (na, lstObj vn kn) :: (ha, lstObj vh kh) :: (sa, lstObj vs ks) :: (ca, lstObj vc kc) :: (da, lstObj vd kd) :: (c1, o1) :: (L, lstObj refs kL) :: ts) ?_ ?_ ?_ _ 0 _ _ _ rfl (Nat.zero_le _) (by simp)
    ⟨_, _, _, _, _, 0, 0, 0, 0, 0, _, none, none, none, _, .cons 0 _ (.cons 0 _ (.cons 0 _ .nil)), .cons 0 _ (.cons 0 _ (.cons 0 _ .nil)), .cons 0 _ (.cons 0 _ (.cons 0 _ .nil)), intsRep _ 6, intsRep _ 24, rfl, rfl⟩
  · intro j _ _ _
    trivial
  · rintro Qt hQt j tj o' loc0 led0 hlt hP hI0
    refine ex15 hI0 (fun vn vh vs vc vd kn kh ks kc kd bt jv mv iv ro hI1 => ?_)
    clear hI0
    refine andL5 hI1 (fun h1 h2 h3 h4 h5 => ?_)
    clear hI1
    refine ⟨_, by walk_at "setl", ?_⟩
    have hj : j < G.length := by omega
    obtain ⟨⟨k, c⟩, hp⟩ : ∃ p, G[j]? = some p := ⟨_, List.getElem?_eq_getElem hj⟩
    obtain ⟨a, tk, tc, hra, hta⟩ := hT.at hp
    have hra' : refs[(j : Int).toNat]? = some (.ref a) := by rw [Int.toNat_natCast]; exact hra
    obtain ⟨hk0, hk1, hk2⟩ := hk _ (List.mem_of_getElem? hp)
    have hroom := imgS_room h6 hp
    dsimp only at hk0 hk1 hk2 hroom
    have hok := imgS_ok G j
    have hstep : imgS G (j + 1) = imgStep (imgS G j) j (k, c) := by rw [imgS, hp]
    generalize imgS G j = S at *
    have z1 := h1.length
    have z2 := h2.length
    have z3 := h3.length
    have z4 := h4.length
    have z5 := h5.length
    rw [hok.n] at z1
    rw [hok.h] at z2
    rw [hok.z] at z3
    rw [hok.c] at z4
    rw [hok.d] at z5
    refine run_execs ?_
    walk_at "rs"
    refine run_sub ?_
    refine run_sub ?_
    walk_at "rs"
    refine run_py_list (its := refs) (k := kL) (by walk_at "mem") ⟨rfl, ?_⟩
    refine run_get_list (its := refs) (k := kL) (by walk_at "mem") (by omega) (by omega) hra' ?_
    walk_at "rs"
    refine run_py_tup (by with_reducible repeat (first | exact hta | refine memT ?_)) ⟨rfl, ?_⟩
    refine run_get_tup (by with_reducible repeat (first | exact hta | refine memT ?_)) (by decide) (by decide) rfl ?_
    walk_at "rs"
    refine run_set_list (its := vn) (k := kn) (by walk_at "put") (by omega) (by omega) (by omega) ?_
    walk_at "rs"
    refine run_Call ?_
    walk_at "rs"
    refine run_callWith keeps_builtin ?_
    walk_at "rs"
    refine run_sub ?_
    refine run_sub ?_
    walk_at "rs"
    refine run_py_list (its := refs) (k := kL) (by walk_at "mem") ⟨rfl, ?_⟩
    refine run_get_list (its := refs) (k := kL) (by walk_at "mem") (by omega) (by omega) hra' ?_
    walk_at "rs"
    refine run_py_tup (by with_reducible repeat (first | exact hta | refine memT ?_)) ⟨rfl, ?_⟩
    refine run_get_tup (by with_reducible repeat (first | exact hta | refine memT ?_)) (by decide) (by decide) rfl ?_
    walk_at "rs"
    refine run_len_bytes (b := c) (by omega) fun tz => ?_
    walk_at "rs"
    refine run_set_list (its := vs) (k := ks) (by walk_at "put") (by omega) (by omega) (by omega) ?_
    walk_at "rs"
    refine run_Call ?_
    walk_at "rs"
    refine run_callWith (keeps_ref hC (by assumption)) ?_
    walk_at "rs"
    refine run_sub ?_
    refine run_sub ?_
    walk_at "rs"
    refine run_py_list (its := refs) (k := kL) (by walk_at "mem") ⟨rfl, ?_⟩
    refine run_get_list (its := refs) (k := kL) (by walk_at "mem") (by omega) (by omega) hra' ?_
    walk_at "rs"
    refine run_py_tup (by with_reducible repeat (first | exact hta | refine memT ?_)) ⟨rfl, ?_⟩
    refine run_get_tup (by with_reducible repeat (first | exact hta | refine memT ?_)) (by decide) (by decide) rfl ?_
    walk_at "rs"
    refine run_callI hC (c_need (c := c) (by omega)) rfl (by walk_at "pick") fun tm => ?_
    walk_at "rs"
    refine Run.val (P := fun v => ∃ t, v = .int (if 0 < needN c then (S.bk : Int) + 1 else 0) t) ?_ ?_
    · refine run_IfExp ?_
      walk_at "rs"
      by_cases hm : 0 < needN c
      · rw [if_pos (decide_eq_true (by omega)), if_pos hm]
        walk_at "rs"
        exact ⟨⟨_, rfl⟩, rfl, rfl⟩
      · rw [if_neg (by rw [decide_eq_false (by omega)]; decide), if_neg hm]
        walk_at "rs"
        exact ⟨⟨_, rfl⟩, rfl, rfl⟩
    rintro _ ⟨th, rfl⟩
    walk_at "rs"
    refine run_set_list (its := vh) (k := kh) (by walk_at "put") (by omega) (by omega) (by omega) ?_
    walk_at "rs"
    refine run_For ?_
    refine run_Call ?_
    walk_at "rs"
    refine run_callWith keeps_type ?_
    walk_at "rs"
    refine run_Call ?_
    walk_at "rs"
    refine run_callWith keeps_builtin ?_
    walk_at "rs"
    refine run_sub ?_
    refine run_sub ?_
    walk_at "rs"
    refine run_py_list (its := refs) (k := kL) (by walk_at "mem") ⟨rfl, ?_⟩
    refine run_get_list (its := refs) (k := kL) (by walk_at "mem") (by omega) (by omega) hra' ?_
    walk_at "rs"
    refine run_py_tup (by with_reducible repeat (first | exact hta | refine memT ?_)) ⟨rfl, ?_⟩
    refine run_get_tup (by with_reducible repeat (first | exact hta | refine memT ?_)) (by decide) (by decide) rfl ?_
    walk_at "rs"
    refine run_len_bytes (b := c) (by omega) fun tz2 => ?_
    walk_at "rs"
    refine run_range1 fun rg2 t4 t5 t6 => ?_
    walk_at "rs"
    refine run_iter_rangeN (n := c.length) (by omega) (by walk_at "mem") fun it2 => ?_
    have hnc := need4 c
    refine RunC.forR (iterRange it2 0 1 c.length) (fun i loc led => ∃ (vd : List Value) (iv : Option Value) (ro2 : Obj), IntsAre vd (dataI S.dt S.bk c i) ∧
      loc = ([("first", some (.int first tf)), ("files", some (.ref L)), ("names", some (.ref na)), ("heads", some (.ref ha)), ("sizes", some (.ref sa)), ("chain", some (.ref ca)), ("data", some (.ref da)), ("block", some (.int S.bk bt)), ("j", some (.int j tj)), ("many", some (.int (needN c) tm)), ("i", iv), ("offsets", none)] : Loc) ∧
      led = (rg2, ro2) :: (it, o') :: (rg, ro) :: (na, lstObj (vn.set (j : Int).toNat (.int k tk)) kn) :: (ha, lstObj (vh.set (j : Int).toNat (.int (if 0 < needN c then (S.bk : Int) + 1 else 0) th)) kh) :: (sa, lstObj (vs.set (j : Int).toNat (.int c.length tz)) ks) :: (ca, lstObj vc kc) :: (da, lstObj vd kd) :: (c1, o1) :: (L, lstObj refs kL) :: ts) ?_ ?_ ?_ _ 0 _ _ _ rfl (Nat.zero_le _) (by simp)
      ⟨vd, _, _, h5, rfl, rfl⟩
    · intro i _ _ _
      trivial
    · rintro Qt hQt i ti o2' loc0 led0 hlt2 hP2 hI0
      refine ex3 hI0 (fun vd iv ro2 hI1 => ?_)
      clear hI0
      refine andL1 hI1 (fun h5 => ?_)
      clear hI1
      refine ⟨_, by walk_at "setl", ?_⟩
      have z6 := h5.length
      rw [dataI_length, hok.d] at z6
      refine run_execs ?_
      walk_at "rs"
      refine run_sub ?_
      refine run_sub ?_
      refine run_sub ?_
      walk_at "rs"
      refine run_py_list (its := refs) (k := kL) (by walk_at "mem") ⟨rfl, ?_⟩
      refine run_get_list (its := refs) (k := kL) (by walk_at "mem") (by omega) (by omega) hra' ?_
      walk_at "rs"
      refine run_py_tup (by with_reducible repeat (first | exact hta | refine memT ?_)) ⟨rfl, ?_⟩
      refine run_get_tup (by with_reducible repeat (first | exact hta | refine memT ?_)) (by decide) (by decide) rfl ?_
      walk_at "rs"
      refine run_py_bytes ⟨rfl, ?_⟩
      refine run_get_bytes (by omega) (by omega) (by omega) fun t9 => ?_
      walk_at "rs"
      refine run_mul (mul_ok (by omega) (by omega)) fun tm2 => ?_
      walk_at "rs"
      refine run_set_list (its := vd) (k := kd) (by walk_at "put") (by omega) (by omega) (by omega) ?_
      walk_at "rs"
      refine hQt _ _ _ _ ?_
      dsimp only [Turn]
      refine ⟨o2', _, _, by walk_at "pick", hP2, _, _, ro2, ?_, rfl, rfl⟩
      rw [show ((4 : Int) * (S.bk : Nat) + (i : Nat)).toNat = 4 * S.bk + i by omega, Int.toNat_natCast, dataI]
      exact ints_set h5 _ _ _
    rintro loc0 led0 hI0
    refine ex3 hI0 (fun vd iv ro2 hI1 => ?_)
    clear hI0
    refine andL1 hI1 (fun h5 => ?_)
    clear hI1
    walk_at "rs"
    refine run_For ?_
    refine run_Call ?_
    walk_at "rs"
    refine run_callWith keeps_type ?_
    walk_at "rs"
    refine run_range1 fun rg3 t4 t5 t6 => ?_
    walk_at "rs"
    refine run_iter_rangeN (n := needN c) (by omega) (by walk_at "mem") fun it3 => ?_
    refine RunC.forR (iterRange it3 0 1 (needN c)) (fun i loc led => ∃ (vc : List Value) (iv : Option Value) (ro3 : Obj), IntsAre vc (chainI S.ch S.bk (needN c) i) ∧
      loc = ([("first", some (.int first tf)), ("files", some (.ref L)), ("names", some (.ref na)), ("heads", some (.ref ha)), ("sizes", some (.ref sa)), ("chain", some (.ref ca)), ("data", some (.ref da)), ("block", some (.int S.bk bt)), ("j", some (.int j tj)), ("many", some (.int (needN c) tm)), ("i", iv), ("offsets", none)] : Loc) ∧
      led = (rg3, ro3) :: (rg2, ro2) :: (it, o') :: (rg, ro) :: (na, lstObj (vn.set (j : Int).toNat (.int k tk)) kn) :: (ha, lstObj (vh.set (j : Int).toNat (.int (if 0 < needN c then (S.bk : Int) + 1 else 0) th)) kh) :: (sa, lstObj (vs.set (j : Int).toNat (.int c.length tz)) ks) :: (ca, lstObj vc kc) :: (da, lstObj vd kd) :: (c1, o1) :: (L, lstObj refs kL) :: ts) ?_ ?_ ?_ _ 0 _ _ _ rfl (Nat.zero_le _) (by simp)
      ⟨vc, _, _, h4, rfl, rfl⟩
    · intro i _ _ _
      trivial
    · rintro Qt hQt i ti o2' loc0 led0 hlt2 hP2 hI0
      refine ex3 hI0 (fun vc iv ro3 hI1 => ?_)
      clear hI0
      refine andL1 hI1 (fun h4 => ?_)
      clear hI1
      refine ⟨_, by walk_at "setl", ?_⟩
      have z6 := h4.length
      rw [chainI_length, hok.c] at z6
      refine run_execs ?_
      walk_at "rs"
      refine Run.val (P := fun v => ∃ t, v = .int (if i + 1 < needN c then (S.bk : Int) + i + 2 else 255) t) ?_ ?_
      · refine run_IfExp ?_
        walk_at "rs"
        by_cases hm : i + 1 < needN c
        · rw [if_pos (decide_eq_true (by omega)), if_pos hm]
          walk_at "rs"
          exact ⟨⟨_, rfl⟩, rfl, rfl⟩
        · rw [if_neg (by rw [decide_eq_false (by omega)]; decide), if_neg hm]
          walk_at "rs"
          exact ⟨⟨_, rfl⟩, rfl, rfl⟩
      rintro _ ⟨th2, rfl⟩
      walk_at "rs"
      refine run_set_list (its := vc) (k := kc) (by walk_at "put") (by omega) (by omega) (by omega) ?_
      walk_at "rs"
      refine hQt _ _ _ _ ?_
      dsimp only [Turn]
      refine ⟨o2', _, _, by walk_at "pick", hP2, _, _, ro3, ?_, rfl, rfl⟩
      rw [show ((S.bk : Int) + (i : Nat)).toNat = S.bk + i by omega, chainI]
      exact ints_set h4 _ _ _
    rintro loc0 led0 hI0
    refine ex3 hI0 (fun vc iv ro3 hI1 => ?_)
    clear hI0
    refine andL1 hI1 (fun h4 => ?_)
    clear hI1
    walk_at "rs"
    refine hQt _ _ _ _ ?_
    dsimp only [Turn]
    have eb : (S.bk : Int) + (needN c : Nat) = ((S.bk + needN c : Nat) : Int) := by omega
    rw [Int.toNat_natCast, hstep, eb]
    exact ⟨o', _, _, by walk_at "pick", hP, _, _, _, vc, vd, _, _, _, kc, kd, _, _, _, iv, ro, ints_set h1 j k tk, ints_set h2 j _ th, ints_set h3 j _ tz, h4, h5, rfl, rfl⟩
  · rintro loc0 led0 hI0
    refine ex15 hI0 (fun vn vh vs vc vd kn kh ks kc kd bt jv mv iv ro hI1 => ?_)
    clear hI0
    refine andL5 hI1 (fun h1 h2 h3 h4 h5 => ?_)
    clear hI1
    walk_at "rs"
    have hok := imgS_ok G refs.length
    have hin := imgS_in hk h6 refs.length
    generalize hS : imgS G refs.length = S at *
    refine Run.drop (keep := (na, lstObj vn kn) :: (ha, lstObj vh kh) :: (sa, lstObj vs ks) :: (ca, lstObj vc kc) :: (da, lstObj vd kd) :: (c1, o1) :: []) (by walk_at "pick") ?_
    refine run_Call ?_
    walk_at "rs"
    refine run_callWith (keeps_ref hC (by assumption)) ?_
    walk_at "rs"
    refine run_call hC (c_Builder (n := first) hf) rfl (by walk_at "pick") ?_
    rintro _ _ ⟨b, dx, ba, vD, vo, t7, t8, rfl, hD, rfl⟩
    refine ⟨_, by walk_at "app", ?_⟩
    walk_at "rs"
    refine run_asCell hC (by walk_at "mem") hl1 (by walk_at "mem") hd1 fun ob hob => ⟨_, by walk_at "put", ?_⟩
    walk_at "rs"
    refine Run.nm fun hnm => ?_
    walk_at "fbacomp"
    case y => rw [hnm]; simp only [List.map_cons, List.map_nil]; decide +kernel
    refine run_Tuple ?_
    walk_at "rs"
    refine run_newTuple fun tu => ?_
    walk_at "rs"
    refine run_iter_tup (its := [.ref na, .ref ha, .ref sa, .ref ca, .ref da]) (by walk_at "mem") fun it2 D C2 hC2 hcl2 => ?_
    have hq_b : C2.env.cells.lookup (Str.ofString "b") = some c1 := by rw [hcl2]; rfl
    have hrow : ∀ i v, i < 5 → [Value.ref na, .ref ha, .ref sa, .ref ca, .ref da][i]? = some v → ∃ va vsr k0 side', v = .ref va ∧ IntsAre vsr (S.row i) ∧
        List.Perm [(na, lstObj vn kn), (ha, lstObj vh kh), (sa, lstObj vs ks), (ca, lstObj vc kc), (da, lstObj vd kd)] ((va, lstObj vsr k0) :: side') := fun i v hi hv => by
      match i, hi with
      | 0, _ => cases hv; exact ⟨na, vn, kn, _, rfl, h1, .refl _⟩
      | 1, _ => cases hv; exact ⟨ha, vh, kh, _, rfl, h2, Pick.perm (.cons (.there .here) .nil)⟩
      | 2, _ => cases hv; exact ⟨sa, vs, ks, _, rfl, h3, Pick.perm (.cons (.there (.there .here)) .nil)⟩
      | 3, _ => cases hv; exact ⟨ca, vc, kc, _, rfl, h4, Pick.perm (.cons (.there (.there (.there .here))) .nil)⟩
      | 4, _ => cases hv; exact ⟨da, vd, kd, _, rfl, h5, Pick.perm (.cons (.there (.there (.there (.there .here)))) .nil)⟩
    obtain ⟨r1, r2, r3, r4, r5⟩ := rO_length hok
    have hrl : ∀ i < 5, (S.row i).length ≤ 24 ∧ (rO S i).length ≤ 36 := fun i hi => by
      match i, hi with
      | 0, _ => exact ⟨by show S.nm.length ≤ 24; rw [hok.n]; decide, by show 0 ≤ 36; decide⟩
      | 1, _ => exact ⟨by show S.hd.length ≤ 24; rw [hok.h]; decide, by omega⟩
      | 2, _ => exact ⟨by show S.sz.length ≤ 24; rw [hok.z]; decide, by omega⟩
      | 3, _ => exact ⟨by show S.ch.length ≤ 24; rw [hok.c]; decide, by omega⟩
      | 4, _ => exact ⟨by show S.dt.length ≤ 24; rw [hok.d]; decide, by omega⟩
    generalize hside : [(na, lstObj vn kn), (ha, lstObj vh kh), (sa, lstObj vs ks), (ca, lstObj vc kc), (da, lstObj vd kd)] = side at hrow
    refine RunC.drop (keep := (D, lstObj [] 0) :: (it2, { cls := .type "tuple_iterator", data := .fields #[.ref tu, .int 0 0] }) :: (tu, tupObj [.ref na, .ref ha, .ref sa, .ref ca, .ref da]) :: (c1, ob) :: (vD, vo) :: (b, inst 732 dx (bSl ba .none (first : Int) t7 1 t8 .none (.bool false) none (.ref vD) (.bool false))) :: (dx, dict0) :: (ba, baObj (List.replicate first 0 ++ rO S 0)) :: side) (rest := []) ?_ ?_
    · rw [show List.replicate first (0 : UInt8) ++ rO S 0 = List.replicate first 0 from List.append_nil _, ← hside]
      walk_at "pick"
    refine RunC.compGo0T (iterTup it2 tu [.ref na, .ref ha, .ref sa, .ref ca, .ref da]) (fun i items led => ∃ (ba' : Addr) (J : List UInt8) (t tm : Tok) (ma : Int) (vn : Option Value), IntsAre items ((List.range i).map fun q => ((rO S (q + 1)).length : Int)) ∧ i ≤ 5 ∧ 1 ≤ ma ∧ ma ≤ 4 ∧ (i = 5 → ma = 4 ∧ vn = some .none) ∧ J.length + (rO S i).length ≤ 500 ∧
      led = (tu, tupObj [.ref na, .ref ha, .ref sa, .ref ca, .ref da]) :: (c1, ob) :: (vD, vo) :: (b, inst 732 dx (bSl ba' .none J.length t ma tm .none (.bool false) vn (.ref vD) (.bool false))) :: (dx, dict0) :: (ba', baObj (J ++ rO S i)) :: side) ?_ ?_ ?_ ?_ ⟨rfl, rfl⟩
      ⟨ba, List.replicate first 0, t7, t8, 1, none, .nil, by omega, by omega, by omega, fun h => absurd h (by decide), by simp [rO]; omega, by simp⟩
    · rintro i items k2 _ ⟨ba', J, t, tm, ma, vn', i1, i2, i3, i4, i5, i6, rfl⟩
      walk_at "mem"
    · rintro i items _ ⟨ba', J, t, tm, ma, vn', i1, i2, i3, i4, i5, i6, rfl⟩
      have := i1.length
      simp at this; omega
    · rintro Qt hQt i v2 o2' k2 items _ hlt2 hv2 hP2 ⟨ba', J, t, tm, ma, vn', i1, i2, i3, i4, i5, i6, rfl⟩
      obtain ⟨va, vsr, k0, side', rfl, hir, hperm⟩ := hrow i v2 hlt2 hv2
      have hlt3 : i < 5 := hlt2
      obtain ⟨q1, q2⟩ := hrl i hlt2
      refine Run.perm (led' := (it2, o2') :: (D, lstObj items k2) :: (tu, tupObj [.ref na, .ref ha, .ref sa, .ref ca, .ref da]) :: (c1, ob) :: (vD, vo) :: (b, inst 732 dx (bSl ba' .none J.length t ma tm .none (.bool false) vn' (.ref vD) (.bool false))) :: (dx, dict0) :: (ba', baObj (J ++ rO S i)) :: (va, lstObj vsr k0) :: side') (by repeat (first | exact hperm | apply List.Perm.cons)) ?_
      refine run_Call ?_
      walk_at "rs"
      refine run_callWith (keeps_ref hC2 (by assumption)) ?_
      walk_at "rs"
      refine run_call hC2 (c_row hir (hin i) q1 i3 i4 (by omega) i6) rfl (by walk_at "pick") ?_
      rw [show rowOut (S.row i) (rO S i) = rO S (i + 1) from rfl]
      rintro _ _ ⟨ba2, J2, t9, tm9, t10, rfl, hJ2, rfl⟩
      refine ⟨_, by walk_at "app", ?_⟩
      refine hQt _ _ _ _ _ _ ⟨rfl, o2', k2, (tu, tupObj [.ref na, .ref ha, .ref sa, .ref ca, .ref da]) :: (c1, ob) :: (vD, vo) :: (b, inst 732 dx (bSl ba2 .none J2.length t9 4 tm9 .none (.bool false) (some .none) (.ref vD) (.bool false))) :: (dx, dict0) :: (ba2, baObj (J2 ++ rO S (i + 1))) :: side,
        Pick.exSub (l1 := (it2, o2') :: (D, lstObj items k2) :: (tu, tupObj [.ref na, .ref ha, .ref sa, .ref ca, .ref da]) :: (c1, ob) :: (vD, vo) :: (b, inst 732 dx (bSl ba2 .none J2.length t9 4 tm9 .none (.bool false) (some .none) (.ref vD) (.bool false))) :: (dx, dict0) :: (ba2, baObj (J2 ++ rO S (i + 1))) :: (va, lstObj vsr k0) :: side') (by walk_at "pick") (by repeat (first | exact hperm.symm | apply List.Perm.cons))
          ⟨hP2, ba2, J2, t9, tm9, 4, some .none, ?_, by omega, by omega, by omega, fun _ => ⟨rfl, rfl⟩, hJ2, rfl⟩⟩
      rw [range_map_snoc]
      exact i1.append (.cons _ _ .nil)
    · rw [show [Value.ref na, .ref ha, .ref sa, .ref ca, .ref da].length = 5 from rfl]
      rintro k2 ov2 items _ ⟨ba', J, t, tm, ma, vn', i1, i2, i3, i4, i5, i6, rfl⟩
      obtain ⟨rfl, rfl⟩ := i5 rfl
      refine ⟨_, by walk_at "setl", ?_⟩
      walk_at "rs"
      refine run_ExprC ?_
      refine run_Method ?_
      walk_at "rs"
      intro pl
      refine run_meth hC (by assumption) (by walk_at "mem") (by walk_at "mem") (run_callWith (keeps_ref hC (by assumption)) ?_)
      walk_at "rs"
      refine run_call hC (c_StartObj (by omega)) rfl (by walk_at "pick") ?_
      rw [show ((rO S 5).length : Int) = 64 by rw [r5]; rfl]
      rintro _ _ ⟨cA, t0, t9, rfl⟩
      refine ⟨_, by walk_at "app", ?_⟩
      walk_at "rs"
      refine run_For ?_
      refine run_Call ?_
      walk_at "rs"
      refine run_callWith keeps_type ?_
      walk_at "rs"
      refine run_range1 fun rg5 t11 t12 t13 => ?_
      walk_at "rs"
      refine run_iter_range (by walk_at "mem") rfl fun it5 => ?_
      have hoff : ∀ j < 5, ∃ t, items[j]? = some (.int ((rO S (j + 1)).length : Int) t) := fun j hj => i1.get j _ (by rw [List.getElem?_map, List.getElem?_range hj]; rfl)
      refine RunC.forR (iterRange it5 0 1 5) (fun j loc led => ∃ (ba' : Addr) (J : List UInt8) (t tm : Tok) (its : List Value) (kc : Nat) (jv : Option Value) (ro : Obj), its.length = 5 ∧ (∀ q < j, ∃ t, its[q]? = some (.int (68 + 4 * (q : Nat)) t)) ∧ J.length + (tO S j).length ≤ 500 ∧
        loc = ([("first", some (.int first tf)), ("files", some (.ref L)), ("names", some (.ref na)), ("heads", some (.ref ha)), ("sizes", some (.ref sa)), ("chain", some (.ref ca)), ("data", some (.ref da)), ("block", some (.int S.bk bt)), ("j", jv), ("many", mv), ("i", iv), ("offsets", some (.ref D))] : Loc) ∧
        led = (rg5, ro) :: (cA, lstObj its kc) :: (b, inst 732 dx (bSl ba' (.ref cA) J.length t 4 tm (.int 64 t9) (.bool true) (some .none) (.ref vD) (.bool false))) :: (dx, dict0) :: (ba', baObj (J ++ tO S j)) :: (D, lstObj items k2) :: (tu, tupObj [.ref na, .ref ha, .ref sa, .ref ca, .ref da]) :: (c1, ob) :: (vD, vo) :: side) ?_ ?_ ?_ _ 0 _ _ _ rfl (Nat.zero_le _) rfl
        ⟨ba', J, _, _, _, 0, _, _, rfl, fun q hq => absurd hq (Nat.not_lt_zero q), i6, rfl, rfl⟩
      · intro j _ _ _
        trivial
      · rintro Qt hQt j tj o' loc0 led0 hlt hP hI0
        refine ex8 hI0 (fun ba' J t tm its kc jv ro hI1 => ?_)
        clear hI0
        refine andL3 hI1 (fun e1 e2 e3 => ?_)
        clear hI1
        refine ⟨_, by walk_at "setl", ?_⟩
        obtain ⟨tx, hx⟩ := hoff j hlt
        have hx' : items[(j : Int).toNat]? = some (.int ((rO S (j + 1)).length : Int) tx) := by rw [Int.toNat_natCast]; exact hx
        have hL1 := tO_length hok j
        have hL2 := tO_length hok (j + 1)
        have hro : 8 ≤ (rO S (j + 1)).length ∧ (rO S (j + 1)).length ≤ 64 := by
          match j, hlt with
          | 0, _ => have h : (rO S (0 + 1)).length = 8 := r1; omega
          | 1, _ => have h : (rO S (1 + 1)).length = 16 := r2; omega
          | 2, _ => have h : (rO S (2 + 1)).length = 24 := r3; omega
          | 3, _ => have h : (rO S (3 + 1)).length = 36 := r4; omega
          | 4, _ => have h : (rO S (4 + 1)).length = 64 := r5; omega
        refine run_execs (run_ExprC ?_)
        refine run_Method ?_
        walk_at "rs"
        intro pl
        refine run_meth hC (by assumption) (by walk_at "mem") (by walk_at "mem") (run_callWith (keeps_ref hC (by assumption)) ?_)
        walk_at "rs"
        refine run_sub ?_
        walk_at "rs"
        refine run_py_list (its := items) (by walk_at "mem") ⟨rfl, ?_⟩
        refine run_get_list (its := items) (by walk_at "mem") (by omega) (by omega) hx' ?_
        walk_at "rs"
        refine run_call hC (c_RelSlot (its := its) (J := J) (o := (rO S (j + 1)).length) (out := tO S j) (by omega) (by omega) (by omega) (by omega) (by omega) (by omega) e3) rfl (by walk_at "pick") ?_
        rw [show addR (rO S (j + 1)).length (tO S j) = tO S (j + 1) from rfl]
        rintro _ _ ⟨ba2, J2, t14, tm2, t15, hJ2, rfl⟩
        refine ⟨_, by walk_at "app", ?_⟩
        walk_at "rs"
        refine hQt _ _ _ _ ?_
        dsimp only [Turn]
        refine ⟨o', _, _, by walk_at "pick", hP, ba2, J2, t14, tm2, _, kc, _, ro, by rw [List.length_set]; exact e1, fun q hq => ?_, hJ2, rfl, rfl⟩
        rcases Nat.lt_succ_iff_lt_or_eq.mp hq with h | h
        · rw [List.getElem?_set_ne (by omega)]
          exact e2 q h
        · subst h
          rw [List.getElem?_set_self (by omega), hL2]
          exact ⟨t15, by congr 2; omega⟩
      · rintro loc0 led0 hI0
        refine ex8 hI0 (fun ba' J t tm its kc jv ro hI1 => ?_)
        clear hI0
        refine andL3 hI1 (fun e1 e2 e3 => ?_)
        clear hI1
        obtain ⟨q0, q1, q2, q3, q4, rfl⟩ := its5 e1 e2
        have hL1 := tO_length hok 5
        walk_at "rs"
        refine run_ExprC ?_
        refine run_Method ?_
        walk_at "rs"
        intro pl
        refine run_meth hC (by assumption) (by walk_at "mem") (by walk_at "mem") (run_callWith (keeps_ref hC (by assumption)) ?_)
        walk_at "rs"
        refine run_Method ?_
        walk_at "rs"
        intro pl
        refine run_meth hC (by assumption) (by walk_at "mem") (by walk_at "mem") (run_callWith (keeps_ref hC (by assumption)) ?_)
        walk_at "rs"
        refine run_call hC (c_EndObj hD hL1 e3) rfl (by walk_at "pick") ?_
        rintro _ _ ⟨ba2, J2, t14, tm2, t15, rfl, hJ2, rfl⟩
        refine ⟨_, by walk_at "app", ?_⟩
        walk_at "rs"
        have hE := endOut_length hL1
        refine run_call hC (c_Finish (J := J2) (o := endOut (tO S 5)) hE (by omega)) rfl (by walk_at "pick") ?_
        rintro _ _ ⟨ba3, J3, t16, tm3, hJ3, rfl⟩
        refine ⟨_, by walk_at "app", ?_⟩
        walk_at "rs"
        refine run_Method ?_
        walk_at "rs"
        intro pl
        refine run_meth hC (by assumption) (by walk_at "mem") (by walk_at "mem") (run_callWith (keeps_ref hC (by assumption)) ?_)
        walk_at "rs"
        refine run_call hC (c_Output (J := J3) (out := finOut (endOut (tO S 5))) (by rw [finOut_length hE]; omega)) rfl (by walk_at "pick") ?_
        rw [show finOut (endOut (tO S 5)) = imgB G by unfold imgB; rw [← hlen, hS]]
        rintro _ _ ⟨c9, rfl, rfl⟩
        refine ⟨_, by walk_at "app", ?_⟩
        walk_at "rs"
        exact hQf _ _ _ ⟨_, _, by walk_at "pick", c9, rfl, rfl⟩
end
end

/-! G22 -/



section
variable {prog : Program} {w : World}
/-- what stands ahead of the rows -/
def HDR : List UInt8 := [24, 0, 0, 0, 70, 65, 84, 49, 0, 0, 14, 0, 24, 0, 20, 0, 16, 0, 12, 0, 8, 0, 4, 0, 14, 0, 0, 0, 20, 0, 0, 0, 44, 0, 0, 0, 52, 0, 0, 0, 56, 0, 0, 0, 60, 0, 0, 0]
theorem addR_eq {o : Nat} {out : List UInt8} (h : out.length % 4 = 0) : addR o out = leI 4 ((out.length : Int) - o + 4) ++ out := by
  have : padI (out.length + 0) 4 = 0 := by unfold padI; omega
  unfold addR
  rw [this]
  rfl
theorem tO_step {s : Img} (h : s.Ok) (j : Nat) : tO s (j + 1) = leI 4 ((64 + 4 * (j : Int)) - (rO s (j + 1)).length + 4) ++ tO s j := by
  have hl := tO_length h j
  show addR _ _ = _
  rw [addR_eq (by omega), hl]
  congr 2
theorem tO_eq {s : Img} (h : s.Ok) : tO s 5 = leI 4 20 ++ (leI 4 44 ++ (leI 4 52 ++ (leI 4 56 ++ (leI 4 60 ++ rO s 5)))) := by
  obtain ⟨r1, r2, r3, r4, r5⟩ := rO_length h
  rw [tO_step h 4, tO_step h 3, tO_step h 2, tO_step h 1, tO_step h 0, r1, r2, r3, r4, r5]
  rfl
theorem img_eq (G : Files) : imgB G = HDR ++ rO (imgS G G.length) 5 := by
  have h := imgS_ok G G.length
  have hE := endOut_length (tO_length h 5)
  unfold imgB finOut
  have h4 : (idOut 4 (List.replicate 2 0 ++ endOut (tO (imgS G G.length) 5))).length = 108 := by simp only [idOut, List.length_append, leI_length, List.length_replicate, hE]
  rw [addR_eq (by rw [h4]), h4, endOut, tO_eq h]
  rfl
theorem hdr_cut {r : List UInt8} {off n : Nat} (h : off + n ≤ 48) : ((HDR ++ r).drop off).take n = (HDR.drop off).take n := by
  have e : HDR.length = 48 := rfl
  rw [List.drop_append_of_le_length (by omega), List.take_append_of_le_length (by rw [List.length_drop]; omega)]
section
variable {ba : Addr} {l r : List UInt8}
theorem c_open (hl : l.length = 112) (hr : l = HDR ++ r) : CallP prog w (myK w.params) (.ref 785) [.ref ba] [] 4 [(ba, baObj l)]
    (fun v led' => ∃ tup x dx ra tp a0 a1 a2 a3 a4 kr, v = .ref tup ∧ led' = (tup, tupObj [.ref x, .ref ra]) :: (ra, lstObj (rwL a0 a1 a2 a3 a4) kr) :: tLed x dx ba 24 tp l) := by
  have cut : ∀ off n, off + n ≤ 48 → (l.drop off).take n = (HDR.drop off).take n := fun off n h => by rw [hr]; exact hdr_cut h
  refine CallP.fn1 (binds := [("made", .ref ba)]) (loc0 := [("made", none)]) (loc := [("made", some (.ref ba))]) (cloc0 := [("t", none)]) (cloc := [("t", none)]) [("made", .local), ("t", .cell), ("Table", .globalImplicit), ("range", .globalImplicit)] ["made"] ["t"] (by k_is) (by k_is) rfl (fun s X => BindsTo.of_eq rfl) (by decide +kernel) rfl rfl rfl (by walk_at "binds") (by walk_at "bindsc") rfl rfl rfl fun C cells led hC hcl happ => ?_
  have h_g_Table := @g_Table w.params
  have h_k_248 := @k_248 w.params
  have h_b_range := @b_range w.params
  have h_m_T_Indirect := @m_T_Indirect w.params
  have h_k_195 := @k_195 w.params
  have h_m_T_Vector := @m_T_Vector w.params
  have h_k_216 := @k_216 w.params
  have h_m_T_Offset := @m_T_Offset w.params
  have h_k_188 := @k_188 w.params
  have h_m_B_Offset := @m_B_Offset w.params
  have h_k_402 := @k_402 w.params
  refine Run.post fun Qf hQf => ?_
  cases hcl with | @cons _ _ c1 o1 _ _ hl1 hd1 hcl => ?_
  cases hcl
  cases happ with | cons happ => ?_
  cases happ
  refine run_execs ?_
  walk_at "rs"
  refine run_Call ?_
  walk_at "rs"
  refine run_callWith (keeps_ref hC (by assumption)) ?_
  walk_at "rs"
  refine run_Method ?_
  refine run_Call ?_
  walk_at "rs"
  refine run_callWith (keeps_ref hC (by assumption)) ?_
  walk_at "rs"
  refine run_call hC (c_Table (by decide) (by decide)) rfl (by walk_at "pick") ?_
  rintro _ _ ⟨x0, dx0, rfl, rfl⟩
  refine ⟨_, by walk_at "app", ?_⟩
  intro pl
  refine run_meth hC (by assumption) (by walk_at "mem") (by walk_at "mem") (run_callWith (keeps_ref hC (by assumption)) ?_)
  walk_at "rs"
  refine run_callI hC (c_TIndirect (l := l) (r := 24) (by omega) (by decide) (by omega) (by rw [show Int.toNat 0 = 0 from rfl, cut 0 4 (by decide)]; rfl)) rfl (by walk_at "pick") fun t1 => ?_
  walk_at "rs"
  rw [show (0 : Int) + 24 = 24 from rfl]
  refine run_call hC (c_Table (by decide) (by decide)) rfl (by walk_at "pick") ?_
  rintro _ _ ⟨x, dx, rfl, rfl⟩
  refine ⟨_, by walk_at "app", ?_⟩
  refine run_asCell hC (by walk_at "mem") hl1 (by walk_at "mem") hd1 fun ob hob => ⟨_, by walk_at "put", ?_⟩
  walk_at "rs"
  refine run_Tuple ?_
  walk_at "rs"
  walk_at "fbcomp"
  refine run_Call ?_
  walk_at "rs"
  refine run_callWith keeps_type ?_
  walk_at "rs"
  refine run_range1 fun rg t4 t5 t6 => ?_
  walk_at "rs"
  refine run_iter_range (by walk_at "mem") rfl fun it D C2 hC2 hcl2 => ?_
  have hq_t : C2.env.cells.lookup (Str.ofString "t") = some c1 := by rw [hcl2]; rfl
  refine RunC.drop (keep := (D, lstObj [] 0) :: (it, _) :: (rg, _) :: (c1, ob) :: tLed x dx ba 24 t1 l) (by walk_at "pick") ?_
  refine RunC.compGo0T (iterRange it 0 1 5) (fun i items led => ∃ ro : Obj, IntsAre items ([(108 : Int), 100, 92, 80, 52].take i) ∧ i ≤ 5 ∧
    led = (rg, ro) :: (c1, ob) :: tLed x dx ba 24 t1 l) ?_ ?_ ?_ ?_ rfl ⟨_, .nil, by omega, rfl⟩
  · rintro i items k2 _ ⟨ro, h1, h2, rfl⟩
    trivial
  · rintro i items _ ⟨ro, h1, h2, rfl⟩
    have := h1.length
    simp at this; omega
  · rintro Qt hQt i v o' k2 items _ hlt hv hP ⟨ro, h1, h2, rfl⟩
    obtain ⟨ti, rfl⟩ := rng0 hv
    have f1 : ∀ i : Nat, i < 5 → readL 'H' 2 ((HDR.drop (14 + 2 * i)).take 2) = 20 - 4 * (i : Int) := by decide
    have f2 : ∀ i : Nat, i < 5 → readL 'I' 4 ((HDR.drop (44 - 4 * i)).take 4) = [(60 : Int), 56, 52, 44, 20].getD i 0 := by decide
    have f3 : ∀ i : Nat, i < 5 → 20 - 4 * (i : Int) + 24 + [(60 : Int), 56, 52, 44, 20].getD i 0 + 4 = [(108 : Int), 100, 92, 80, 52].getD i 0 := by decide
    have f4 : ∀ i : Nat, i < 5 → [(108 : Int), 100, 92, 80, 52].take (i + 1) = [(108 : Int), 100, 92, 80, 52].take i ++ [[(108 : Int), 100, 92, 80, 52].getD i 0] := by decide
    refine run_Method ?_
    walk_at "rs"
    intro pl
    refine run_meth hC2 (by assumption) (by walk_at "mem") (by walk_at "mem") (run_callWith (keeps_ref hC2 (by assumption)) ?_)
    walk_at "rs"
    refine run_Method ?_
    walk_at "rs"
    intro pl
    refine run_meth hC2 h_m_T_Offset (by walk_at "mem") (by walk_at "mem") (run_callWith (keeps_ref hC2 (by assumption)) ?_)
    walk_at "rs"
    refine run_mul (mul_ok (by omega) (by omega)) fun tm => ?_
    walk_at "rs"
    refine run_callI hC2 (c_TOffset (l := l) (p := 24) (vo := 4 + 2 * (i : Int)) (so := 14) (en := 14) (r := 20 - 4 * (i : Int)) (by omega) (by decide) (by omega) (by rw [show Int.toNat 24 = 24 from rfl, cut 24 4 (by decide)]; rfl) (by decide) (by omega) (by rw [show Int.toNat (24 - 14) = 10 from rfl, cut 10 2 (by decide)]; rfl) (by omega) (by omega) (by omega) (by rw [show ((24 : Int) - 14 + (4 + 2 * (i : Int))).toNat = 14 + 2 * i by omega, cut _ 2 (by omega)]; exact f1 i hlt)) rfl (by walk_at "pick") fun t7 => ?_
    walk_at "rs"
    refine run_callI hC2 (c_TVector (l := l) (p := 24) (off := 20 - 4 * (i : Int)) (r := [(60 : Int), 56, 52, 44, 20].getD i 0) (by omega) (by omega) (by omega) (by omega) (by omega) (by rw [show ((20 - 4 * (i : Int)) + 24).toNat = 44 - 4 * i by omega, cut _ 4 (by omega)]; exact f2 i hlt)) rfl (by walk_at "pick") fun t8 => ?_
    refine hQt _ _ _ _ _ _ ⟨rfl, o', _, _, _, by walk_at "pick", hP, ro, ?_, by omega, rfl⟩
    rw [f3 i hlt, f4 i hlt]
    exact h1.append (.cons _ _ .nil)
  · rintro k2 ov items _ ⟨ro, h1, h2, rfl⟩
    obtain ⟨a0, v0, rfl, g1⟩ := h1.cons_inv
    obtain ⟨a1, v1, rfl, g2⟩ := g1.cons_inv
    obtain ⟨a2, v2, rfl, g3⟩ := g2.cons_inv
    obtain ⟨a3, v3, rfl, g4⟩ := g3.cons_inv
    obtain ⟨a4, v4, rfl, g5⟩ := g4.cons_inv
    obtain rfl := g5.nil_inv
    walk_at "rs"
    refine run_newTuple fun tu => ?_
    walk_at "rs"
    exact hQf _ _ _ ⟨_, _, by walk_at "pick", tu, x, dx, D, t1, a0, a1, a2, a3, a4, k2, rfl, rfl⟩
end
end

/-! P1 -/
/-! ## the plain law: no program in sight -/
theorem byte_set {l : List UInt8} {i : Nat} {v : UInt8} (h : i < l.length) (k : Nat) : byteAt (l.set i v) k = if i = k then (v.toNat : Int) else byteAt l k := by
  unfold byteAt
  by_cases e : i = k
  · subst e; simp [h]
  · simp [e, List.getD_eq_getElem?_getD, List.getElem?_set_ne e]
theorem byte_in (l : List UInt8) (k : Nat) : 0 ≤ byteAt l k ∧ byteAt l k < 256 := by
  have := (l.getD k 0).toNat_lt
  unfold byteAt
  omega
theorem Ch.congr {l l' : List UInt8} : ∀ {b : Int} {bs : List Nat}, Ch l b bs → (∀ k ∈ bs, byteAt l' (80 + k) = byteAt l (80 + k)) → Ch l' b bs
  | b, [], h, _ => h
  | b, k :: ks, h, e => ⟨h.1, h.2.1, by rw [e k (.head _)]; exact Ch.congr h.2.2 fun x hx => e x (.tail _ hx)⟩
/-- a chain grown by one block -/
theorem Ch.grow {l : List UInt8} (hl : l.length = 112) {c : Nat} (hc : c < 6) : ∀ {b : Int} {bs : List Nat} {a : Nat}, Ch l b (bs ++ [a]) → (bs ++ [a]).Nodup → c ∉ bs ++ [a] → Ch ((l.set (80 + c) 255).set (80 + a) (UInt8.ofNat (c + 1))) b (bs ++ [a] ++ [c])
  | b, [], a, h, hn, hm => by
    obtain ⟨h1, h2, h3⟩ := h
    have hac : a ≠ c := fun e => hm (by rw [e]; simp)
    refine ⟨h1, h2, ?_⟩
    rw [byte_set (by rw [List.length_set]; omega), if_pos rfl]
    refine ⟨?_, hc, ?_⟩
    · rw [UInt8.toNat_ofNat_of_lt' (by show c + 1 < 256; omega)]; omega
    · rw [byte_set (by rw [List.length_set]; omega), if_neg (by omega), byte_set (by omega), if_pos rfl]
      exact .inr rfl
  | b, x :: bs, a, h, hn, hm => by
    obtain ⟨h1, h2, h3⟩ := h
    have hn' := List.nodup_cons.mp hn
    have hxa : x ≠ a := fun e => hn'.1 (by rw [e]; simp)
    have hxc : x ≠ c := fun e => hm (by rw [e]; simp)
    have ha6 : a < 6 := Ch.lt h3 a (by simp)
    refine ⟨h1, h2, ?_⟩
    rw [byte_set (by rw [List.length_set]; omega), if_neg (by omega), byte_set (by omega), if_neg (by omega)]
    exact Ch.grow hl hc (bs := bs) h3 hn'.2 fun hm' => hm (.tail _ hm')
structure Part (l : List UInt8) (cs : Nat → List Nat) : Prop where
  len : l.length = 112
  hdr : ∀ q < 4, byteAt l (4 + q) = [(70 : Int), 65, 84, 49].getD q 0
  ch : ∀ j < 3, Ch l (byteAt l (100 + j)) (cs j)
  nd : ∀ j < 3, (cs j).Nodup
  dis : ∀ i < 3, ∀ j < 3, ∀ k, k ∈ cs i → k ∈ cs j → i = j
  fre : ∀ k < 6, byteAt l (80 + k) = 0 ↔ ∀ j < 3, k ∉ cs j
theorem Part.lt {l : List UInt8} {cs : Nat → List Nat} (h : Part l cs) {j : Nat} (hj : j < 3) {k : Nat} (hk : k ∈ cs j) : k < 6 := (h.ch j hj).lt k hk
theorem Part.keep {l l' : List UInt8} {cs : Nat → List Nat} (h : Part l cs) (hl : l'.length = 112) (e : ∀ p, (4 ≤ p ∧ p < 8) ∨ (80 ≤ p ∧ p < 86) ∨ (100 ≤ p ∧ p < 103) → byteAt l' p = byteAt l p) : Part l' cs where
  len := hl
  hdr := fun q hq => by rw [e _ (.inl (by omega))]; exact h.hdr q hq
  ch := fun j hj => by
    rw [e _ (.inr (.inr (by omega)))]
    exact (h.ch j hj).congr fun k hk => by
      have := h.lt hj hk
      exact e _ (.inr (.inl (by omega)))
  nd := h.nd
  dis := h.dis
  fre := fun k hk => by rw [e _ (.inr (.inl (by omega)))]; exact h.fre k hk
def upd (cs : Nat → List Nat) (j : Nat) (bs : List Nat) : Nat → List Nat := fun i => if i = j then bs else cs i
theorem upd_same (cs : Nat → List Nat) (j : Nat) (bs : List Nat) : upd cs j bs j = bs := if_pos rfl
theorem upd_ne {cs : Nat → List Nat} {j i : Nat} {bs : List Nat} (h : i ≠ j) : upd cs j bs i = cs i := if_neg h
theorem clr_byte : ∀ {ks : List Nat} {l : List UInt8} (hl : l.length = 112) (hk : ∀ k ∈ ks, k < 6) (p : Nat), byteAt (clr l ks) p = if ∃ k ∈ ks, p = 80 + k then 0 else byteAt l p
  | [], l, hl, hk, p => by simp [clr]
  | a :: ks, l, hl, hk, p => by
    have ha := hk a (.head _)
    rw [clr, clr_byte (by rw [List.length_set]; exact hl) (fun k hm => hk k (.tail _ hm)), byte_set (by omega)]
    by_cases h1 : ∃ k ∈ ks, p = 80 + k
    · rw [if_pos h1, if_pos]
      obtain ⟨k, h2, h3⟩ := h1
      exact ⟨k, .tail _ h2, h3⟩
    · rw [if_neg h1]
      by_cases h2 : 80 + a = p
      · rw [if_pos h2, if_pos ⟨a, .head _, h2.symm⟩]; rfl
      · rw [if_neg h2, if_neg]
        rintro ⟨k, h3, h4⟩
        rcases List.mem_cons.mp h3 with rfl | h3
        · exact h2 h4.symm
        · exact h1 ⟨k, h3, h4⟩
theorem drop_byte {l : List UInt8} {ks : List Nat} {j : Nat} (hl : l.length = 112) (hk : ∀ k ∈ ks, k < 6) (hj : j < 3) (p : Nat) : byteAt (dropL l ks j) p = if p = 92 + j ∨ p = 100 + j ∨ ∃ k ∈ ks, p = 80 + k then 0 else byteAt l p := by
  unfold dropL
  rw [byte_set (by rw [List.length_set, clr_length]; omega), byte_set (by rw [clr_length]; omega), clr_byte hl hk]
  by_cases h1 : 92 + j = p
  · rw [if_pos h1, if_pos (.inl h1.symm)]; rfl
  · rw [if_neg h1]
    by_cases h2 : 100 + j = p
    · rw [if_pos h2, if_pos (.inr (.inl h2.symm))]; rfl
    · rw [if_neg h2]
      by_cases h3 : ∃ k ∈ ks, p = 80 + k
      · rw [if_pos h3, if_pos (.inr (.inr h3))]
      · rw [if_neg h3, if_neg]
        rintro (h | h | h)
        · exact h1 h.symm
        · exact h2 h.symm
        · exact h3 h
theorem Part.drop {l : List UInt8} {cs : Nat → List Nat} (h : Part l cs) {j : Nat} (hj : j < 3) : Part (dropL l (cs j) j) (upd cs j []) := by
  have hb := drop_byte h.len (fun k hk => h.lt hj hk) hj
  refine ⟨by simp [dropL, clr_length, h.len], fun q hq => ?_, fun i hi => ?_, fun i hi => ?_, fun i hi i' hi' k hk hk' => ?_, fun k hk => ?_⟩
  · rw [hb, if_neg (by rintro (h | h | ⟨k, _, h⟩) <;> omega)]; exact h.hdr q hq
  · by_cases e : i = j
    · subst e
      rw [upd_same, hb, if_pos (.inr (.inl rfl))]
      exact .inl rfl
    · rw [upd_ne e, hb, if_neg]
      · refine (h.ch i hi).congr fun k hk => ?_
        have := h.lt hi hk
        rw [hb, if_neg]
        rintro (h' | h' | ⟨k', h1, h2⟩)
        · omega
        · omega
        · exact e (h.dis i hi j hj k hk (by rw [show k = k' by omega]; exact h1))
      · rintro (h' | h' | ⟨k', h1, h2⟩)
        · omega
        · omega
        · have := h.lt hj h1; omega
  · by_cases e : i = j
    · subst e; rw [upd_same]; exact List.nodup_nil
    · rw [upd_ne e]; exact h.nd i hi
  · by_cases e : i = j
    · subst e; rw [upd_same] at hk; cases hk
    · by_cases e' : i' = j
      · subst e'; rw [upd_same] at hk'; cases hk'
      · rw [upd_ne e] at hk; rw [upd_ne e'] at hk'
        exact h.dis i hi i' hi' k hk hk'
  · rw [hb]
    by_cases hm : k ∈ cs j
    · rw [if_pos (.inr (.inr ⟨k, hm, rfl⟩))]
      refine ⟨fun _ i hi hk' => ?_, fun _ => rfl⟩
      by_cases e : i = j
      · subst e; rw [upd_same] at hk'; cases hk'
      · rw [upd_ne e] at hk'
        exact e (h.dis i hi j hj k hk' hm)
    · rw [if_neg (by rintro (h' | h' | ⟨k', h1, h2⟩); omega; omega; exact hm (by rw [show k = k' by omega]; exact h1)), h.fre k hk]
      refine ⟨fun hA i hi hk' => ?_, fun hA i hi hk' => ?_⟩
      · by_cases e : i = j
        · subst e; rw [upd_same] at hk'; cases hk'
        · rw [upd_ne e] at hk'; exact hA i hi hk'
      · by_cases e : i = j
        · subst e; exact hm hk'
        · exact hA i hi (by rw [upd_ne e]; exact hk')
theorem wr_byte {l : List UInt8} {b : Nat} {c : List UInt8} {p : Nat} (hl : l.length = 112) (hb : b < 6) : ∀ n ≤ 4, ∀ k, byteAt (wr l b c p n) k = if ∃ q < n, k = 52 + (4 * b + q) ∧ 4 * p + q < c.length then ((c.getD (4 * p + (k - (52 + 4 * b))) 0).toNat : Int) else byteAt l k
  | 0, _, k => by rw [if_neg (by rintro ⟨q, h, _⟩; omega)]; rfl
  | n + 1, hn, k => by
    have ih := wr_byte (c := c) (p := p) hl hb n (by omega) k
    rw [wr]
    by_cases hin : 4 * p + n < c.length
    · rw [if_pos hin, byte_set (by rw [wr_length]; omega), ih]
      by_cases e : 52 + (4 * b + n) = k
      · rw [if_pos e, if_pos ⟨n, by omega, e.symm, hin⟩, show k - (52 + 4 * b) = n by omega]
      · rw [if_neg e]
        by_cases h2 : ∃ q < n, k = 52 + (4 * b + q) ∧ 4 * p + q < c.length
        · obtain ⟨q, h3, h4, h5⟩ := h2
          rw [if_pos ⟨q, h3, h4, h5⟩, if_pos ⟨q, by omega, h4, h5⟩]
        · rw [if_neg h2, if_neg]
          rintro ⟨q, h3, h4, h5⟩
          rcases Nat.lt_succ_iff_lt_or_eq.mp h3 with h | h
          · exact h2 ⟨q, h, h4, h5⟩
          · subst h; exact e h4.symm
    · rw [if_neg hin, ih]
      by_cases h2 : ∃ q < n, k = 52 + (4 * b + q) ∧ 4 * p + q < c.length
      · obtain ⟨q, h3, h4, h5⟩ := h2
        rw [if_pos ⟨q, h3, h4, h5⟩, if_pos ⟨q, by omega, h4, h5⟩]
      · rw [if_neg h2, if_neg]
        rintro ⟨q, h3, h4, h5⟩
        rcases Nat.lt_succ_iff_lt_or_eq.mp h3 with h | h
        · exact h2 ⟨q, h, h4, h5⟩
        · subst h; exact hin h5
/-- a block is linked to a chain: what stands where -/
theorem link_byte {l : List UInt8} {j b : Nat} {last : Option Nat} (hl : l.length = 112) (hj : j < 3) (hb : b < 6) (ha : ∀ a, last = some a → a < 6) (k : Nat) : (k ≠ 80 + b) → (∀ a, last = some a → k ≠ 80 + a) → (k ≠ 100 + j) → byteAt (linkL l j last b) k = byteAt l k := fun h1 h2 h3 => by
  cases last with
  | none => show byteAt ((l.set (80 + b) 255).set (100 + j) _) k = _; rw [byte_set (by rw [List.length_set]; omega), if_neg (by omega), byte_set (by omega), if_neg (by omega)]
  | some a =>
    have := h2 a rfl
    have := ha a rfl
    show byteAt ((l.set (80 + b) 255).set (80 + a) _) k = _
    rw [byte_set (by rw [List.length_set]; omega), if_neg (by omega), byte_set (by omega), if_neg (by omega)]
theorem Part.link {l : List UInt8} {cs : Nat → List Nat} {j b : Nat} {bs : List Nat} (h : Part l (upd cs j bs)) (hj : j < 3) (hb : b < 6) (hfree : byteAt l (80 + b) = 0) : Part (linkL l j bs.getLast? b) (upd cs j (bs ++ [b])) := by
  have hbn := (h.fre b hb).mp hfree
  have hbj : b ∉ bs := by have := hbn j hj; rwa [upd_same] at this
  have hchj := h.ch j hj
  rw [upd_same] at hchj
  have hndj := h.nd j hj
  rw [upd_same] at hndj
  have hlast : ∀ a, bs.getLast? = some a → a < 6 := fun a ha => hchj.lt a (List.mem_of_getLast? ha)
  have hk := link_byte h.len hj hb hlast
  have hother : ∀ i < 3, i ≠ j → ∀ k ∈ cs i, k ≠ b ∧ (∀ a, bs.getLast? = some a → k ≠ a) := fun i hi e k hk' => by
    refine ⟨fun q => ?_, fun a ha q => ?_⟩
    · have := hbn i hi; rw [upd_ne e, ← q] at this; exact this hk'
    · refine e (h.dis i hi j hj k (by rw [upd_ne e]; exact hk') ?_)
      rw [upd_same, q]; exact List.mem_of_getLast? ha
  refine ⟨by rw [linkL_length]; exact h.len, fun q hq => ?_, fun i hi => ?_, fun i hi => ?_, fun i hi i' hi' k hk1 hk2 => ?_, fun k hk6 => ?_⟩
  · rw [hk _ (by omega) (fun a _ => by omega) (by omega)]; exact h.hdr q hq
  · by_cases e : i = j
    · subst e
      rw [upd_same]
      have hcat : bs = [] ∨ ∃ pre a, bs = pre ++ [a] := by
        rcases List.eq_nil_or_concat bs with h | ⟨pre, a, h⟩
        · exact .inl h
        · exact .inr ⟨pre, a, by rw [h, List.concat_eq_append]⟩
      rcases hcat with rfl | ⟨pre, a, rfl⟩
      · show Ch ((l.set (80 + b) 255).set (100 + i) (UInt8.ofNat (b + 1))) _ [b]
        have hl := h.len
        rw [show byteAt (linkL l i [].getLast? b) (100 + i) = b + 1 by
          show byteAt ((l.set (80 + b) 255).set (100 + i) (UInt8.ofNat (b + 1))) (100 + i) = _
          rw [byte_set (by rw [List.length_set]; omega), if_pos rfl, UInt8.toNat_ofNat_of_lt' (by show b + 1 < 256; omega)]; omega]
        refine ⟨rfl, hb, ?_⟩
        rw [byte_set (by rw [List.length_set]; omega), if_neg (by omega), byte_set (by omega), if_pos rfl]
        exact .inr rfl
      · have eL : (pre ++ [a]).getLast? = some a := by simp
        have ha6 : a < 6 := hlast a eL
        have hl := h.len
        rw [eL]
        show Ch ((l.set (80 + b) 255).set (80 + a) (UInt8.ofNat (b + 1))) (byteAt ((l.set (80 + b) 255).set (80 + a) (UInt8.ofNat (b + 1))) (100 + i)) _
        rw [byte_set (by rw [List.length_set]; omega), if_neg (by omega), byte_set (by omega), if_neg (by omega)]
        exact Ch.grow h.len hb hchj hndj hbj
    · have hci := h.ch i hi
      rw [upd_ne e] at hci
      rw [upd_ne e, hk _ (by omega) (fun a ha => by have := hlast a ha; omega) (by omega)]
      refine hci.congr fun k hk' => ?_
      obtain ⟨h1, h2⟩ := hother i hi e k hk'
      have := hci.lt k hk'
      exact hk _ (by omega) (fun a ha => by have := h2 a ha; omega) (by omega)
  · by_cases e : i = j
    · subst e; rw [upd_same]; exact List.nodup_append.mpr ⟨hndj, by simp, by intro x hx y hy; simp at hy; subst hy; exact fun q => hbj (q ▸ hx)⟩
    · rw [upd_ne e]; have := h.nd i hi; rwa [upd_ne e] at this
  · by_cases e : i = j
    · subst e
      by_cases e' : i' = i
      · exact e'.symm
      · rw [upd_same] at hk1
        rw [upd_ne e'] at hk2
        rcases List.mem_append.mp hk1 with hx | hx
        · exact h.dis i hi i' hi' k (by rw [upd_same]; exact hx) (by rw [upd_ne e']; exact hk2)
        · exact absurd (List.mem_singleton.mp hx) (hother i' hi' e' k hk2).1
    · rw [upd_ne e] at hk1
      by_cases e' : i' = j
      · subst e'
        rw [upd_same] at hk2
        rcases List.mem_append.mp hk2 with hx | hx
        · exact h.dis i hi i' hi' k (by rw [upd_ne e]; exact hk1) (by rw [upd_same]; exact hx)
        · exact absurd (List.mem_singleton.mp hx) (hother i hi e k hk1).1
      · rw [upd_ne e'] at hk2
        exact h.dis i hi i' hi' k (by rw [upd_ne e]; exact hk1) (by rw [upd_ne e']; exact hk2)
  · have hl := h.len
    have hmem : ∀ x, (∀ i < 3, x ∉ upd cs j (bs ++ [b]) i) ↔ x ≠ b ∧ ∀ i < 3, x ∉ upd cs j bs i := fun x => by
      refine ⟨fun hA => ⟨fun q => ?_, fun i hi hx => ?_⟩, fun hA i hi hx => ?_⟩
      · refine hA j hj ?_; rw [upd_same, q]; simp
      · refine hA i hi ?_
        by_cases e : i = j
        · subst e; rw [upd_same] at hx ⊢; exact List.mem_append_left _ hx
        · rw [upd_ne e] at hx ⊢; exact hx
      · by_cases e : i = j
        · subst e
          rw [upd_same] at hx
          rcases List.mem_append.mp hx with hx | hx
          · exact hA.2 i hi (by rw [upd_same]; exact hx)
          · exact hA.1 (List.mem_singleton.mp hx)
        · rw [upd_ne e] at hx; exact hA.2 i hi (by rw [upd_ne e]; exact hx)
    rw [hmem]
    by_cases e1 : k = b
    · subst e1
      refine ⟨fun hz => ?_, fun hz => absurd rfl hz.1⟩
      exfalso
      cases hq : bs.getLast? with
      | none =>
        rw [hq] at hz
        have : byteAt ((l.set (80 + k) 255).set (100 + j) (UInt8.ofNat (k + 1))) (80 + k) = 0 := hz
        rw [byte_set (by rw [List.length_set]; omega), if_neg (by omega), byte_set (by omega), if_pos rfl] at this
        exact absurd this (by decide)
      | some a =>
        have ha6 := hlast a hq
        have hak : a ≠ k := fun q => hbj (q ▸ List.mem_of_getLast? hq)
        rw [hq] at hz
        have : byteAt ((l.set (80 + k) 255).set (80 + a) (UInt8.ofNat (k + 1))) (80 + k) = 0 := hz
        rw [byte_set (by rw [List.length_set]; omega), if_neg (by omega), byte_set (by omega), if_pos rfl] at this
        exact absurd this (by decide)
    · by_cases e2 : bs.getLast? = some k
      · have hm : k ∈ bs := List.mem_of_getLast? e2
        rw [e2]
        refine ⟨fun hz => ?_, fun hz => absurd (by rw [upd_same]; exact hm) (hz.2 j hj)⟩
        exfalso
        have : byteAt ((l.set (80 + b) 255).set (80 + k) (UInt8.ofNat (b + 1))) (80 + k) = 0 := hz
        rw [byte_set (by rw [List.length_set]; omega), if_pos rfl, UInt8.toNat_ofNat_of_lt' (by show b + 1 < 256; omega)] at this
        omega
      · rw [hk _ (by omega) (fun a ha => fun q => e2 (by rw [ha, show k = a by omega])) (by omega), h.fre k hk6]
        exact ⟨fun hA => ⟨e1, hA⟩, fun hA => hA.2⟩

/-! P2 -/
def tot (cs : Nat → List Nat) : Nat := (cs 0).length + (cs 1).length + (cs 2).length
theorem Part.all_nodup {l : List UInt8} {cs : Nat → List Nat} (h : Part l cs) : (cs 0 ++ (cs 1 ++ cs 2)).Nodup := by
  refine List.nodup_append.mpr ⟨h.nd 0 (by omega), List.nodup_append.mpr ⟨h.nd 1 (by omega), h.nd 2 (by omega), ?_⟩, ?_⟩
  · intro x hx y hy e; subst e
    exact absurd (h.dis 1 (by omega) 2 (by omega) x hx hy) (by decide)
  · intro x hx y hy e; subst e
    rcases List.mem_append.mp hy with hy | hy
    · exact absurd (h.dis 0 (by omega) 1 (by omega) x hx hy) (by decide)
    · exact absurd (h.dis 0 (by omega) 2 (by omega) x hx hy) (by decide)
theorem mem_all {cs : Nat → List Nat} {k : Nat} : k ∈ cs 0 ++ (cs 1 ++ cs 2) ↔ ∃ i < 3, k ∈ cs i := by
  refine ⟨fun h => ?_, fun ⟨i, hi, h⟩ => ?_⟩
  · rcases List.mem_append.mp h with h | h
    · exact ⟨0, by omega, h⟩
    · rcases List.mem_append.mp h with h | h
      · exact ⟨1, by omega, h⟩
      · exact ⟨2, by omega, h⟩
  · match i, hi with
    | 0, _ => exact List.mem_append_left _ h
    | 1, _ => exact List.mem_append_right _ (List.mem_append_left _ h)
    | 2, _ => exact List.mem_append_right _ (List.mem_append_right _ h)
theorem Part.tot_le {l : List UInt8} {cs : Nat → List Nat} (h : Part l cs) : tot cs ≤ 6 := by
  have := List.Nodup.length_le_of_subset (l₂ := List.range 6) h.all_nodup fun k hk => by
    obtain ⟨i, hi, hm⟩ := mem_all.mp hk
    exact List.mem_range.mpr (h.lt hi hm)
  simp only [List.length_append, List.length_range] at this
  unfold tot; omega
theorem Part.free {l : List UInt8} {cs : Nat → List Nat} (h : Part l cs) (ht : tot cs < 6) : frees l ≠ [] := fun hf => by
  have := List.Nodup.length_le_of_subset (l₂ := cs 0 ++ (cs 1 ++ cs 2)) (List.nodup_range (n := 6)) fun k hk => by
    have hk6 := List.mem_range.mp hk
    refine Classical.byContradiction fun hn => ?_
    have hz : byteAt l (80 + k) = 0 := (h.fre k hk6).mpr fun i hi hm => hn (mem_all.mpr ⟨i, hi, hm⟩)
    have : k ∈ frees l := List.mem_filter.mpr ⟨hk, by rw [hz]; rfl⟩
    rw [hf] at this; cases this
  simp only [List.length_append, List.length_range] at this
  unfold tot at ht; omega
theorem tot_upd {cs : Nat → List Nat} {j : Nat} (hj : j < 3) (bs : List Nat) : tot (upd cs j bs) = tot (upd cs j []) + bs.length := by
  match j, hj with
  | 0, _ => simp [tot, upd]; omega
  | 1, _ => simp [tot, upd]; omega
  | 2, _ => simp [tot, upd]
theorem cont_congr {l l' : List UInt8} : ∀ {bs : List Nat}, (∀ b ∈ bs, ∀ q < 4, byteAt l' (52 + (4 * b + q)) = byteAt l (52 + (4 * b + q))) → cont l' bs = cont l bs
  | [], _ => rfl
  | b :: bs, h => by
    rw [cont, cont, cont_congr fun x hx => h x (.tail _ hx)]
    congr 1
    exact List.map_congr_left fun q hq => h b (.head _) q (List.mem_range.mp hq)
theorem fileB_congr {l l' : List UInt8} {bs : List Nat} {j : Nat} (h1 : byteAt l' (92 + j) = byteAt l (92 + j)) (h2 : ∀ b ∈ bs, ∀ q < 4, byteAt l' (52 + (4 * b + q)) = byteAt l (52 + (4 * b + q))) : fileB l' bs j = fileB l bs j := by
  unfold fileB
  rw [cont_congr h2]
  have : (l'.getD (92 + j) 0).toNat = (l.getD (92 + j) 0).toNat := by unfold byteAt at h1; omega
  rw [this]
structure LI (l2 : List UInt8) (cs : Nat → List Nat) (j : Nat) (c : List UInt8) (p : Nat) (L : List UInt8) (last : Option Nat) (bs : List Nat) : Prop where
  part : Part L (upd cs j bs)
  lenb : bs.length = p
  last : last = bs.getLast?
  keep : ∀ k, (k < 52 ∨ 86 ≤ k) → k ≠ 100 + j → byteAt L k = byteAt l2 k
  data : ∀ i < 3, i ≠ j → ∀ b ∈ cs i, ∀ q < 4, byteAt L (52 + (4 * b + q)) = byteAt l2 (52 + (4 * b + q))
  cnt : ∀ x < c.length, x < 4 * p → (cont L bs)[x]? = some ((c.getD x 0).toNat : Int)
theorem LI.step {l2 L : List UInt8} {cs : Nat → List Nat} {j p b : Nat} {c : List UInt8} {last : Option Nat} {bs : List Nat} (h : LI l2 cs j c p L last bs) (hj : j < 3) (hb : b ∈ frees L) : LI l2 cs j c (p + 1) (pieceL L j c p last b) (some b) (bs ++ [b]) := by
  have hb6 := List.mem_range.mp (List.mem_filter.mp hb).1
  have hz : byteAt L (80 + b) = 0 := beq_iff_eq.mp (List.mem_filter.mp hb).2
  have hbn := (h.part.fre b hb6).mp hz
  have hchj := h.part.ch j hj
  rw [upd_same] at hchj
  have hlast : ∀ a, last = some a → a < 6 := fun a ha => hchj.lt a (List.mem_of_getLast? (h.last ▸ ha))
  have hlk := link_byte h.part.len hj hb6 hlast
  have hL := h.part.len
  have hw := wr_byte (c := c) (p := p) (l := linkL L j last b) (by rw [linkL_length]; exact hL) hb6 4 (Nat.le_refl _)
  have hout : ∀ k, (k < 52 ∨ 76 ≤ k) → byteAt (pieceL L j c p last b) k = byteAt (linkL L j last b) k := fun k hk => by
    unfold pieceL
    rw [hw k, if_neg]
    rintro ⟨q, h1, h2, _⟩; omega
  have hdat : ∀ b' < 6, b' ≠ b → ∀ q < 4, byteAt (pieceL L j c p last b) (52 + (4 * b' + q)) = byteAt L (52 + (4 * b' + q)) := fun b' h6 hne q hq => by
    unfold pieceL
    rw [hw, if_neg (by rintro ⟨q', h1, h2, _⟩; omega)]
    exact hlk _ (by omega) (fun a ha => by have := hlast a ha; omega) (by omega)
  refine ⟨?_, by rw [List.length_append, h.lenb]; rfl, by simp, fun k hk hne => ?_, fun i hi hij b' hb' q hq => ?_, fun x hx hx4 => ?_⟩
  · have := Part.link h.part hj hb6 hz
    rw [← h.last] at this
    exact this.keep (by unfold pieceL; rw [wr_length, linkL_length]; exact hL) fun k hk => hout k (by omega)
  · rw [hout k (by omega), hlk k (by omega) (fun a ha => by have := hlast a ha; omega) hne]
    exact h.keep k hk hne
  · have h6 : b' < 6 := h.part.lt hi (by rw [upd_ne hij]; exact hb')
    have hne : b' ≠ b := fun e => hbn i hi (by rw [upd_ne hij, ← e]; exact hb')
    rw [hdat b' h6 hne q hq]
    exact h.data i hi hij b' hb' q hq
  · have hcc : cont (pieceL L j c p last b) bs = cont L bs := cont_congr fun b' hb' q hq => by
      have h6 : b' < 6 := h.part.lt hj (by rw [upd_same]; exact hb')
      have hne : b' ≠ b := fun e => hbn j hj (by rw [upd_same, ← e]; exact hb')
      exact hdat b' h6 hne q hq
    rw [cont_snoc, hcc]
    have hcl := cont_length L bs
    rw [h.lenb] at hcl
    rcases Nat.lt_or_ge x (4 * p) with h1 | h1
    · rw [List.getElem?_append_left (by omega)]
      exact h.cnt x hx h1
    · rw [List.getElem?_append_right (by omega), hcl, List.getElem?_map, List.getElem?_range (by omega)]
      show some (byteAt (pieceL L j c p last b) (52 + (4 * b + (x - 4 * p)))) = _
      unfold pieceL
      rw [hw, if_pos ⟨x - 4 * p, by omega, rfl, by omega⟩, show 4 * p + (52 + (4 * b + (x - 4 * p)) - (52 + 4 * b)) = x by omega]
theorem put_loop {l2 : List UInt8} {cs : Nat → List Nat} {j : Nat} {c : List UInt8} (hP : Part l2 (upd cs j [])) (hj : j < 3) (hroom : tot (upd cs j []) + needN c ≤ 6) : ∀ p ≤ needN c, (∃ bs, LI l2 cs j c p (stp l2 j c p).1 (stp l2 j c p).2 bs) ∧ ∀ q < p, frees (stp l2 j c q).1 ≠ []
  | 0, _ => ⟨⟨[], hP, rfl, rfl, fun _ _ _ => rfl, fun _ _ _ _ _ _ _ => rfl, fun x _ h => absurd h (Nat.not_lt_zero x)⟩, fun q h => absurd h (Nat.not_lt_zero q)⟩
  | p + 1, hp => by
    obtain ⟨⟨bs, h⟩, hf⟩ := put_loop hP hj hroom p (by omega)
    have hne : frees (stp l2 j c p).1 ≠ [] := h.part.free (by rw [tot_upd hj, h.lenb]; omega)
    have hm : (frees (stp l2 j c p).1).headD 0 ∈ frees (stp l2 j c p).1 := by
      cases hq : frees (stp l2 j c p).1 with
      | nil => exact absurd hq hne
      | cons a as => exact .head _
    refine ⟨⟨_, h.step hj hm⟩, fun q hq => ?_⟩
    rcases Nat.lt_succ_iff_lt_or_eq.mp hq with h1 | h1
    · exact hf q h1
    · exact h1 ▸ hne
theorem file_of {L : List UInt8} {bs : List Nat} {j : Nat} {c : List UInt8} (hs : byteAt L (92 + j) = c.length) (hb : bs.length = needN c) (hc : ∀ x < c.length, (cont L bs)[x]? = some ((c.getD x 0).toNat : Int)) : fileB L bs j = c := by
  have hs' : (L.getD (92 + j) 0).toNat = c.length := by unfold byteAt at hs; omega
  have hcl := cont_length L bs
  have h4 := need4 c
  rw [hb] at hcl
  unfold fileB
  rw [hs']
  refine List.ext_getElem? fun x => ?_
  rw [List.getElem?_map]
  rcases Nat.lt_or_ge x c.length with h1 | h1
  · rw [List.getElem?_take_of_lt h1, hc x h1]
    simp [h1]
  · rw [List.getElem?_eq_none (by rw [List.length_take]; omega), List.getElem?_eq_none h1]
    rfl

/-! P3 -/
structure Inv (l : List UInt8) (F : Files) (cs : Nat → List Nat) : Prop where
  part : Part l cs
  zero : ∀ j < 3, byteAt l (108 + j) = 0 → cs j = []
  inj : ∀ i < 3, ∀ j < 3, byteAt l (108 + i) = byteAt l (108 + j) → byteAt l (108 + i) ≠ 0 → i = j
  own : ∀ j < 3, byteAt l (108 + j) ≠ 0 → look F (byteAt l (108 + j)) = some (fileB l (cs j) j)
  need : ∀ j < 3, byteAt l (108 + j) ≠ 0 → (cs j).length = needN (fileB l (cs j) j)
  all : ∀ k, k ∈ F.map (·.1) → ∃ j < 3, byteAt l (108 + j) = k
  keys : (F.map (·.1)).Nodup
  rng : ∀ p ∈ F, 1 ≤ p.1 ∧ p.1 ≤ 5 ∧ p.2.length ≤ 13
theorem Inv.name {l : List UInt8} {F : Files} {cs : Nat → List Nat} (h : Inv l F cs) {k : Int} (hk : k ∈ F.map (·.1)) : ∃ j < 3, byteAt l (108 + j) = k ∧ k ≠ 0 := by
  obtain ⟨j, hj, e⟩ := h.all k hk
  obtain ⟨p, hp, rfl⟩ := List.mem_map.mp hk
  have := h.rng p hp
  exact ⟨j, hj, e, by omega⟩
theorem look_mem' {F : Files} {k : Int} {c : List UInt8} (h : look F k = some c) : (k, c) ∈ F := by
  unfold look at h
  obtain ⟨p, h1, h2⟩ := Option.map_eq_some_iff.mp h
  have := List.find?_some h1
  have e : p.1 = k := by simpa using this
  have hm := List.mem_of_find?_eq_some h1
  obtain ⟨a, b⟩ := p
  dsimp only at e h2
  subst e h2
  exact hm
theorem look_none {F : Files} {k : Int} (h : k ∉ F.map (·.1)) : look F k = none := by
  cases e : look F k with
  | none => rfl
  | some c => exact absurd (look_key e) h
theorem look_cons (p : Int × List UInt8) (F : Files) (k : Int) : look (p :: F) k = if p.1 = k then some p.2 else look F k := by
  unfold look
  rw [List.find?_cons]
  by_cases h : p.1 = k <;> simp [h]
theorem look_putF (F : Files) (k : Int) (c : List UInt8) (k' : Int) : look (putF F k c) k' = if k' = k then some c else look F k' := by
  have hany : F.any (fun p => p.1 = k) = decide (k ∈ F.map (·.1)) := by
    rw [Bool.eq_iff_iff, List.any_eq_true]
    simp only [decide_eq_true_eq, List.mem_map]
  unfold putF
  rw [hany]
  by_cases hk : k ∈ F.map (·.1)
  · rw [if_pos (decide_eq_true hk)]
    clear hany
    induction F with
    | nil => cases hk
    | cons p F ih =>
      rw [List.map_cons, look_cons, look_cons]
      by_cases hp : p.1 = k
      · rw [if_pos hp]
        by_cases e : k' = k
        · rw [if_pos e, if_pos (by rw [hp, e])]
        · rw [if_neg e, if_neg (by rw [hp]; exact fun q => e q.symm), if_neg (by rw [hp]; exact fun q => e q.symm)]
          by_cases hk2 : k ∈ F.map (·.1)
          · rw [ih hk2, if_neg e]
          · have : F.map (fun p => if p.1 = k then (p.1, c) else p) = F := by
              clear ih hk
              induction F with
              | nil => rfl
              | cons a F ih2 =>
                rw [List.map_cons, List.mem_cons, not_or] at hk2
                rw [List.map_cons, if_neg (fun q => hk2.1 q.symm), ih2 hk2.2]
            rw [this]
      · rw [if_neg hp]
        have hk2 : k ∈ F.map (·.1) := by
          rcases List.mem_cons.mp hk with h | h
          · exact absurd h.symm hp
          · exact h
        rw [ih hk2]
        by_cases e : p.1 = k'
        · rw [if_pos e, if_neg (by rw [← e]; exact hp), if_pos e]
        · rw [if_neg e, if_neg e]
  · rw [if_neg (by rw [decide_eq_false hk]; decide)]
    clear hany
    induction F with
    | nil =>
      rw [List.nil_append, look_cons]
      by_cases e : k' = k
      · rw [if_pos e, if_pos e.symm]
      · rw [if_neg e, if_neg (fun q => e q.symm)]
    | cons p F ih =>
      rw [List.map_cons, List.mem_cons, not_or] at hk
      rw [List.cons_append, look_cons, look_cons, ih hk.2]
      by_cases e : p.1 = k'
      · rw [if_pos e, if_pos e, if_neg (by rw [← e]; exact fun q => hk.1 q.symm)]
      · rw [if_neg e, if_neg e]
theorem look_remF (F : Files) (k k' : Int) : look (remF F k) k' = if k' = k then none else look F k' := by
  unfold remF
  induction F with
  | nil => by_cases e : k' = k <;> simp [look, e]
  | cons p F ih =>
    rw [List.filter_cons]
    by_cases hp : p.1 = k
    · rw [if_neg (by simp [hp]), ih, look_cons]
      by_cases e : k' = k
      · rw [if_pos e, if_pos e]
      · rw [if_neg e, if_neg e, if_neg (by rw [hp]; exact fun q => e q.symm)]
    · rw [if_pos (by simp [hp]), look_cons, ih, look_cons]
      by_cases e : p.1 = k'
      · rw [if_pos e, if_pos e, if_neg (by rw [← e]; exact hp)]
      · rw [if_neg e, if_neg e]
theorem mem_keys {F : Files} {k : Int} : k ∈ F.map (·.1) ↔ (look F k).isSome = true := by
  refine ⟨fun h => ?_, fun h => ?_⟩
  · induction F with
    | nil => cases h
    | cons p F ih =>
      rw [look_cons]
      by_cases e : p.1 = k
      · rw [if_pos e]; rfl
      · rw [if_neg e]
        rcases List.mem_cons.mp h with h | h
        · exact absurd h.symm e
        · exact ih h
  · obtain ⟨c, hc⟩ := Option.isSome_iff_exists.mp h
    exact look_key hc
theorem putF_keys (F : Files) (k : Int) (c : List UInt8) (h : (F.map (·.1)).Nodup) : ((putF F k c).map (·.1)).Nodup := by
  unfold putF
  split
  · have : (F.map (fun p => if p.1 = k then (p.1, c) else p)).map (·.1) = F.map (·.1) := by
      rw [List.map_map]
      refine List.map_congr_left fun p _ => ?_
      show (if p.1 = k then (p.1, c) else p).1 = p.1
      split <;> rfl
    rw [this]; exact h
  · rename_i hn
    rw [List.map_append]
    refine List.nodup_append.mpr ⟨h, by simp, ?_⟩
    intro x hx y hy e
    simp at hy
    subst hy e
    obtain ⟨p, hp, hpe⟩ := List.mem_map.mp hx
    exact hn (List.any_eq_true.mpr ⟨p, hp, by simpa using hpe⟩)
theorem putF_mem {F : Files} {k : Int} {c : List UInt8} {p : Int × List UInt8} (h : p ∈ putF F k c) : p = (k, c) ∨ p ∈ F := by
  unfold putF at h
  split at h
  · obtain ⟨q, hq, rfl⟩ := List.mem_map.mp h
    split
    · rename_i e; exact .inl (by rw [e])
    · exact .inr hq
  · rcases List.mem_append.mp h with h | h
    · exact .inr h
    · exact .inl (List.mem_singleton.mp h)
theorem remF_keys (F : Files) (k : Int) (h : (F.map (·.1)).Nodup) : ((remF F k).map (·.1)).Nodup := h.sublist ((List.filter_sublist).map _)
/-- a file taken away -/
theorem Inv.del {l : List UInt8} {F : Files} {cs : Nat → List Nat} (h : Inv l F cs) {j : Nat} (hj : j < 3) (hz : byteAt l (108 + j) ≠ 0) : Inv ((dropL l (cs j) j).set (108 + j) 0) (remF F (byteAt l (108 + j))) (upd cs j []) := by
  have hb := drop_byte h.part.len (fun k hk => h.part.lt hj hk) hj
  have hP := h.part.drop hj
  have hl : (dropL l (cs j) j).length = 112 := hP.len
  have hs : ∀ p, byteAt ((dropL l (cs j) j).set (108 + j) 0) p = if 108 + j = p then 0 else byteAt (dropL l (cs j) j) p := fun p => byte_set (by omega) p
  have hnm : ∀ i < 3, byteAt ((dropL l (cs j) j).set (108 + j) 0) (108 + i) = if i = j then 0 else byteAt l (108 + i) := fun i hi => by
    rw [hs]
    by_cases e : i = j
    · rw [if_pos (by omega), if_pos e]
    · rw [if_neg (by omega), if_neg e, hb, if_neg]
      rintro (h' | h' | ⟨k, h1, h2⟩)
      · omega
      · omega
      · have := h.part.lt hj h1; omega
  have hfile : ∀ i < 3, i ≠ j → fileB ((dropL l (cs j) j).set (108 + j) 0) (cs i) i = fileB l (cs i) i := fun i hi e => by
    refine fileB_congr ?_ fun b hb' q hq => ?_
    · rw [hs, if_neg (by omega), hb, if_neg]
      rintro (h' | h' | ⟨k, h1, h2⟩)
      · omega
      · omega
      · have := h.part.lt hj h1; omega
    · have := h.part.lt hi hb'
      rw [hs, if_neg (by omega), hb, if_neg]
      rintro (h' | h' | ⟨k, h1, h2⟩) <;> omega
  refine ⟨hP.keep (by rw [List.length_set]; exact hl) fun p hp => by rw [hs, if_neg (by omega)], fun i hi hz' => ?_, fun i hi i' hi' he hn => ?_, fun i hi hn => ?_, fun i hi hn => ?_, fun k hk => ?_, remF_keys F _ h.keys, fun p hp => h.rng p (List.mem_filter.mp hp).1⟩
  · rw [hnm i hi] at hz'
    by_cases e : i = j
    · subst e; exact upd_same ..
    · rw [if_neg e] at hz'; rw [upd_ne e]; exact h.zero i hi hz'
  · rw [hnm i hi] at he hn
    rw [hnm i' hi'] at he
    by_cases e : i = j
    · rw [if_pos e] at hn; exact absurd rfl hn
    · rw [if_neg e] at he hn
      by_cases e' : i' = j
      · rw [if_pos e'] at he; exact absurd he hn
      · rw [if_neg e'] at he; exact h.inj i hi i' hi' he hn
  · rw [hnm i hi] at hn ⊢
    by_cases e : i = j
    · rw [if_pos e] at hn; exact absurd rfl hn
    · rw [if_neg e] at hn ⊢
      rw [look_remF, if_neg (fun q => e (h.inj i hi j hj q hn)), upd_ne e, hfile i hi e]
      exact h.own i hi hn
  · rw [hnm i hi] at hn
    by_cases e : i = j
    · rw [if_pos e] at hn; exact absurd rfl hn
    · rw [if_neg e] at hn
      rw [upd_ne e, hfile i hi e]
      exact h.need i hi hn
  · rw [mem_keys, look_remF] at hk
    by_cases e : k = byteAt l (108 + j)
    · rw [if_pos e] at hk; cases hk
    · rw [if_neg e, ← mem_keys] at hk
      obtain ⟨i, hi, hik⟩ := h.all k hk
      refine ⟨i, hi, ?_⟩
      rw [hnm i hi, if_neg (fun q => e (by rw [← hik, q])), hik]
/-- the slots that bear a name, as pairs -/
def slot1 (l : List UInt8) (cs : Nat → List Nat) (i : Nat) : Files := if byteAt l (108 + i) = 0 then [] else [(byteAt l (108 + i), fileB l (cs i) i)]
def slots (l : List UInt8) (cs : Nat → List Nat) : Files := slot1 l cs 0 ++ (slot1 l cs 1 ++ slot1 l cs 2)
theorem mem_slots {l : List UInt8} {cs : Nat → List Nat} {p : Int × List UInt8} : p ∈ slots l cs ↔ ∃ i < 3, byteAt l (108 + i) ≠ 0 ∧ p = (byteAt l (108 + i), fileB l (cs i) i) := by
  have h1 : ∀ i, p ∈ slot1 l cs i ↔ byteAt l (108 + i) ≠ 0 ∧ p = (byteAt l (108 + i), fileB l (cs i) i) := fun i => by
    unfold slot1
    split
    · rename_i h; exact ⟨fun hm => absurd hm List.not_mem_nil, fun hm => absurd h hm.1⟩
    · rename_i h; exact ⟨fun hm => ⟨h, List.mem_singleton.mp hm⟩, fun hm => List.mem_singleton.mpr hm.2⟩
  unfold slots
  rw [List.mem_append, List.mem_append, h1, h1, h1]
  refine ⟨fun h => ?_, fun ⟨i, hi, h⟩ => ?_⟩
  · rcases h with h | h | h
    · exact ⟨0, by omega, h⟩
    · exact ⟨1, by omega, h⟩
    · exact ⟨2, by omega, h⟩
  · match i, hi with
    | 0, _ => exact .inl h
    | 1, _ => exact .inr (.inl h)
    | 2, _ => exact .inr (.inr h)
theorem Inv.slots_keys {l : List UInt8} {F : Files} {cs : Nat → List Nat} (h : Inv l F cs) : ((slots l cs).map (·.1)).Nodup := by
  have h1 : ∀ i, (slot1 l cs i).map (·.1) = if byteAt l (108 + i) = 0 then [] else [byteAt l (108 + i)] := fun i => by unfold slot1; split <;> rfl
  have hn : ∀ i, ((slot1 l cs i).map (·.1)).Nodup := fun i => by rw [h1]; split <;> simp
  have hd : ∀ i < 3, ∀ j < 3, i ≠ j → ∀ x ∈ (slot1 l cs i).map (·.1), ∀ y ∈ (slot1 l cs j).map (·.1), x ≠ y := fun i hi j hj e x hx y hy q => by
    rw [h1] at hx hy
    split at hx
    · cases hx
    · rename_i hz
      split at hy
      · cases hy
      · rw [List.mem_singleton.mp hx, List.mem_singleton.mp hy] at q
        exact e (h.inj i hi j hj q hz)
  unfold slots
  rw [List.map_append, List.map_append]
  refine List.nodup_append.mpr ⟨hn 0, List.nodup_append.mpr ⟨hn 1, hn 2, hd 1 (by omega) 2 (by omega) (by decide)⟩, ?_⟩
  intro x hx y hy
  rcases List.mem_append.mp hy with hy | hy
  · exact hd 0 (by omega) 1 (by omega) (by decide) x hx y hy
  · exact hd 0 (by omega) 2 (by omega) (by decide) x hx y hy
theorem nodup_of_keys {F : Files} (h : (F.map (·.1)).Nodup) : F.Nodup := by
  induction F with
  | nil => exact List.nodup_nil
  | cons p F ih =>
    rw [List.map_cons, List.nodup_cons] at h
    exact List.nodup_cons.mpr ⟨fun hm => h.1 (List.mem_map_of_mem (f := (·.1)) hm), ih h.2⟩
theorem look_of_mem {F : Files} (h : (F.map (·.1)).Nodup) {p : Int × List UInt8} (hp : p ∈ F) : look F p.1 = some p.2 := by
  obtain ⟨i, hi⟩ := List.mem_iff_getElem?.mp hp
  exact look_at h (i := i) (k := p.1) (c := p.2) hi
theorem Inv.perm {l : List UInt8} {F : Files} {cs : Nat → List Nat} (h : Inv l F cs) : F.Perm (slots l cs) := by
  refine (List.perm_ext_iff_of_nodup (nodup_of_keys h.keys) (nodup_of_keys h.slots_keys)).mpr fun p => ?_
  rw [mem_slots]
  refine ⟨fun hp => ?_, fun ⟨i, hi, hz, e⟩ => ?_⟩
  · obtain ⟨i, hi, e, hz⟩ := h.name (List.mem_map_of_mem (f := (·.1)) hp)
    refine ⟨i, hi, by rw [e]; exact hz, ?_⟩
    have h1 := h.own i hi (by rw [e]; exact hz)
    rw [e, look_of_mem h.keys hp] at h1
    rw [e]
    exact Prod.ext rfl (Option.some.inj h1)
  · rw [e]
    exact look_mem' (h.own i hi hz)
theorem Inv.length {l : List UInt8} {F : Files} {cs : Nat → List Nat} (h : Inv l F cs) : F.length ≤ 3 := by
  rw [h.perm.length_eq]
  have h1 : ∀ i, (slot1 l cs i).length ≤ 1 := fun i => by unfold slot1; split <;> simp
  have := h1 0; have := h1 1; have := h1 2
  unfold slots
  rw [List.length_append, List.length_append]
  omega
theorem slot1_need {l : List UInt8} {F : Files} {cs : Nat → List Nat} (h : Inv l F cs) {i : Nat} (hi : i < 3) : ((slot1 l cs i).map fun p => needN p.2).sum = (cs i).length := by
  unfold slot1
  split
  · rename_i hz; rw [h.zero i hi hz]; rfl
  · rename_i hz; rw [h.need i hi hz]; simp
theorem Inv.need_sum {l : List UInt8} {F : Files} {cs : Nat → List Nat} (h : Inv l F cs) : (F.map fun p => needN p.2).sum ≤ 6 := by
  rw [(h.perm.map _).sum_nat, slots, List.map_append, List.map_append, List.sum_append, List.sum_append, slot1_need h (by omega), slot1_need h (by omega), slot1_need h (by omega)]
  have := h.part.tot_le
  unfold tot at this
  omega
theorem remF_append (F G : Files) (k : Int) : remF (F ++ G) k = remF F k ++ remF G k := List.filter_append ..
/-- the room that the other files take, and a slot for a new one -/
theorem Inv.room {l : List UInt8} {F : Files} {cs : Nat → List Nat} (h : Inv l F cs) {name : Int} {j : Nat} (hj : j < 3) (hn : name ≠ 0)
    (hc : byteAt l (108 + j) = name ∨ (byteAt l (108 + j) = 0 ∧ ∀ i < 3, byteAt l (108 + i) ≠ name)) : ((remF F name).map fun p => needN p.2).sum = tot (upd cs j []) := by
  have hp : (remF F name).Perm (remF (slots l cs) name) := h.perm.filter _
  have h1 : ∀ i < 3, ((remF (slot1 l cs i) name).map fun p => needN p.2).sum = (upd cs j [] i).length := fun i hi => by
    by_cases e : i = j
    · subst e
      rw [upd_same]
      unfold slot1
      split
      · rfl
      · rename_i hz
        rcases hc with hc | hc
        · unfold remF; simp [hc]
        · exact absurd hc.1 hz
    · rw [upd_ne e, ← slot1_need h hi]
      have : remF (slot1 l cs i) name = slot1 l cs i := by
        unfold slot1
        split
        · rfl
        · rename_i hz
          have hne : byteAt l (108 + i) ≠ name := by
            rcases hc with hc | hc
            · exact fun q => e (h.inj i hi j hj (by rw [q, hc]) hz)
            · exact hc.2 i hi
          unfold remF; simp [hne]
      rw [this]
  rw [(hp.map _).sum_nat, slots, remF_append, remF_append, List.map_append, List.map_append, List.sum_append, List.sum_append, h1 0 (by omega), h1 1 (by omega), h1 2 (by omega)]
  unfold tot
  omega
theorem Inv.slot {l : List UInt8} {F : Files} {cs : Nat → List Nat} (h : Inv l F cs) {name : Int} (hno : ∀ i < 3, byteAt l (108 + i) ≠ name) (hlen : (remF F name).length < 3) : ∃ j < 3, byteAt l (108 + j) = 0 ∧ ∀ i < j, byteAt l (108 + i) ≠ 0 := by
  have hex : ∃ j < 3, byteAt l (108 + j) = 0 := Classical.byContradiction fun hn => by
    have hz : ∀ i < 3, byteAt l (108 + i) ≠ 0 := fun i hi q => hn ⟨i, hi, q⟩
    have hp : (remF F name).Perm (remF (slots l cs) name) := h.perm.filter _
    have h1 : ∀ i < 3, (remF (slot1 l cs i) name).length = 1 := fun i hi => by
      unfold slot1 remF
      rw [if_neg (hz i hi)]
      simp [hno i hi]
    rw [hp.length_eq, slots, remF_append, remF_append, List.length_append, List.length_append, h1 0 (by omega), h1 1 (by omega), h1 2 (by omega)] at hlen
    omega
  by_cases h0 : byteAt l (108 + 0) = 0
  · exact ⟨0, by omega, h0, fun i hi => absurd hi (Nat.not_lt_zero i)⟩
  · by_cases h1 : byteAt l (108 + 1) = 0
    · exact ⟨1, by omega, h1, fun i hi => by rw [show i = 0 by omega]; exact h0⟩
    · obtain ⟨j, hj, hz⟩ := hex
      refine ⟨2, by omega, ?_, fun i hi => ?_⟩
      · match j, hj with
        | 0, _ => exact absurd hz h0
        | 1, _ => exact absurd hz h1
        | 2, _ => exact hz
      · match i, hi with
        | 0, _ => exact h0
        | 1, _ => exact h1
theorem sum_cast (F : Files) : (F.map fun p => (needN p.2 : Int)).sum = ((F.map fun p => needN p.2).sum : Nat) := by
  induction F with
  | nil => rfl
  | cons p F ih => rw [List.map_cons, List.sum_cons, ih, List.map_cons, List.sum_cons]; omega
/-- a file put, new or anew -/
theorem Inv.put {l : List UInt8} {F : Files} {cs : Nat → List Nat} (h : Inv l F cs) {name : Int} {c : List UInt8} (h1 : 1 ≤ name) (h5 : name ≤ 5) (hc : c.length ≤ 13) (hfit : fitsB F name c = true) :
    ∃ j l1 cs', Ready l name j l1 ∧ (∀ q < needN c, frees (stp (l1.set (92 + j) (UInt8.ofNat c.length)) j c q).1 ≠ []) ∧ Inv (stp (l1.set (92 + j) (UInt8.ofNat c.length)) j c (needN c)).1 (putF F name c) cs' := by
  obtain ⟨hf1, hf2⟩ := Bool.and_eq_true_iff.mp hfit
  have hf1 := of_decide_eq_true hf1
  have hf2 := of_decide_eq_true hf2
  rw [sum_cast] at hf1
  -- the slot, and the disk made ready
  have hready : ∃ j l1, j < 3 ∧ Ready l name j l1 ∧ Part l1 (upd cs j []) ∧ byteAt l1 (108 + j) = name ∧ (byteAt l (108 + j) = name ∨ (byteAt l (108 + j) = 0 ∧ ∀ i < 3, byteAt l (108 + i) ≠ name)) ∧
      (∀ i < 3, i ≠ j → byteAt l1 (108 + i) = byteAt l (108 + i) ∧ fileB l1 (cs i) i = fileB l (cs i) i) := by
    by_cases hin : ∃ j < 3, byteAt l (108 + j) = name
    · obtain ⟨j, hj, hjn⟩ := hin
      have hz : byteAt l (108 + j) ≠ 0 := by rw [hjn]; omega
      have hb := drop_byte h.part.len (fun k hk => h.part.lt hj hk) hj
      have hlow : ∀ p, 103 ≤ p → byteAt (dropL l (cs j) j) p = byteAt l p := fun p hp => by
        rw [hb, if_neg]
        rintro (h' | h' | ⟨k, h1, h2⟩)
        · omega
        · omega
        · have := h.part.lt hj h1; omega
      refine ⟨j, dropL l (cs j) j, hj, .old hj hjn (fun i hi q => ?_) (h.part.ch j hj) ?_, h.part.drop hj, by rw [hlow _ (by omega)]; exact hjn, .inl hjn, fun i hi e => ⟨hlow _ (by omega), ?_⟩⟩
      · have := h.inj i (by omega) j hj (by rw [q, hjn]) (by rw [q]; omega)
        omega
      · have := List.Nodup.length_le_of_subset (l₂ := List.range 6) (h.part.nd j hj) fun k hk => List.mem_range.mpr (h.part.lt hj hk)
        rw [List.length_range] at this; omega
      · refine fileB_congr ?_ fun b hb' q hq => ?_
        · rw [hb, if_neg]
          rintro (h' | h' | ⟨k, h1, h2⟩)
          · omega
          · omega
          · have := h.part.lt hj h1; omega
        · have := h.part.lt hi hb'
          rw [hb, if_neg]
          rintro (h' | h' | ⟨k, h1, h2⟩) <;> omega
    · have hno : ∀ i < 3, byteAt l (108 + i) ≠ name := fun i hi q => hin ⟨i, hi, q⟩
      obtain ⟨j, hj, hz, hbef⟩ := h.slot hno hf2
      have hl := h.part.len
      have hs : ∀ p, byteAt (l.set (108 + j) (UInt8.ofNat name.toNat)) p = if 108 + j = p then name else byteAt l p := fun p => by
        rw [byte_set (by omega), UInt8.toNat_ofNat_of_lt' (by show name.toNat < 256; omega)]
        rw [show ((name.toNat : Nat) : Int) = name by omega]
      have hu : upd cs j [] = cs := funext fun i => by
        by_cases e : i = j
        · subst e; rw [upd_same, h.zero i hj hz]
        · exact upd_ne e
      refine ⟨j, _, hj, .new hno hj hz hbef, ?_, by rw [hs, if_pos rfl], .inr ⟨hz, hno⟩, fun i hi e => ⟨by rw [hs, if_neg (by omega)], ?_⟩⟩
      · rw [hu]
        exact h.part.keep (by rw [List.length_set]; exact hl) fun p hp => by rw [hs, if_neg (by omega)]
      · refine fileB_congr (by rw [hs, if_neg (by omega)]) fun b hb' q hq => ?_
        have := h.part.lt hi hb'
        rw [hs, if_neg (by omega)]
  obtain ⟨j, l1, hj, hR, hP1, hname, hcase, hoth⟩ := hready
  have hroom := h.room hj (name := name) (by omega) hcase
  have hl1 := hP1.len
  have hs : ∀ p, byteAt (l1.set (92 + j) (UInt8.ofNat c.length)) p = if 92 + j = p then (c.length : Int) else byteAt l1 p := fun p => by
    rw [byte_set (by omega), UInt8.toNat_ofNat_of_lt' (by show c.length < 256; omega)]
  have hP2 : Part (l1.set (92 + j) (UInt8.ofNat c.length)) (upd cs j []) := hP1.keep (by rw [List.length_set]; exact hl1) fun p hp => by rw [hs, if_neg (by omega)]
  obtain ⟨⟨bs, hL⟩, hfr⟩ := put_loop hP2 hj (c := c) (by rw [← hroom]; omega) (needN c) (Nat.le_refl _)
  generalize hLe : (stp (l1.set (92 + j) (UInt8.ofNat c.length)) j c (needN c)).1 = L at hL ⊢
  refine ⟨j, l1, upd cs j bs, hR, hfr, ?_⟩
  rw [hLe]
  have hnm : ∀ i < 3, byteAt L (108 + i) = if i = j then name else byteAt l (108 + i) := fun i hi => by
    rw [hL.keep _ (by omega) (by omega), hs, if_neg (by omega)]
    by_cases e : i = j
    · subst e; rw [if_pos rfl]; exact hname
    · rw [if_neg e]; exact (hoth i hi e).1
  have hfj : fileB L bs j = c := by
    refine file_of ?_ hL.lenb fun x hx => hL.cnt x hx (by have := need4 c; omega)
    rw [hL.keep _ (by omega) (by omega), hs, if_pos rfl]
  have hfo : ∀ i < 3, i ≠ j → fileB L (cs i) i = fileB l (cs i) i := fun i hi e => by
    rw [← (hoth i hi e).2]
    refine fileB_congr ?_ fun b hb q hq => ?_
    · rw [hL.keep _ (by omega) (by omega), hs, if_neg (by omega)]
    · have := h.part.lt hi hb
      rw [hL.data i hi e b hb q hq, hs, if_neg (by omega)]
  have hne : ∀ i < 3, i ≠ j → byteAt l (108 + i) ≠ 0 → byteAt l (108 + i) ≠ name := fun i hi e hz q => by
    rcases hcase with hc1 | hc1
    · exact e (h.inj i hi j hj (by rw [q, hc1]) hz)
    · exact hc1.2 i hi q
  refine ⟨hL.part, fun i hi hz => ?_, fun i hi i' hi' he hn => ?_, fun i hi hn => ?_, fun i hi hn => ?_, fun k hk => ?_, putF_keys F name c h.keys, fun p hp => ?_⟩
  · rw [hnm i hi] at hz
    by_cases e : i = j
    · rw [if_pos e] at hz; omega
    · rw [if_neg e] at hz; rw [upd_ne e]; exact h.zero i hi hz
  · rw [hnm i hi] at he hn
    rw [hnm i' hi'] at he
    by_cases e : i = j
    · by_cases e' : i' = j
      · rw [e, e']
      · rw [if_pos e] at he hn
        rw [if_neg e'] at he
        exact absurd he.symm (hne i' hi' e' (by rw [← he]; exact hn))
    · rw [if_neg e] at he hn
      by_cases e' : i' = j
      · rw [if_pos e'] at he
        exact absurd he (hne i hi e hn)
      · rw [if_neg e'] at he; exact h.inj i hi i' hi' he hn
  · rw [hnm i hi] at hn ⊢
    by_cases e : i = j
    · subst e
      rw [if_pos rfl, look_putF, if_pos rfl, upd_same, hfj]
    · rw [if_neg e] at hn ⊢
      rw [look_putF, if_neg (hne i hi e hn), upd_ne e, hfo i hi e]
      exact h.own i hi hn
  · rw [hnm i hi] at hn
    by_cases e : i = j
    · subst e
      rw [upd_same, hfj]; exact hL.lenb
    · rw [if_neg e] at hn
      rw [upd_ne e, hfo i hi e]
      exact h.need i hi hn
  · rw [mem_keys, look_putF] at hk
    by_cases e : k = name
    · exact ⟨j, hj, by rw [hnm j hj, if_pos rfl, e]⟩
    · rw [if_neg e, ← mem_keys] at hk
      obtain ⟨i, hi, hik⟩ := h.all k hk
      refine ⟨i, hi, ?_⟩
      have hij : i ≠ j := fun q => by
        subst q
        rcases hcase with hc1 | hc1
        · exact e (by rw [← hik, hc1])
        · obtain ⟨p, hp, hpk⟩ := List.mem_map.mp hk
          have := h.rng p hp
          rw [hc1.1] at hik; omega
      rw [hnm i hi, if_neg hij, hik]
  · rcases putF_mem hp with rfl | hp
    · exact ⟨h1, h5, hc⟩
    · exact h.rng p hp

/-! P4 -/
theorem Part.small {l : List UInt8} {cs : Nat → List Nat} (h : Part l cs) {j : Nat} (hj : j < 3) : (cs j).length ≤ 7 := by
  have := List.Nodup.length_le_of_subset (l₂ := List.range 6) (h.nd j hj) fun k hk => List.mem_range.mpr (h.lt hj hk)
  rw [List.length_range] at this; omega
theorem told_eq (l : List UInt8) (cs : Nat → List Nat) : told l 3 = (slots l cs).map (·.1) := by
  have h1 : ∀ i, (slot1 l cs i).map (·.1) = if byteAt l (108 + i) = 0 then [] else [byteAt l (108 + i)] := fun i => by unfold slot1; split <;> rfl
  unfold slots
  rw [List.map_append, List.map_append, h1, h1, h1]
  show (([] ++ _) ++ _) ++ _ = _
  rw [List.nil_append, List.append_assoc]
theorem Inv.fine {l : List UInt8} {F : Files} {cs : Nat → List Nat} (h : Inv l F cs) : Fine l F cs :=
  ⟨h.part.len, h.part.ch, fun j hj => h.part.small hj, h.inj, by rw [told_eq l cs, List.length_map, h.perm.length_eq], h.own⟩
theorem Inv.used {l : List UInt8} {F : Files} {cs : Nat → List Nat} (h : Inv l F cs) {ns : List Int} (hp : ns.Perm (natsI (taken l cs 3))) (hs : ns.Pairwise (· ≤ ·)) : ns = natsI (usedL l) := by
  have h1 : ∀ i < 3, (if byteAt l (108 + i) = 0 then [] else cs i) = cs i := fun i hi => by
    split
    · rename_i hz; exact (h.zero i hi hz).symm
    · rfl
  have ht : taken l cs 3 = cs 0 ++ (cs 1 ++ cs 2) := by
    show (([] ++ _) ++ _) ++ _ = _
    rw [List.nil_append, List.append_assoc, h1 0 (by omega), h1 1 (by omega), h1 2 (by omega)]
  have hn : (usedL l).Nodup := (List.nodup_range (n := 6)).filter _
  have hpm : (taken l cs 3).Perm (usedL l) := by
    rw [ht]
    refine (List.perm_ext_iff_of_nodup h.part.all_nodup hn).mpr fun k => ?_
    rw [mem_all]
    unfold usedL
    rw [List.mem_filter, List.mem_range]
    refine ⟨fun ⟨i, hi, hm⟩ => ?_, fun ⟨hk, hz⟩ => ?_⟩
    · have hk := h.part.lt hi hm
      exact ⟨hk, bne_iff_ne.mpr fun q => (h.part.fre k hk).mp q i hi hm⟩
    · refine Classical.byContradiction fun hno => bne_iff_ne.mp hz ((h.part.fre k hk).mpr fun i hi hm => hno ⟨i, hi, hm⟩)
  refine (hp.trans (hpm.map _)).eq_of_pairwise (le := (· ≤ ·)) (fun a b _ _ => Int.le_antisymm) hs ?_
  rw [List.pairwise_map]
  exact (List.pairwise_lt_range.filter _).imp fun h => by omega
theorem Inv.same {l : List UInt8} {F : Files} {cs : Nat → List Nat} (h : Inv l F cs) {ns : List Int} (hns : ns.Perm (F.map (·.1))) (hs : ns.Pairwise (· ≤ ·)) {G : Files} (hG : G.Perm (slots l cs)) (hGs : (G.map (·.1)).Pairwise (· ≤ ·)) : G = gather F ns := by
  have h1 : G.map (·.1) = ns := ((hG.map _).trans ((h.perm.map _).symm.trans hns.symm)).eq_of_pairwise (le := (· ≤ ·)) (fun a b _ _ => Int.le_antisymm) hGs hs
  have h2 : ∀ p ∈ G, (p.1, (look F p.1).getD []) = p := fun p hp => by
    rw [look_of_mem h.keys (h.perm.mem_iff.mpr (hG.mem_iff.mp hp))]; rfl
  unfold gather
  rw [← h1, List.map_map]
  exact ((List.map_congr_left h2).trans (List.map_id _)).symm
/-- of a dict's list, what the image asks -/
theorem gather_perm {F : Files} (hk : (F.map (·.1)).Nodup) {ns : List Int} (hns : ns.Perm (F.map (·.1))) : (gather F ns).Perm F := by
  have h2 : ∀ p ∈ F, (p.1, (look F p.1).getD []) = p := fun p hp => by rw [look_of_mem hk hp]; rfl
  have : (F.map (·.1)).map (fun k => (k, (look F k).getD [])) = F := by
    rw [List.map_map]
    exact (List.map_congr_left h2).trans (List.map_id _)
  have h3 := hns.map fun k => (k, (look F k).getD [])
  rw [this] at h3
  exact h3
theorem Inv.congr {l : List UInt8} {F G : Files} {cs : Nat → List Nat} (h : Inv l G cs) (hp : G.Perm F) : Inv l F cs := by
  have hk : (F.map (·.1)).Nodup := (hp.map _).nodup_iff.mp h.keys
  have hl : ∀ {k c}, look G k = some c → look F k = some c := fun hc => look_of_mem hk (hp.mem_iff.mp (look_mem' hc))
  exact ⟨h.part, h.zero, h.inj, fun j hj hz => hl (h.own j hj hz), h.need, fun k hkm => h.all k ((hp.map _).mem_iff.mpr hkm), hk, fun p hpm => h.rng p (hp.mem_iff.mpr hpm)⟩

/-! P5 -/
theorem byte_left {a b : List UInt8} {i : Nat} (h : i < a.length) : byteAt (a ++ b) i = byteAt a i := by
  unfold byteAt
  rw [List.getD_eq_getElem?_getD, List.getD_eq_getElem?_getD, List.getElem?_append_left h]
theorem byte_right {a b : List UInt8} (i : Nat) : byteAt (a ++ b) (a.length + i) = byteAt b i := by
  unfold byteAt
  rw [List.getD_eq_getElem?_getD, List.getD_eq_getElem?_getD, List.getElem?_append_right (by omega), Nat.add_sub_cancel_left]
theorem byte_rowB {ns : List Int} (h : ∀ n ∈ ns, 0 ≤ n ∧ n ≤ 255) {i : Nat} (hi : i < ns.length) : byteAt (rowB ns) i = ns.getD i 0 := by
  have hm : ns[i] ∈ ns := List.getElem_mem hi
  have := h _ hm
  unfold byteAt rowB
  rw [List.getD_eq_getElem?_getD, List.getElem?_map, List.getElem?_eq_getElem hi, List.getD_eq_getElem?_getD, List.getElem?_eq_getElem hi]
  show ((UInt8.ofNat ns[i].toNat).toNat : Int) = ns[i]
  rw [UInt8.toNat_ofNat_of_lt' (by show ns[i].toNat < 256; omega)]
  omega
theorem rO_row {s : Img} {i x : Nat} (h : ∀ n ∈ s.row i, 0 ≤ n ∧ n ≤ 255) (hx : x < (s.row i).length) : byteAt (rO s (i + 1)) (4 + x) = (s.row i).getD x 0 := by
  show byteAt (leI 4 _ ++ (rowB _ ++ addV _ _)) (4 + x) = _
  have e : (leI 4 ((s.row i).length : Int)).length = 4 := leI_length 4 _
  have h1 := byte_right (a := leI 4 ((s.row i).length : Int)) (b := rowB (s.row i) ++ addV (s.row i).length (rO s i)) x
  rw [e] at h1
  rw [h1, byte_left (by rw [rowB_length]; exact hx), byte_rowB h hx]
theorem rO_next {s : Img} {i n d y : Nat} (hn : (s.row i).length = n) (hd : padI ((rO s i).length + n) 4 = d) : byteAt (rO s (i + 1)) (4 + (n + (d + y))) = byteAt (rO s i) y := by
  show byteAt (leI 4 _ ++ (rowB _ ++ addV _ _)) _ = _
  have e : (leI 4 ((s.row i).length : Int)).length = 4 := leI_length 4 _
  have e2 : (rowB (s.row i)).length = n := by rw [rowB_length]; exact hn
  have e3 : (List.replicate (padI ((rO s i).length + (s.row i).length) 4) (0 : UInt8)).length = d := by rw [List.length_replicate, hn, hd]
  have h1 := byte_right (a := leI 4 ((s.row i).length : Int)) (b := rowB (s.row i) ++ addV (s.row i).length (rO s i)) (n + (d + y))
  rw [e] at h1
  rw [h1]
  have h2 := byte_right (a := rowB (s.row i)) (b := addV (s.row i).length (rO s i)) (d + y)
  rw [e2] at h2
  rw [h2]
  have h3 := byte_right (a := List.replicate (padI ((rO s i).length + (s.row i).length) 4) (0 : UInt8)) (b := rO s i) y
  rw [e3] at h3
  exact h3
structure ImgAt (l : List UInt8) (s : Img) : Prop where
  nm : ∀ j < 3, byteAt l (108 + j) = s.nm.getD j 0
  hd : ∀ j < 3, byteAt l (100 + j) = s.hd.getD j 0
  sz : ∀ j < 3, byteAt l (92 + j) = s.sz.getD j 0
  ch : ∀ k < 6, byteAt l (80 + k) = s.ch.getD k 0
  dt : ∀ x < 24, byteAt l (52 + x) = s.dt.getD x 0
theorem img_at {G : Files} (hk : ∀ p ∈ G, 0 ≤ p.1 ∧ p.1 ≤ 255 ∧ p.2.length ≤ 13) (h6 : (G.map fun p => needN p.2).sum ≤ 6) : ImgAt (imgB G) (imgS G G.length) := by
  have hok := imgS_ok G G.length
  have hin := imgS_in hk h6 G.length
  obtain ⟨r1, r2, r3, r4, r5⟩ := rO_length hok
  rw [img_eq]
  generalize imgS G G.length = S at *
  have hH : HDR.length = 48 := rfl
  have hb : ∀ y, byteAt (HDR ++ rO S 5) (48 + y) = byteAt (rO S 5) y := fun y => by rw [← hH]; exact byte_right y
  have n4 : ∀ y, byteAt (rO S 5) (28 + y) = byteAt (rO S 4) y := fun y => by
    have := rO_next (s := S) (i := 4) (n := 24) (d := 0) (y := y) hok.d (by rw [r4]; rfl)
    rw [← this]; congr 1; omega
  have n3 : ∀ y, byteAt (rO S 4) (12 + y) = byteAt (rO S 3) y := fun y => by
    have := rO_next (s := S) (i := 3) (n := 6) (d := 2) (y := y) hok.c (by rw [r3]; rfl)
    rw [← this]; congr 1; omega
  have n2 : ∀ y, byteAt (rO S 3) (8 + y) = byteAt (rO S 2) y := fun y => by
    have := rO_next (s := S) (i := 2) (n := 3) (d := 1) (y := y) hok.z (by rw [r2]; rfl)
    rw [← this]; congr 1; omega
  have n1 : ∀ y, byteAt (rO S 2) (8 + y) = byteAt (rO S 1) y := fun y => by
    have := rO_next (s := S) (i := 1) (n := 3) (d := 1) (y := y) hok.h (by rw [r1]; rfl)
    rw [← this]; congr 1; omega
  refine ⟨fun j hj => ?_, fun j hj => ?_, fun j hj => ?_, fun k hk => ?_, fun x hx => ?_⟩
  · rw [show 108 + j = 48 + (28 + (12 + (8 + (8 + (4 + j))))) by omega, hb, n4, n3, n2, n1]
    exact rO_row (i := 0) (hin 0) (by show j < S.nm.length; rw [hok.n]; exact hj)
  · rw [show 100 + j = 48 + (28 + (12 + (8 + (4 + j)))) by omega, hb, n4, n3, n2]
    exact rO_row (i := 1) (hin 1) (by show j < S.hd.length; rw [hok.h]; exact hj)
  · rw [show 92 + j = 48 + (28 + (12 + (4 + j))) by omega, hb, n4, n3]
    exact rO_row (i := 2) (hin 2) (by show j < S.sz.length; rw [hok.z]; exact hj)
  · rw [show 80 + k = 48 + (28 + (4 + k)) by omega, hb, n4]
    exact rO_row (i := 3) (hin 3) (by show k < S.ch.length; rw [hok.c]; exact hk)
  · rw [show 52 + x = 48 + (4 + x) by omega, hb]
    exact rO_row (i := 4) (hin 4) (by show x < S.dt.length; rw [hok.d]; exact hx)
theorem img_length (G : Files) : (imgB G).length = 112 := by
  rw [img_eq, List.length_append, (rO_length (imgS_ok G G.length)).2.2.2.2]
  rfl
theorem img_hdr (G : Files) : ∀ q < 4, byteAt (imgB G) (4 + q) = [(70 : Int), 65, 84, 49].getD q 0 := fun q hq => by
  rw [img_eq, byte_left (by show 4 + q < 48; omega)]
  revert q; decide
theorem id_of {l : List UInt8} (hl : l.length = 112) (h : ∀ q < 4, byteAt l (4 + q) = [(70 : Int), 65, 84, 49].getD q 0) : (l.drop 4).take 4 = [70, 65, 84, 49] := by
  have hb : ∀ q < 4, l[4 + q]? = some ([(70 : UInt8), 65, 84, 49].getD q 0) := fun q hq => by
    have h1 := h q hq
    have hlt : 4 + q < l.length := by omega
    rw [List.getElem?_eq_getElem hlt]
    unfold byteAt at h1
    rw [List.getD_eq_getElem?_getD, List.getElem?_eq_getElem hlt] at h1
    congr 1
    apply UInt8.toNat_inj.mp
    have h2 : ((l[4 + q] : UInt8).toNat : Int) = [(70 : Int), 65, 84, 49].getD q 0 := h1
    have h3 : ∀ q < 4, [(70 : Int), 65, 84, 49].getD q 0 = (([(70 : UInt8), 65, 84, 49].getD q 0).toNat : Int) := by decide
    rw [h3 q hq] at h2
    omega
  refine List.ext_getElem? fun x => ?_
  rcases Nat.lt_or_ge x 4 with hx | hx
  · rw [List.getElem?_take_of_lt hx, List.getElem?_drop, hb x hx]
    revert x; decide
  · rw [List.getElem?_eq_none (by rw [List.length_take]; omega), List.getElem?_eq_none (by simpa using hx)]
theorem dataI_at {dt : List Int} {bk : Nat} {c : List UInt8} (h : 4 * bk + c.length ≤ dt.length) : ∀ n ≤ c.length, ∀ y, (dataI dt bk c n).getD y 0 = if 4 * bk ≤ y ∧ y < 4 * bk + n then ((c.getD (y - 4 * bk) 0).toNat : Int) else dt.getD y 0
  | 0, _, y => by rw [if_neg (by omega)]; rfl
  | n + 1, hn, y => by
    have ih := dataI_at h n (by omega) y
    rw [dataI]
    by_cases e : 4 * bk + n = y
    · subst e
      rw [List.getD_eq_getElem?_getD, List.getElem?_set_self (by rw [dataI_length]; omega), if_pos (by omega), Nat.add_sub_cancel_left]; rfl
    · rw [List.getD_eq_getElem?_getD, List.getElem?_set_ne e, ← List.getD_eq_getElem?_getD, ih]
      by_cases h2 : 4 * bk ≤ y ∧ y < 4 * bk + n
      · rw [if_pos h2, if_pos (by omega)]
      · rw [if_neg h2, if_neg (by omega)]
theorem need_small {c : List UInt8} (h : c.length ≤ 4) : (needN c = 0 ∧ c = []) ∨ (needN c = 1 ∧ 1 ≤ c.length) := by
  unfold needN
  cases c with
  | nil => exact .inl ⟨rfl, rfl⟩
  | cons a c =>
    refine .inr ⟨?_, by simp⟩
    simp only [List.length_cons] at h ⊢
    omega
/-- a small file on a fresh image -/
theorem file_small {l : List UInt8} {s : Img} (hA : ImgAt l s) {i b : Nat} {c : List UInt8} {bs : List Nat} (hi : i < 3) (hc : c.length ≤ 4) (hs : s.sz.getD i 0 = c.length) (hb : b < 6)
    (hcase : (bs = [] ∧ c = []) ∨ (bs = [b] ∧ needN c = 1)) (hd : ∀ x < c.length, s.dt.getD (4 * b + x) 0 = (c.getD x 0).toNat) : fileB l bs i = c ∧ bs.length = needN c := by
  have hz : byteAt l (92 + i) = c.length := by rw [hA.sz i hi, hs]
  rcases hcase with ⟨rfl, rfl⟩ | ⟨rfl, hn⟩
  · exact ⟨file_of hz rfl fun x hx => absurd hx (Nat.not_lt_zero x), rfl⟩
  · refine ⟨file_of hz hn.symm fun x hx => ?_, hn.symm⟩
    show (blk l b ++ [])[x]? = _
    rw [List.append_nil, List.getElem?_map, List.getElem?_range (by omega)]
    show some (byteAt l (52 + (4 * b + x))) = _
    rw [hA.dt _ (by omega), hd x hx]
theorem inv_small {l : List UInt8} {S : Img} {G : Files} {cs : Nat → List Nat} (hA : ImgAt l S) (hl : l.length = 112) (hh : ∀ q < 4, byteAt l (4 + q) = [(70 : Int), 65, 84, 49].getD q 0)
    (hch : ∀ j < 3, (cs j = [] ∧ S.hd.getD j 0 = 0) ∨ ∃ b : Nat, b < 6 ∧ cs j = [b] ∧ S.hd.getD j 0 = b + 1 ∧ S.ch.getD b 0 = 255)
    (hdis : ∀ i < 3, ∀ j < 3, ∀ k, k ∈ cs i → k ∈ cs j → i = j) (hfre : ∀ k < 6, S.ch.getD k 0 = 0 ↔ ∀ j < 3, k ∉ cs j)
    (hfile : ∀ j < 3, (S.nm.getD j 0 = 0 ∧ cs j = []) ∨ ∃ p ∈ G, S.nm.getD j 0 = p.1 ∧ fileB l (cs j) j = p.2 ∧ (cs j).length = needN p.2)
    (hinj : ∀ i < 3, ∀ j < 3, S.nm.getD i 0 = S.nm.getD j 0 → S.nm.getD i 0 ≠ 0 → i = j) (hall : ∀ p ∈ G, ∃ j < 3, S.nm.getD j 0 = p.1)
    (hk : (G.map (·.1)).Nodup) (hr : ∀ p ∈ G, 1 ≤ p.1 ∧ p.1 ≤ 5 ∧ p.2.length ≤ 13) : Inv l G cs := by
  have hP : Part l cs := ⟨hl, hh, fun j hj => by
      rw [hA.hd j hj]
      rcases hch j hj with ⟨e, h⟩ | ⟨b, hb, e, h, h255⟩
      · rw [e, h]; exact .inl rfl
      · rw [e, h]; exact ⟨rfl, hb, by rw [hA.ch b hb, h255]; exact .inr rfl⟩, fun j hj => by
      rcases hch j hj with ⟨e, h⟩ | ⟨b, hb, e, h, h255⟩ <;> rw [e] <;> simp, hdis, fun k hk => by rw [hA.ch k hk]; exact hfre k hk⟩
  refine ⟨hP, fun j hj hz => ?_, fun i hi j hj he hn => ?_, fun j hj hn => ?_, fun j hj hn => ?_, fun k hkm => ?_, hk, hr⟩
  · rw [hA.nm j hj] at hz
    rcases hfile j hj with ⟨_, e⟩ | ⟨p, hp, e, _⟩
    · exact e
    · have := hr p hp; omega
  · rw [hA.nm i hi] at he hn
    rw [hA.nm j hj] at he
    exact hinj i hi j hj he hn
  · rw [hA.nm j hj] at hn ⊢
    rcases hfile j hj with ⟨e, _⟩ | ⟨p, hp, e, e2, _⟩
    · exact absurd e hn
    · rw [e, e2]; exact look_of_mem hk hp
  · rw [hA.nm j hj] at hn
    rcases hfile j hj with ⟨e, _⟩ | ⟨p, hp, e, e2, e3⟩
    · exact absurd e hn
    · rw [e2, e3]
  · obtain ⟨p, hp, rfl⟩ := List.mem_map.mp hkm
    obtain ⟨j, hj, e⟩ := hall p hp
    exact ⟨j, hj, by rw [hA.nm j hj, e]⟩
theorem inv_init0 : ∃ cs, Inv (imgB []) [] cs := by
  have hA := img_at (G := []) (fun _ h => (nomatch h)) (by decide)
  refine ⟨fun _ => [], inv_small hA (img_length _) (img_hdr _) (fun j hj => .inl ⟨rfl, ?_⟩) (fun _ _ _ _ _ h => (nomatch h)) (fun k hk => ⟨fun _ _ _ h => (nomatch h), fun _ => ?_⟩) (fun j hj => .inl ⟨?_, rfl⟩) (fun i hi j hj he hn => absurd ?_ hn) (fun _ h => (nomatch h)) List.nodup_nil (fun _ h => (nomatch h))⟩
  · revert j; decide
  · revert k; decide
  · revert j; decide
  · clear hn he; revert i; decide
theorem inv_init1 {k : Int} {c : List UInt8} (h1 : 1 ≤ k) (h5 : k ≤ 5) (hc : c.length ≤ 4) : ∃ cs, Inv (imgB [(k, c)]) [(k, c)] cs := by
  have hk : ∀ p ∈ [(k, c)], 0 ≤ p.1 ∧ p.1 ≤ 255 ∧ p.2.length ≤ 13 := fun p hp => by rw [List.mem_singleton.mp hp]; exact ⟨by show 0 ≤ k; omega, by show k ≤ 255; omega, by show c.length ≤ 13; omega⟩
  have hsm := need_small hc
  have hA := img_at hk (by show needN c + 0 ≤ 6; omega)
  have hS : imgS [(k, c)] [(k, c)].length = imgStep (imgS [(k, c)] 0) 0 (k, c) := rfl
  rw [hS] at hA
  have hf := file_small hA (i := 0) (b := 0) (c := c) (bs := if needN c = 1 then [0] else []) (by omega) hc rfl (by omega) (by
    rcases hsm with ⟨a, b⟩ | ⟨a, b⟩
    · rw [if_neg (by omega)]; exact .inl ⟨rfl, b⟩
    · rw [if_pos a]; exact .inr ⟨rfl, a⟩) (fun x hx => by
      show (dataI (List.replicate 24 0) 0 c c.length).getD _ 0 = _
      rw [dataI_at (by rw [List.length_replicate]; omega) _ (Nat.le_refl _), if_pos (by omega)]
      congr 3; omega)
  refine ⟨fun j => if j = 0 then (if needN c = 1 then [0] else []) else [], inv_small hA (img_length _) (img_hdr _) (fun j hj => ?_) (fun i hi j hj k hk hk' => ?_) (fun b hb => ?_) (fun j hj => ?_) (fun i hi j hj he hn => ?_) (fun p hp => ⟨0, by omega, by rw [List.mem_singleton.mp hp]; rfl⟩) (by simp) (fun p hp => by rw [List.mem_singleton.mp hp]; exact ⟨h1, h5, by show c.length ≤ 13; omega⟩)⟩
  · match j, hj with
    | 0, _ =>
      rcases hsm with ⟨a, _⟩ | ⟨a, _⟩
      · exact .inl ⟨by simp [a], by simp [imgStep, imgS, a]⟩
      · exact .inr ⟨0, by omega, by simp [a], by simp [imgStep, imgS, a], by simp [imgStep, imgS, a, chainI]⟩
    | 1, _ => exact .inl ⟨rfl, by simp [imgStep, imgS]⟩
    | 2, _ => exact .inl ⟨rfl, by simp [imgStep, imgS]⟩
  · have h0 : ∀ i, k ∈ (if i = 0 then (if needN c = 1 then [0] else []) else [] : List Nat) → i = 0 := fun i h => by
      split at h
      · assumption
      · cases h
    rw [h0 i hk, h0 j hk']
  · rcases hsm with ⟨a, _⟩ | ⟨a, _⟩
    · simp only [imgStep, imgS, a, chainI]
      revert b; decide
    · simp only [imgStep, imgS, a, chainI]
      revert b; decide
  · match j, hj with
    | 0, _ => exact .inr ⟨(k, c), .head _, rfl, hf.1, hf.2⟩
    | 1, _ => exact .inl ⟨by simp [imgStep, imgS], rfl⟩
    | 2, _ => exact .inl ⟨by simp [imgStep, imgS], rfl⟩
  · have h0 : ∀ i < 3, (imgStep (imgS [(k, c)] 0) 0 (k, c)).nm.getD i 0 ≠ 0 → i = 0 := fun i hi h => by
      match i, hi with
      | 0, _ => rfl
      | 1, _ => exact absurd (by simp [imgStep, imgS]) h
      | 2, _ => exact absurd (by simp [imgStep, imgS]) h
    rw [h0 i hi hn, h0 j hj (by rw [← he]; exact hn)]
theorem inv_init2 {k m : Int} {c e : List UInt8} (h1 : 1 ≤ k) (h5 : k ≤ 5) (hc : c.length ≤ 4) (g1 : 1 ≤ m) (g5 : m ≤ 5) (he : e.length ≤ 4) (hkm : k ≠ m) : ∃ cs, Inv (imgB [(k, c), (m, e)]) [(k, c), (m, e)] cs := by
  have hr : ∀ p ∈ [(k, c), (m, e)], 1 ≤ p.1 ∧ p.1 ≤ 5 ∧ p.2.length ≤ 13 := fun p hp => by
    rcases List.mem_cons.mp hp with rfl | hp
    · exact ⟨h1, h5, by show c.length ≤ 13; omega⟩
    · rw [List.mem_singleton.mp hp]; exact ⟨g1, g5, by show e.length ≤ 13; omega⟩
  have hsm := need_small hc
  have hsm2 := need_small he
  have hA := img_at (G := [(k, c), (m, e)]) (fun p hp => by have := hr p hp; omega) (by show needN c + (needN e + 0) ≤ 6; omega)
  have hS : imgS [(k, c), (m, e)] [(k, c), (m, e)].length = imgStep (imgStep (imgS [] 0) 0 (k, c)) 1 (m, e) := rfl
  rw [hS] at hA
  have hbk : (imgStep (imgS [] 0) 0 (k, c)).bk = needN c := Nat.zero_add _
  have hf := file_small hA (i := 0) (b := 0) (c := c) (bs := if needN c = 1 then [0] else []) (by omega) hc rfl (by omega) (by
    rcases hsm with ⟨a, b⟩ | ⟨a, b⟩
    · rw [if_neg (by omega)]; exact .inl ⟨rfl, b⟩
    · rw [if_pos a]; exact .inr ⟨rfl, a⟩) (fun x hx => by
      show (dataI (dataI (List.replicate 24 0) 0 c c.length) (imgStep (imgS [] 0) 0 (k, c)).bk e e.length).getD _ 0 = _
      rw [hbk, dataI_at (by rw [dataI_length, List.length_replicate]; omega) _ (Nat.le_refl _), if_neg (by
        rcases hsm with ⟨a, b⟩ | ⟨a, b⟩
        · rw [b] at hx; exact absurd hx (Nat.not_lt_zero x)
        · omega), dataI_at (by rw [List.length_replicate]; omega) _ (Nat.le_refl _), if_pos (by omega)]
      congr 3; omega)
  have hf2 := file_small hA (i := 1) (b := needN c) (c := e) (bs := if needN e = 1 then [needN c] else []) (by omega) he rfl (by omega) (by
    rcases hsm2 with ⟨a, b⟩ | ⟨a, b⟩
    · rw [if_neg (by omega)]; exact .inl ⟨rfl, b⟩
    · rw [if_pos a]; exact .inr ⟨rfl, a⟩) (fun x hx => by
      show (dataI (dataI (List.replicate 24 0) 0 c c.length) (imgStep (imgS [] 0) 0 (k, c)).bk e e.length).getD _ 0 = _
      rw [hbk, dataI_at (by rw [dataI_length, List.length_replicate]; omega) _ (Nat.le_refl _), if_pos (by omega)]
      congr 3; omega)
  have hnm0 : ∀ i < 3, ((imgStep (imgStep (imgS [] 0) 0 (k, c)) 1 (m, e)).nm).getD i 0 ≠ 0 → i = 0 ∨ i = 1 := fun i hi h => by
    match i, hi with
    | 0, _ => exact .inl rfl
    | 1, _ => exact .inr rfl
    | 2, _ => exact absurd (by simp [imgStep, imgS]) h
  have e0 : ((imgStep (imgStep (imgS [] 0) 0 (k, c)) 1 (m, e)).nm).getD 0 0 = k := rfl
  have e1 : ((imgStep (imgStep (imgS [] 0) 0 (k, c)) 1 (m, e)).nm).getD 1 0 = m := rfl
  refine ⟨fun j => if j = 0 then (if needN c = 1 then [0] else []) else if j = 1 then (if needN e = 1 then [needN c] else []) else [], inv_small hA (img_length _) (img_hdr _) (fun j hj => ?_) (fun i hi j hj b hb hb' => ?_) (fun b hb => ?_) (fun j hj => ?_) (fun i hi j hj hq hn => ?_) (fun p hp => ?_) (by simp [hkm]) hr⟩
  · match j, hj with
    | 0, _ =>
      rcases hsm with ⟨a, _⟩ | ⟨a, _⟩
      · exact .inl ⟨by simp [a], by simp [imgStep, imgS, a]⟩
      · refine .inr ⟨0, by omega, by simp [a], by simp [imgStep, imgS, a], ?_⟩
        rcases hsm2 with ⟨a2, _⟩ | ⟨a2, _⟩ <;> simp [imgStep, imgS, a, a2, chainI]
    | 1, _ =>
      rcases hsm2 with ⟨a, _⟩ | ⟨a, _⟩
      · exact .inl ⟨by simp [a], by simp [imgStep, imgS, a]⟩
      · refine .inr ⟨needN c, by omega, by simp [a], ?_, ?_⟩ <;> rcases hsm with ⟨a2, _⟩ | ⟨a2, _⟩ <;> simp [imgStep, imgS, a, a2, chainI]
    | 2, _ => exact .inl ⟨rfl, by simp [imgStep, imgS]⟩
  · match i, hi, j, hj with
    | 0, _, 0, _ => rfl
    | 1, _, 1, _ => rfl
    | 2, _, 2, _ => rfl
    | 2, _, 0, _ => cases hb
    | 2, _, 1, _ => cases hb
    | 0, _, 2, _ => cases hb'
    | 1, _, 2, _ => cases hb'
    | 0, _, 1, _ =>
      exfalso
      rw [if_pos rfl] at hb
      rw [if_neg (by decide), if_pos rfl] at hb'
      split at hb
      · rename_i hc1
        split at hb'
        · rw [List.mem_singleton.mp hb, hc1] at hb'; simp at hb'
        · cases hb'
      · cases hb
    | 1, _, 0, _ =>
      exfalso
      rw [if_pos rfl] at hb'
      rw [if_neg (by decide), if_pos rfl] at hb
      split at hb'
      · rename_i hc1
        split at hb
        · rw [List.mem_singleton.mp hb', hc1] at hb; simp at hb
        · cases hb
      · cases hb'
  · rcases hsm with ⟨a, _⟩ | ⟨a, _⟩ <;> rcases hsm2 with ⟨a2, _⟩ | ⟨a2, _⟩
    all_goals
      simp only [imgStep, imgS, a, a2, chainI]
      revert b
      decide
  · match j, hj with
    | 0, _ => exact .inr ⟨(k, c), .head _, rfl, hf.1, hf.2⟩
    | 1, _ => exact .inr ⟨(m, e), .tail _ (.head _), rfl, hf2.1, hf2.2⟩
    | 2, _ => exact .inl ⟨by simp [imgStep, imgS], rfl⟩
  · rcases hnm0 i hi hn with rfl | rfl <;> rcases hnm0 j hj (by rw [← hq]; exact hn) with rfl | rfl
    · rfl
    · rw [e0, e1] at hq; exact absurd hq hkm
    · rw [e0, e1] at hq; exact absurd hq.symm hkm
    · rfl
  · rcases List.mem_cons.mp hp with rfl | hp
    · exact ⟨0, by omega, e0⟩
    · rw [List.mem_singleton.mp hp]; exact ⟨1, by omega, e1⟩

/-! G23 -/



section
variable {prog : Program} {w : World}
theorem intsRepG (n : Int) (t : Tok) : ∀ m : Nat, IntsAre (List.replicate m [Value.int n t]).flatten (List.replicate m n)
  | 0 => .nil
  | m + 1 => by
    rw [List.replicate_succ, List.flatten_cons, List.replicate_succ]
    exact .cons n t (intsRepG n t m)
theorem Run.valB {C : Cx} {loc : Loc} {led : Led} {t : Sem Bool} {b : Bool} {Q : Bool → Loc → Led → Prop} (h : Run C t loc led (fun v l d => v = b ∧ l = loc ∧ d = led)) (hq : Q b loc led) : Run C t loc led Q := h.mono (by rintro v _ _ ⟨rfl, rfl, rfl⟩; exact hq)
theorem fmod_in (a : Int) {b : Int} (hb : 0 < b) : 0 ≤ a.fmod b ∧ a.fmod b < b := by
  rw [Int.fmod_eq_emod_of_nonneg a (Int.le_of_lt hb)]
  exact ⟨Int.emod_nonneg a (by omega), Int.emod_lt_of_pos a hb⟩
theorem inv_init {G : Files} (hl : G.length ≤ 2) (hk : (G.map (·.1)).Nodup) (hr : ∀ p ∈ G, 1 ≤ p.1 ∧ p.1 ≤ 5 ∧ p.2.length ≤ 4) : ∃ cs, Inv (imgB G) G cs := by
  match G, hl with
  | [], _ => exact inv_init0
  | [(k, c)], _ =>
    obtain ⟨a, b, e⟩ := hr _ (.head _)
    exact inv_init1 a b e
  | [(k, c), (m, e)], _ =>
    obtain ⟨a1, b1, e1⟩ := hr _ (.head _)
    obtain ⟨a2, b2, e2⟩ := hr _ (.tail _ (.head _))
    exact inv_init2 a1 b1 e1 a2 b2 e2 (by simp at hk; exact hk)
/-- what is read, slot by slot -/
def rd (l : List UInt8) (cs : Nat → List Nat) : Nat → Files
  | 0 => []
  | i + 1 => rd l cs i ++ slot1 l cs i
theorem rd_slots (l : List UInt8) (cs : Nat → List Nat) : rd l cs 3 = slots l cs := by
  show (([] ++ _) ++ _) ++ _ = _
  rw [List.nil_append, List.append_assoc]
  rfl
theorem rd_length (l : List UInt8) (cs : Nat → List Nat) : ∀ i, (rd l cs i).length ≤ i
  | 0 => Nat.le_refl _
  | i + 1 => by
    have := rd_length l cs i
    show (rd l cs i ++ slot1 l cs i).length ≤ _
    rw [List.length_append]
    have : (slot1 l cs i).length ≤ 1 := by unfold slot1; split <;> simp
    omega
section
variable {sa : Addr} {vs : List Value} {ns : List Int} {oL : Obj}
theorem c_law (hL : IsL oL vs) (hi : IntsAre vs ns) (hz : vs.length ≤ 63) : CallP prog w (myK w.params) (.ref 850) [.ref sa] [] 8 [(sa, oL)]
    (fun v led' => v = .bool true ∧ led' = [(sa, oL)]) := by
  refine CallP.fn1 (binds := [("script", .ref sa)]) (loc0 := [("script", none), ("options", none), ("files", none), ("number", none), ("made", none), ("length", none), ("door", none), ("name", none), ("content", none), ("before", none), ("j", none), ("read", none)]) (loc := [("script", some (.ref sa)), ("options", none), ("files", none), ("number", none), ("made", none), ("length", none), ("door", none), ("name", none), ("content", none), ("before", none), ("j", none), ("read", none)]) (cloc0 := [("rest", none), ("rows", none), ("t", none)]) (cloc := [("rest", none), ("rows", none), ("t", none)]) [("script", .local), ("options", .local), ("files", .local), ("number", .local), ("made", .local), ("t", .cell), ("rows", .cell), ("length", .local), ("door", .local), ("name", .local), ("rest", .cell), ("content", .local), ("before", .local), ("j", .local), ("read", .local), ("bytes", .globalImplicit), ("_law_image", .globalImplicit), ("_law_listed", .globalImplicit), ("_law_open", .globalImplicit), ("len", .globalImplicit), ("range", .globalImplicit), ("_law_fits", .globalImplicit), ("_law_put", .globalImplicit), ("_law_find", .globalImplicit), ("_law_drop", .globalImplicit), ("_law_set", .globalImplicit), ("_law_sound", .globalImplicit), ("BufferHasIdentifier", .globalImplicit), ("sorted", .globalImplicit)] ["script", "options", "files", "number", "made", "length", "door", "name", "content", "before", "j", "read"] ["rest", "rows", "t"] (by k_is) (by k_is) rfl (fun s X => BindsTo.of_eq rfl) (by decide +kernel) rfl rfl rfl (by walk_at "binds") (by walk_at "bindsc") rfl rfl rfl fun C cells led hC hcl happ => ?_
  have h_b_bytes := @b_bytes w.params
  have h_g__law_image := @g__law_image w.params
  have h_k_780 := @k_780 w.params
  have h_g__law_listed := @g__law_listed w.params
  have h_k_845 := @k_845 w.params
  have h_g__law_open := @g__law_open w.params
  have h_k_785 := @k_785 w.params
  have h_b_len := @b_len w.params
  have h_b_range := @b_range w.params
  have h_g__law_fits := @g__law_fits w.params
  have h_k_840 := @k_840 w.params
  have h_g__law_put := @g__law_put w.params
  have h_k_830 := @k_830 w.params
  have h_g__law_find := @g__law_find w.params
  have h_k_806 := @k_806 w.params
  have h_g__law_drop := @g__law_drop w.params
  have h_k_825 := @k_825 w.params
  have h_g__law_set := @g__law_set w.params
  have h_k_799 := @k_799 w.params
  have h_g__law_sound := @g__law_sound w.params
  have h_k_835 := @k_835 w.params
  have h_g_BufferHasIdentifier := @g_BufferHasIdentifier w.params
  have h_k_761 := @k_761 w.params
  have h_b_sorted := @b_sorted w.params
  have h_g__law_at := @g__law_at w.params
  have h_k_792 := @k_792 w.params
  have h_g__law_content := @g__law_content w.params
  have h_k_818 := @k_818 w.params
  refine Run.post fun Qf hQf => ?_
  cases hcl with | @cons _ _ c1 o1 _ _ hl1 hd1 hcl => ?_
  cases hcl with | @cons _ _ c2 o2 _ _ hl2 hd2 hcl => ?_
  cases hcl with | @cons _ _ c3 o3 _ _ hl3 hd3 hcl => ?_
  cases hcl
  cases happ with | cons happ => ?_
  cases happ with | cons happ => ?_
  cases happ with | cons happ => ?_
  cases happ
  refine run_execs ?_
  walk_at "rs"
  refine Run.val (P := fun v => ∃ o t, v = .int o t) ?_ ?_
  · refine run_IfExp (run_isPlain ?_)
    walk_at "rs"
    refine run_truthy_listO (by walk_at "mem") hL (by omega) ?_
    cases hi with
    | nil =>
      rw [if_neg (by decide)]
      walk_at "rs"
      exact ⟨⟨_, _, rfl⟩, rfl, rfl⟩
    | cons a t hi =>
      rw [if_pos (show (!(Value.int a t :: _).isEmpty) = true from rfl)]
      refine run_sub ?_
      walk_at "rs"
      refine run_py_listO (by walk_at "mem") hL ⟨rfl, ?_⟩
      refine run_get_listO (by walk_at "mem") hL (by decide) (by decide) rfl ?_
      exact ⟨⟨_, _, rfl⟩, rfl, rfl⟩
  rintro _ ⟨op, top, rfl⟩
  walk_at "rs"
  refine run_dict0 hC fun d od hd => ?_
  walk_at "rs"
  refine run_For ?_
  refine run_sub ?_
  refine run_Tuple ?_
  walk_at "rs"
  refine run_newTuple fun tu => ?_
  walk_at "rs"
  intro sl
  refine run_py_tup (by walk_at "mem") ⟨rfl, ?_⟩
  have hm3 := fmod_in op (b := 3) (by decide)
  obtain ⟨m, hm⟩ : ∃ m : Nat, op.fmod 3 = m := ⟨_, (Int.toNat_of_nonneg hm3.1).symm⟩
  rw [hm] at hm3 ⊢
  rename_i t1 t2 t3 t4 t5
  refine Run.mono (Q := fun v lo le => ∃ (c : Addr) (its : List Value) (rest : Led), v = .ref c ∧ its.length ≤ 2 ∧ (∀ x ∈ its, ∃ n t, x = Value.int n t) ∧ lo = ([("script", some (.ref sa)), ("options", some (.int op top)), ("files", some (.ref d)), ("number", none), ("made", none), ("length", none), ("door", none), ("name", none), ("content", none), ("before", none), ("j", none), ("read", none)] : Loc) ∧
    Pick le ((c, tupObj its) :: (d, od) :: (c1, o1) :: (c2, o2) :: (c3, o3) :: (sa, oL) :: []) rest) ?_ ?_
  · have hits : ∀ x ∈ [Value.int (op.fdiv 30) t1, .int (op.fdiv 900) t3], ∃ n t, x = Value.int n t := fun x hx => by
      rcases List.mem_cons.mp hx with rfl | hx
      · exact ⟨_, _, rfl⟩
      · rw [List.mem_singleton.mp hx]; exact ⟨_, _, rfl⟩
    rcases Nat.lt_or_ge m 2 with h | h
    · refine run_cut_tup (its := [.int (op.fdiv 30) t1, .int (op.fdiv 900) t3]) (m := m) (by walk_at "mem") (by walk_at "mem") h (by simp) fun c => ?_
      exact ⟨c, [Value.int (op.fdiv 30) t1, .int (op.fdiv 900) t3].take m, _, rfl, by rw [List.length_take]; exact Nat.min_le_right _ _, fun x hx => hits x (List.mem_of_mem_take hx), rfl, by walk_at "pick"⟩
    · refine run_cut_tup_all (its := [.int (op.fdiv 30) t1, .int (op.fdiv 900) t3]) (m := m) (by walk_at "mem") (by walk_at "mem") h (by simp) ?_
      exact ⟨tu, [Value.int (op.fdiv 30) t1, .int (op.fdiv 900) t3], _, rfl, Nat.le_refl 2, hits, rfl, by walk_at "pick"⟩
  rintro _ _ _ ⟨c, its, rest, rfl, hil, hits, rfl, hp⟩
  refine Run.drop hp ?_
  refine run_iter_tup (its := its) (by walk_at "mem") fun it => ?_
  refine RunC.forT (iterTup it c its) (fun i loc led => ∃ (F : Files) (od : Obj) (ov : Option Value), FD prog w d od F ∧ F.length ≤ i ∧ (∀ p ∈ F, 1 ≤ p.1 ∧ p.1 ≤ 5 ∧ p.2.length ≤ 4) ∧
    loc = ([("script", some (.ref sa)), ("options", some (.int op top)), ("files", some (.ref d)), ("number", ov), ("made", none), ("length", none), ("door", none), ("name", none), ("content", none), ("before", none), ("j", none), ("read", none)] : Loc) ∧
    led = (c, tupObj its) :: (d, od) :: (c1, o1) :: (c2, o2) :: (c3, o3) :: (sa, oL) :: []) ?_ ?_ ?_ _ 0 _ _ _ rfl (Nat.zero_le _) ⟨rfl, rfl⟩
    ⟨[], od, none, .ofDict0 hd, Nat.le_refl _, fun p hp => (nomatch hp), rfl, rfl⟩
  · rintro i loc0 led0 hI0
    refine ex3 hI0 (fun F od ov hI1 => ?_)
    clear hI0
    refine andL3 hI1 (fun hF hFl hFr => ?_)
    clear hI1
    walk_at "mem"
  · rintro Qt hQt i v o' loc0 led0 hlt hv hP hI0
    refine ex3 hI0 (fun F od ov hI1 => ?_)
    clear hI0
    refine andL3 hI1 (fun hF hFl hFr => ?_)
    clear hI1
    obtain ⟨nb, tn, rfl⟩ := hits v (List.mem_of_getElem? hv)
    refine ⟨_, by walk_at "setl", ?_⟩
    refine run_execs ?_
    walk_at "rs"
    refine run_Call ?_
    walk_at "rs"
    refine run_callWith keeps_type ?_
    walk_at "rs"
    refine run_List ?_
    walk_at "rs"
    refine run_newLst rfl fun vl => ?_
    walk_at "rs"
    obtain ⟨g0, g1⟩ := fmod_in (nb.fdiv 5) (b := 5) (by decide)
    obtain ⟨g2, g3⟩ := fmod_in nb (b := 256) (by decide)
    obtain ⟨g4, g5⟩ := fmod_in nb (b := 5) (by decide)
    refine run_mul_list (its := [.int (nb.fmod 256) _]) (by walk_at "mem") g0 (by show 1 * _ ≤ 256; omega) (by omega) fun ml => ?_
    walk_at "rs"
    have hrep := intsRepG (nb.fmod 256)
    refine run_bytes_list (by walk_at "mem") (intsRepG _ _ _) (fun n hn => by rw [(List.mem_replicate.mp hn).2]; exact ⟨g2, g3⟩) (by rw [(intsRepG _ _ _).length, List.length_replicate]; omega) fun tb => ?_
    walk_at "rs"
    refine run_set_dict hC (by walk_at "mem") hF (by omega) fun od' hF' => ⟨_, by walk_at "put", ?_⟩
    walk_at "rs"
    refine hQt _ _ _ _ ?_
    dsimp only [Turn]
    have hF2 : (putF F (nb.fmod 5 + 1) ((List.replicate ((nb.fdiv 5).fmod 5).toNat (nb.fmod 256)).map fun n => n.toNat.toUInt8)).length ≤ F.length + 1 := by
      unfold putF
      split
      · rw [List.length_map]; omega
      · rw [List.length_append]; exact Nat.le_refl _
    refine ⟨o', _, _, by walk_at "pick", hP, _, od', _, hF', by omega, fun p hp => ?_, rfl, rfl⟩
    rcases putF_mem hp with rfl | hp
    · exact ⟨by show 1 ≤ nb.fmod 5 + 1; omega, by show nb.fmod 5 + 1 ≤ 5; omega, by show (List.map _ _).length ≤ 4; rw [List.length_map, List.length_replicate]; omega⟩
    · exact hFr p hp
  rintro loc0 led0 hI0
  refine ex3 hI0 (fun F od ov hI1 => ?_)
  clear hI0
  refine andL3 hI1 (fun hF hFl hFr => ?_)
  clear hI1
  have hF2 : F.length ≤ 2 := by omega
  have hFk := hF.nodup
  walk_at "rs"
  refine run_Call ?_
  walk_at "rs"
  refine run_callWith (keeps_ref hC (by assumption)) ?_
  walk_at "rs"
  obtain ⟨g0, g1⟩ := fmod_in op (b := 30) (by decide)
  obtain ⟨f30, hf30⟩ : ∃ m : Nat, op.fmod 30 = m := ⟨_, (Int.toNat_of_nonneg g0).symm⟩
  rw [hf30] at g1 ⊢
  refine run_Call ?_
  walk_at "rs"
  refine run_callWith (keeps_ref hC (by assumption)) ?_
  walk_at "rs"
  refine run_call hC (c_listed hF (by omega)) rfl (by walk_at "pick") ?_
  rintro _ _ ⟨L, kL, refs, nsG, ts, rfl, hG1, hG2, hG3, rfl⟩
  refine ⟨_, by walk_at "app", ?_⟩
  refine Run.perm (led' := (L, lstObj refs kL) :: (d, od) :: (c, tupObj its) :: (c1, o1) :: (c2, o2) :: (c3, o3) :: (sa, oL) :: ts) (((List.perm_append_comm (l₁ := ts) (l₂ := [(c, tupObj its), (c1, o1), (c2, o2), (c3, o3), (sa, oL)])).cons _).cons _) ?_
  have hgp := gather_perm hFk hG1
  have hgr : ∀ p ∈ gather F nsG, 1 ≤ p.1 ∧ p.1 ≤ 5 ∧ p.2.length ≤ 4 := fun p hp => hFr p (hgp.mem_iff.mp hp)
  have hgl : (gather F nsG).length ≤ 2 := by rw [hgp.length_eq]; exact hF2
  obtain ⟨cs, hI⟩ := inv_init hgl ((hgp.map _).nodup_iff.mpr hFk) hgr
  have h6 := hI.need_sum
  walk_at "rs"
  refine run_call hC (c_image (G := gather F nsG) hG3.in (by omega) (fun p hp => by have := hgr p hp; omega) h6 (by omega)) rfl (by walk_at "pick") ?_
  rintro _ _ ⟨ba, rfl, rfl⟩
  refine ⟨_, by walk_at "app", ?_⟩
  walk_at "rs"
  refine run_Call ?_
  walk_at "rs"
  refine run_callWith (keeps_ref hC (by assumption)) ?_
  walk_at "rs"
  refine run_call hC (c_open (l := imgB (gather F nsG)) (img_length _) (img_eq _)) rfl (by walk_at "pick") ?_
  rintro _ _ ⟨tup, x, dx, ra, tp, a0, a1, a2, a3, a4, kr, rfl, rfl⟩
  refine ⟨_, by walk_at "app", ?_⟩
  walk_at "rs"
  refine run_asTup2A (by walk_at "mem") ?_
  refine run_asCell hC (by walk_at "mem") hl3 (by walk_at "mem") hd3 fun o3' hd3' => ⟨_, by walk_at "put", ?_⟩
  refine run_asCell hC (by walk_at "mem") hl2 (by walk_at "mem") hd2 fun o2' hd2' => ⟨_, by walk_at "put", ?_⟩
  walk_at "rs"
  refine run_Call ?_
  walk_at "rs"
  refine run_callWith keeps_builtin ?_
  walk_at "rs"
  refine run_len_ba (by walk_at "mem") (by rw [img_length]; decide) fun tlen => ?_
  walk_at "rs"
  refine run_For ?_
  refine run_sub ?_
  walk_at "rs"
  intro sl
  refine run_py_listO (by walk_at "mem") hL ⟨rfl, ?_⟩
  have hI2 := hI.congr hgp
  rw [img_length]
  generalize imgB (gather F nsG) = l at hI2 ⊢
  refine run_cut_list_atO (r := (vs.drop 1).take 10) (by walk_at "mem") hL (by walk_at "mem") (.int _ _) (.int _ _) (by omega) ?_ fun sc => ?_
  · show (vs.drop (clipAt vs.length ((1 : Nat) : Int))).take (clipAt vs.length ((11 : Nat) : Int) - clipAt vs.length ((1 : Nat) : Int)) = _
    rw [clipAt_nat, clipAt_nat]
    rcases Nat.lt_or_ge 0 vs.length with h | h
    · rw [Nat.min_eq_left h]
      rcases Nat.lt_or_ge vs.length 11 with h2 | h2
      · rw [Nat.min_eq_right (Nat.le_of_lt h2), List.take_of_length_le (by rw [List.length_drop]; exact Nat.le_refl _), List.take_of_length_le (by rw [List.length_drop]; omega)]
      · rw [Nat.min_eq_left h2]
    · rw [List.length_eq_zero_iff.mp (Nat.le_zero.mp h)]; rfl
  have hsl : ((vs.drop 1).take 10).length ≤ 10 := by rw [List.length_take]; exact Nat.min_le_left _ _
  have hi2 : IntsAre ((vs.drop 1).take 10) ((ns.drop 1).take 10) := (hi.drop 1).take 10
  generalize (vs.drop 1).take 10 = sv at hsl hi2 ⊢
  refine run_iter_list (its := sv) (k := 0) (by walk_at "mem") fun it2 => ?_
  refine RunC.drop (keep := (it2, _) :: (sc, lstObj sv 0) :: (c1, o1) :: (c2, o2') :: (c3, o3') :: (d, od) :: (sa, oL) :: (ra, lstObj (rwL a0 a1 a2 a3 a4) kr) :: tLed x dx ba 24 tp l) (by walk_at "pick") ?_
  refine RunC.forT (iterList it2 sc sv 0) (fun i loc led => ∃ (F : Files) (od : Obj) (l : List UInt8) (cs : Nat → List Nat) (ob : Obj) (v1 nv dv mv cv bv jv : Option Value), Inv l F cs ∧ FD prog w d od F ∧ ob.data = .cell v1 ∧
    loc = ([("script", some (.ref sa)), ("options", some (.int op top)), ("files", some (.ref d)), ("number", nv), ("made", some (.ref ba)), ("length", some (.int (112 : Nat) tlen)), ("door", dv), ("name", mv), ("content", cv), ("before", bv), ("j", jv), ("read", none)] : Loc) ∧
    led = (sc, lstObj sv 0) :: (c1, ob) :: (c2, o2') :: (c3, o3') :: (d, od) :: (sa, oL) :: (ra, lstObj (rwL a0 a1 a2 a3 a4) kr) :: tLed x dx ba 24 tp l) ?_ ?_ ?_ _ 0 _ _ _ rfl (Nat.zero_le _) ⟨rfl, rfl⟩
    ⟨F, od, l, cs, o1, none, _, none, none, none, none, none, hI2, hF, hd1, rfl, rfl⟩
  · rintro i loc0 led0 hI0
    refine ex12 hI0 (fun F od l cs ob v1 nv dv mv cv bv jv hI1 => ?_)
    clear hI0
    refine andL3 hI1 (fun hI hF hob => ?_)
    clear hI1
    walk_at "mem"
  · clear hI2 hF hI h6
    rintro Qt hQt i v' o' loc0 led0 hlt hv hP hI0
    refine ex12 hI0 (fun F od l cs ob v1 nv dv mv cv bv jv hI1 => ?_)
    clear hI0
    refine andL3 hI1 (fun hI hF hob => ?_)
    clear hI1
    obtain ⟨nb, tn, rfl, hnb⟩ := hi2.at _ _ hv
    refine ⟨_, by walk_at "setl", ?_⟩
    refine run_execs ?_
    walk_at "rs"
    refine run_asCell hC (by walk_at "mem") hl1 (by walk_at "mem") hob fun ob1 hob1 => ⟨_, by walk_at "put", ?_⟩
    walk_at "rs"
    obtain ⟨n0, n1⟩ := fmod_in (nb.fdiv 3) (b := 5) (by decide)
    have hnm0 : 1 ≤ (nb.fdiv 3).fmod 5 + 1 := by omega
    have hnm1 : (nb.fdiv 3).fmod 5 + 1 ≤ 5 := by omega
    generalize (nb.fdiv 3).fmod 5 + 1 = nm at hnm0 hnm1 ⊢
    have hkeys := hI.keys
    have hlenF := hI.length
    have hl := hI.part.len
    refine Run.mono (Q := fun f lo le => f = .next ∧ ∃ (F' : Files) (od' : Obj) (l' : List UInt8) (cs' : Nat → List Nat) (dv mv cv bv jv : Option Value) (rest : Led), Inv l' F' cs' ∧ FD prog w d od' F' ∧
      lo = ([("script", some (.ref sa)), ("options", some (.int op top)), ("files", some (.ref d)), ("number", some (.int nb tn)), ("made", some (.ref ba)), ("length", some (.int (112 : Nat) tlen)), ("door", dv), ("name", mv), ("content", cv), ("before", bv), ("j", jv), ("read", none)] : Loc) ∧
      Pick le ((it2, o') :: (sc, lstObj sv 0) :: (c1, ob1) :: (c2, o2') :: (c3, o3') :: (d, od') :: (sa, oL) :: (ra, lstObj (rwL a0 a1 a2 a3 a4) kr) :: tLed x dx ba 24 tp l') rest) ?_ ?_
    · by_cases hd0 : nb.fmod 3 = 0
      · refine run_IfT ?_
        walk_at "rs"
        refine ⟨by rw [hd0]; rfl, ?_⟩
        refine run_execs ?_
        walk_at "rs"
        refine run_Call ?_
        walk_at "rs"
        refine run_callWith keeps_type ?_
        walk_at "rs"
        walk_at "fbcomp"
        refine run_Call ?_
        walk_at "rs"
        refine run_callWith keeps_type ?_
        walk_at "rs"
        obtain ⟨q0, q1⟩ := fmod_in (nb.fdiv 15) (b := 14) (by decide)
        obtain ⟨n14, hn14⟩ : ∃ m : Nat, (nb.fdiv 15).fmod 14 = m := ⟨_, (Int.toNat_of_nonneg q0).symm⟩
        rw [hn14] at q1 ⊢
        refine run_range1 fun rg t4 t5 t6 => ?_
        walk_at "rs"
        refine run_iter_rangeN (n := n14) (by omega) (by walk_at "mem") fun it3 D C2 hC2 hcl2 => ?_
        have hq_rest : C2.env.cells.lookup (Str.ofString "rest") = some c1 := by rw [hcl2]; rfl
        have p3 : ∀ i : Nat, i < 14 → (3 : Int) ^ i ≠ 0 ∧ ((3 : Int) ^ i).natAbs < 1073741824 := by decide
        refine RunC.compGo0T (iterRange it3 0 1 n14) (fun i2 items led => ∃ ro : Obj, IntsAre items ((List.range i2).map fun q => ((nb.fdiv 15).fdiv (3 ^ q)).fmod 256) ∧ i2 ≤ n14 ∧
          led = (rg, ro) :: (it2, o') :: (sc, lstObj sv 0) :: (c1, ob1) :: (c2, o2') :: (c3, o3') :: (d, od) :: (sa, oL) :: (ra, lstObj (rwL a0 a1 a2 a3 a4) kr) :: tLed x dx ba 24 tp l) ?_ ?_ ?_ ?_ (by simp) ⟨_, .nil, Nat.zero_le _, rfl⟩
        · rintro i2 items k2 _ ⟨ro, h1, h2, rfl⟩
          trivial
        · rintro i2 items _ ⟨ro, h1, h2, rfl⟩
          have := h1.length
          simp at this; omega
        · rintro Qt hQt i2 v2 o2q k2 items _ hlt2 hv2 hP2 ⟨ro, h1, h2, rfl⟩
          obtain ⟨ti2, rfl⟩ := rng0 hv2
          walk_at "rs"
          refine run_pow (by omega) (by omega) (by decide) fun tp3 => ?_
          walk_at "rs"
          obtain ⟨z1, z2⟩ := p3 i2 (by omega)
          rw [Int.toNat_natCast]
          refine run_fdiv z1 z2 fun tf3 => ?_
          walk_at "rs"
          refine hQt _ _ _ _ _ _ ⟨rfl, o2q, _, _, _, by walk_at "pick", hP2, ro, ?_, by omega, rfl⟩
          rw [range_map_snoc]
          exact h1.append (.cons _ _ .nil)
        · rintro k2 ov2 items _ ⟨ro, h1, h2, rfl⟩
          walk_at "rs"
          have hlen1 := h1.length
          rw [List.length_map, List.length_range] at hlen1
          refine run_bytes_list (by walk_at "mem") h1 (fun n hn => by
            obtain ⟨q, _, rfl⟩ := List.mem_map.mp hn
            exact fmod_in _ (by decide)) (by omega) fun tb => ?_
          have hcl : (((List.range n14).map fun q => ((nb.fdiv 15).fdiv (3 ^ q)).fmod 256).map fun n => n.toNat.toUInt8).length ≤ 13 := by
            rw [List.length_map, List.length_map, List.length_range]; omega
          generalize (((List.range n14).map fun q => ((nb.fdiv 15).fdiv (3 ^ q)).fmod 256).map fun n => n.toNat.toUInt8) = ct at hcl ⊢
          walk_at "rs"
          refine run_Call ?_
          walk_at "rs"
          refine run_callWith keeps_type ?_
          walk_at "rs"
          refine run_bytes_ba (by walk_at "mem") (by omega) fun tbf => ?_
          walk_at "rs"
          have hF13 : ∀ p ∈ F, p.2.length ≤ 1000 := fun p hp => by have := hI.rng p hp; omega
          by_cases hfit : fitsB F nm ct = true
          · refine run_IfT (run_isPlain ?_)
            refine run_Call ?_
            walk_at "rs"
            refine run_callWith (keeps_ref hC (by assumption)) ?_
            walk_at "rs"
            refine run_call0 hC (c_fits (F := F) (c := ct) hF (by omega) hF13 (by omega)) rfl (by walk_at "pick") fun rv hv => ?_
            subst hv
            walk_at "rs"
            refine ⟨hfit, ?_⟩
            refine run_execs (run_ExprC ?_)
            obtain ⟨j, l1, cs', hR, hfr, hI'⟩ := hI.put hnm0 hnm1 hcl hfit
            refine run_Call ?_
            walk_at "rs"
            refine run_callWith (keeps_ref hC (by assumption)) ?_
            walk_at "rs"
            refine run_call hC (c_put (l := l) (l1 := l1) (c := ct) (j := j) hl (by omega) (by omega) hR hcl hfr) rfl (by walk_at "pick") ?_
            rintro _ _ ⟨rfl, rfl⟩
            refine ⟨_, by walk_at "app", ?_⟩
            walk_at "rs"
            refine run_set_dict hC (by walk_at "mem") hF (by omega) fun od' hF' => ⟨_, by walk_at "put", ?_⟩
            walk_at "rs"
            exact ⟨rfl, _, od', _, cs', _, _, _, _, _, _, hI', hF', rfl, by walk_at "pick"⟩
          · refine run_IfF (run_isPlain ?_)
            refine run_Call ?_
            walk_at "rs"
            refine run_callWith (keeps_ref hC (by assumption)) ?_
            walk_at "rs"
            refine run_call0 hC (c_fits (F := F) (c := ct) hF (by omega) hF13 (by omega)) rfl (by walk_at "pick") fun rv hv => ?_
            subst hv
            walk_at "rs"
            refine ⟨by simpa using hfit, ?_⟩
            refine run_execs (run_IfF ?_)
            walk_at "rs"
            refine run_Call ?_
            walk_at "rs"
            refine run_callWith keeps_type ?_
            walk_at "rs"
            refine run_bytes_ba (by walk_at "mem") (by omega) fun tbf2 => ?_
            walk_at "rs"
            refine run_ne_bytes ?_
            walk_at "rs"
            refine ⟨bne_self_eq_false l, ?_⟩
            walk_at "rs"
            exact ⟨rfl, F, od, l, cs, _, _, _, _, _, _, hI, hF, rfl, by walk_at "pick"⟩
      · refine run_IfF ?_
        walk_at "rs"
        refine ⟨beq_false_of_ne hd0, ?_⟩
        by_cases hin : nb.fmod 3 = 1 ∧ nm ∈ F.map (·.1)
        · refine run_execs (run_IfT (run_isAndT (run_isCmp1 ?_)))
          walk_at "rs"
          refine ⟨by rw [hin.1]; rfl, run_isAndT (run_isCmp1 ?_)⟩
          walk_at "rs"
          refine run_in_dict hC (by walk_at "mem") hF ?_
          walk_at "rs"
          refine ⟨decide_eq_true hin.2, run_isAnd0 ⟨rfl, ?_⟩⟩
          refine run_execs ?_
          walk_at "rs"
          refine run_Call ?_
          walk_at "rs"
          refine run_callWith (keeps_ref hC (by assumption)) ?_
          walk_at "rs"
          refine run_call0 hC (c_find (l := l) (v := nm) hl) rfl (by walk_at "pick") fun rv hv => ?_
          obtain ⟨i0, hi0, hi0n, hi0z⟩ := hI.name hin.2
          obtain ⟨j', tj, hj', rfl, h6, h7⟩ : ∃ (j' : Nat) (t : Tok), j' < 3 ∧ rv = .int j' t ∧ byteAt l (108 + j') = nm ∧ ∀ i < j', byteAt l (108 + i) ≠ nm := by
            rcases hv with h | ⟨_, h⟩
            · exact h
            · exact absurd hi0n (h i0 hi0)
          walk_at "rs"
          refine run_ExprC ?_
          refine run_Call ?_
          walk_at "rs"
          refine run_callWith (keeps_ref hC (by assumption)) ?_
          walk_at "rs"
          refine run_call hC (c_drop (l := l) (j := j') (bs := cs j') hl hj' (hI.part.ch j' hj') (hI.part.small hj')) rfl (by walk_at "pick") ?_
          rintro _ _ ⟨rfl, rfl⟩
          refine ⟨_, by walk_at "app", ?_⟩
          walk_at "rs"
          refine run_ExprC ?_
          refine run_Call ?_
          walk_at "rs"
          refine run_callWith (keeps_ref hC (by assumption)) ?_
          walk_at "rs"
          refine run_sub ?_
          walk_at "rs"
          refine run_py_list (by walk_at "mem") ⟨rfl, ?_⟩
          refine run_get_list (its := rwL a0 a1 a2 a3 a4) (by walk_at "mem") (by decide) (by decide) rfl ?_
          walk_at "rs"
          have hdl : (dropL l (cs j') j').length = 112 := (hI.part.drop hj').len
          refine run_call hC (c_set (l := dropL l (cs j') j') (r := 108) (j := j') (by omega) (by omega) (by omega) (by omega)) rfl (by walk_at "pick") ?_
          rw [u0]
          rintro _ _ ⟨rfl, rfl⟩
          refine ⟨_, by walk_at "app", ?_⟩
          walk_at "rs"
          obtain ⟨c0, hc0, _⟩ := look_mem hkeys hin.2
          refine run_ExprC (run_Method ?_)
          walk_at "rs"
          intro pl
          refine run_meth_pop hC (by walk_at "mem") hF (run_callWith keeps_builtin ?_)
          walk_at "rs"
          refine run_pop hC (by walk_at "mem") hF (by omega) hc0 fun u od' hF' => ⟨_, by walk_at "put", ?_⟩
          walk_at "rs"
          have hdel := hI.del hj' (by rw [h6]; omega)
          rw [h6] at hdel
          exact ⟨rfl, _, od', _, _, _, _, _, _, _, _, hdel, hF', rfl, by walk_at "pick"⟩
        · refine run_execs (run_IfF (Run.valB (b := false) ?_ ⟨rfl, ?_⟩))
          · by_cases hd1 : nb.fmod 3 = 1
            · refine run_isAndT (run_isCmp1 ?_)
              walk_at "rs"
              refine ⟨by rw [hd1]; rfl, run_isAndF (run_isCmp1 ?_)⟩
              walk_at "rs"
              refine run_in_dict hC (by walk_at "mem") hF ?_
              walk_at "rs"
              exact ⟨decide_eq_false fun h => hin ⟨hd1, h⟩, rfl, rfl, rfl⟩
            · refine run_isAndF (run_isCmp1 ?_)
              walk_at "rs"
              exact ⟨beq_false_of_ne hd1, rfl, rfl, rfl⟩
          refine run_execs (run_IfF ?_)
          walk_at "rs"
          refine run_Call ?_
          walk_at "rs"
          refine run_callWith (keeps_ref hC (by assumption)) ?_
          walk_at "rs"
          refine run_call0 hC (c_find (l := l) (v := nm) hl) rfl (by walk_at "pick") fun rv hv => ?_
          walk_at "rs"
          refine run_in_dict hC (by walk_at "mem") hF ?_
          walk_at "rs"
          refine run_eq_bool ?_
          walk_at "rs"
          refine ⟨?_, ?_⟩
          · rcases hv with ⟨j', tj, hj', rfl, h6, h7⟩ | ⟨rfl, h⟩
            · rw [decide_eq_true (look_key (h6 ▸ hI.own j' hj' (by rw [h6]; omega)))]; rfl
            · rw [decide_eq_false fun hm => by
                obtain ⟨i0, hi0, hi0n, _⟩ := hI.name hm
                exact h i0 hi0 hi0n]
              rfl
          walk_at "rs"
          exact ⟨rfl, F, od, l, cs, _, _, _, _, _, _, hI, hF, rfl, by walk_at "pick"⟩
    · rintro _ _ _ ⟨rfl, F', od', l', cs', dv', mv', cv', bv', jv', rest, hI', hF', rfl, hp⟩
      refine run_after (Run.drop hp ?_)
      have hl' := hI'.part.len
      have hlF' := hI'.length
      refine run_execs (run_IfF (run_isOrF (run_isNot (run_isPlain ?_))))
      refine run_Call ?_
      walk_at "rs"
      refine run_callWith (keeps_ref hC (by assumption)) ?_
      walk_at "rs"
      refine run_call0 hC (c_sound (F := F') hF' (by omega) hI'.fine) rfl (by walk_at "pick") fun rv hv => ?_
      obtain ⟨ns', hpm, hpw, rfl⟩ := hv
      have hus := hI'.used hpm hpw
      walk_at "rs"
      refine ⟨by rw [decide_eq_true hus]; rfl, run_isOrF (run_isCmp1 ?_)⟩
      refine run_Call ?_
      walk_at "rs"
      refine run_callWith keeps_builtin ?_
      walk_at "rs"
      refine run_len_ba (by walk_at "mem") (by omega) fun tl2 => ?_
      walk_at "rs"
      refine ⟨by rw [hl']; exact bne_self_eq_false _, run_isOrF (run_isNot (run_isPlain ?_))⟩
      refine run_Call ?_
      walk_at "rs"
      refine run_callWith (keeps_ref hC (by assumption)) ?_
      walk_at "rs"
      refine run_call0 hC (c_hasId (l := l') hl') rfl (by walk_at "pick") fun rv hv => ?_
      subst hv
      walk_at "rs"
      refine ⟨by rw [decide_eq_true (id_of hl' hI'.part.hdr)]; rfl, run_isOr0 ⟨rfl, ?_⟩⟩
      walk_at "rs"
      refine hQt _ _ _ _ ?_
      dsimp only [Turn]
      exact ⟨o', _, _, by walk_at "pick", hP, F', od', l', cs', ob1, _, _, _, _, _, _, _, hI', hF', hob1, rfl, rfl⟩
  · clear hI2 hF hI h6
    rintro loc0 led0 hI0
    refine ex12 hI0 (fun F od l cs ob v1 nv dv mv cv bv jv hI1 => ?_)
    clear hI0
    refine andL3 hI1 (fun hI hF hob => ?_)
    clear hI1
    have hl := hI.part.len
    have hlF := hI.length
    walk_at "rs"
    refine Run.nm fun hnm => ?_
    walk_at "fbacomp"
    case y => rw [hnm]; simp only [List.map_cons, List.map_nil]; decide +kernel
    refine run_Call ?_
    walk_at "rs"
    refine run_callWith keeps_type ?_
    walk_at "rs"
    refine run_range1 fun rg t4 t5 t6 => ?_
    walk_at "rs"
    refine run_iter_range (by walk_at "mem") rfl fun it3 D C2 hC2 hcl2 => ?_
    have hq_t : C2.env.cells.lookup (Str.ofString "t") = some c3 := by rw [hcl2]; rfl
    have hq_rows : C2.env.cells.lookup (Str.ofString "rows") = some c2 := by rw [hcl2]; rfl
    refine RunC.compGo1T (iterRange it3 0 1 3) (fun i2 items led => ∃ (ro : Obj) (ts : Led), Tups items (rd l cs i2) ts ∧ i2 ≤ 3 ∧
      led = (rg, ro) :: (sc, lstObj sv 0) :: (c1, ob) :: (c2, o2') :: (c3, o3') :: (d, od) :: (sa, oL) :: (ra, lstObj (rwL a0 a1 a2 a3 a4) kr) :: (x, tObj dx ba 24 tp) :: (dx, dict0) :: (ba, baObj l) :: ts) ?_ ?_ ?_ ?_ rfl ⟨_, [], .nil, by omega, rfl⟩
    · rintro i2 items k2 _ ⟨ro, ts, h1, h2, rfl⟩
      trivial
    · rintro i2 items _ ⟨ro, ts, h1, h2, rfl⟩
      have := h1.length
      have := rd_length l cs i2
      omega
    · rintro Qt Qe hQt hQe i2 v2 o2q k2 items _ hlt2 hv2 hP2 ⟨ro, ts, h1, h2, rfl⟩
      obtain ⟨ti2, rfl⟩ := rng0 hv2
      refine run_isCmp1 ?_
      refine run_Call ?_
      walk_at "rs"
      refine run_callWith (keeps_ref hC2 (by assumption)) ?_
      walk_at "rs"
      refine run_sub ?_
      walk_at "rs"
      refine run_py_list (by walk_at "mem") ⟨rfl, ?_⟩
      refine run_get_list (its := rwL a0 a1 a2 a3 a4) (by walk_at "mem") (by decide) (by decide) rfl ?_
      walk_at "rs"
      refine run_callI hC2 (c_at (l := l) (r := 108) (j := i2) (by omega) (by omega)) rfl (by walk_at "pick") fun t7 => ?_
      walk_at "rs"
      refine ⟨fun hz => ?_, fun hz => ?_⟩
      · have hz' := bne_iff_ne.mp hz
        refine run_Tuple ?_
        walk_at "rs"
        refine run_Call ?_
        walk_at "rs"
        refine run_callWith (keeps_ref hC2 (by assumption)) ?_
        walk_at "rs"
        refine run_sub ?_
        walk_at "rs"
        refine run_py_list (by walk_at "mem") ⟨rfl, ?_⟩
        refine run_get_list (its := rwL a0 a1 a2 a3 a4) (by walk_at "mem") (by decide) (by decide) rfl ?_
        walk_at "rs"
        refine run_callI hC2 (c_at (l := l) (r := 108) (j := i2) (by omega) (by omega)) rfl (by walk_at "pick") fun t8 => ?_
        walk_at "rs"
        refine run_Call ?_
        walk_at "rs"
        refine run_callWith (keeps_ref hC2 (by assumption)) ?_
        walk_at "rs"
        refine run_call0 hC2 (c_content (l := l) (j := i2) (bs := cs i2) hl hlt2 (hI.part.ch i2 hlt2) (hI.part.small hlt2)) rfl (by walk_at "pick") fun rv hv => ?_
        obtain ⟨t9, rfl⟩ := hv
        walk_at "rs"
        refine run_newTuple fun a9 => ?_
        first
        | refine hQt _ _ _ _ _ _ ⟨rfl, o2q, k2, (rg, ro) :: (sc, lstObj sv 0) :: (c1, ob) :: (c2, o2') :: (c3, o3') :: (d, od) :: (sa, oL) :: (ra, lstObj (rwL a0 a1 a2 a3 a4) kr) :: (x, tObj dx ba 24 tp) :: (dx, dict0) :: (ba, baObj l) :: (a9, tupObj [.int (byteAt l (108 + i2)) t8, .bytes (((cont l (cs i2)).take (l.getD (92 + i2) 0).toNat).map fun n => n.toNat.toUInt8).toArray t9]) :: ts, _, by walk_at "pick", hP2, ro, _, ?_, by omega, rfl⟩
        | refine hQe _ _ _ _ _ ⟨rfl, o2q, k2, (rg, ro) :: (sc, lstObj sv 0) :: (c1, ob) :: (c2, o2') :: (c3, o3') :: (d, od) :: (sa, oL) :: (ra, lstObj (rwL a0 a1 a2 a3 a4) kr) :: (x, tObj dx ba 24 tp) :: (dx, dict0) :: (ba, baObj l) :: (a9, tupObj [.int (byteAt l (108 + i2)) t8, .bytes (((cont l (cs i2)).take (l.getD (92 + i2) 0).toNat).map fun n => n.toNat.toUInt8).toArray t9]) :: ts, _, by walk_at "pick", hP2, ro, _, ?_, by omega, rfl⟩
        have e : rd l cs (i2 + 1) = rd l cs i2 ++ [(byteAt l (108 + i2), fileB l (cs i2) i2)] := by
          show rd l cs i2 ++ slot1 l cs i2 = _
          unfold slot1
          rw [if_neg hz']
        rw [e]
        exact .snoc h1
      · have hz' : byteAt l (108 + i2) = 0 := by simpa using hz
        first
        | refine hQt _ _ _ _ _ _ ⟨rfl, o2q, _, _, _, by walk_at "pick", hP2, ro, ts, ?_, by omega, rfl⟩
        | refine hQe _ _ _ _ _ ⟨rfl, o2q, _, _, _, by walk_at "pick", hP2, ro, ts, ?_, by omega, rfl⟩
        have e : rd l cs (i2 + 1) = rd l cs i2 := by
          show rd l cs i2 ++ slot1 l cs i2 = _
          unfold slot1
          rw [if_pos hz', List.append_nil]
        rw [e]
        exact h1
    · rintro k2 ov2 items _ ⟨ro, ts, h1, h2, rfl⟩
      rw [rd_slots] at h1
      refine ⟨_, by walk_at "setl", ?_⟩
      walk_at "rs"
      refine run_Call ?_
      walk_at "rs"
      refine run_callWith (keeps_ref hC (by assumption)) ?_
      walk_at "rs"
      rw [hf30]
      refine run_Call ?_
      walk_at "rs"
      refine run_callWith keeps_builtin ?_
      walk_at "rs"
      have hsk := hI.slots_keys
      have hsl3 : (slots l cs).length ≤ 3 := by rw [← hI.perm.length_eq]; exact hlF
      refine run_sorted_tups (by walk_at "mem") h1.in (fun p hp => by repeat (first | exact hp | refine memT ?_)) hsk hsl3 fun D2 refs' G' c' hT' hGp hGs => ?_
      have hGF : G'.Perm F := hGp.trans hI.perm.symm
      have hG3 : G'.length ≤ 3 := by rw [hGF.length_eq]; exact hlF
      have hG6 : (G'.map fun p => needN p.2).sum ≤ 6 := by rw [(hGF.map _).sum_nat]; exact hI.need_sum
      walk_at "rs"
      rw [show (f30 : Int) + 7 = ((f30 + 7 : Nat) : Int) by omega]
      refine run_call hC (c_image (G := G') hT' hG3 (fun p hp => by have := hI.rng p (hGF.mem_iff.mp hp); omega) hG6 (by omega)) rfl (by walk_at "pick") ?_
      rintro _ _ ⟨b1, rfl, rfl⟩
      refine ⟨_, by walk_at "app", ?_⟩
      refine Run.drop (keep := (b1, baObj (imgB G')) :: (d, od) :: (sa, oL) :: []) (by walk_at "pick") ?_
      refine run_Call ?_
      walk_at "rs"
      refine run_callWith (keeps_ref hC (by assumption)) ?_
      walk_at "rs"
      rw [hf30]
      refine run_Call ?_
      walk_at "rs"
      refine run_callWith (keeps_ref hC (by assumption)) ?_
      walk_at "rs"
      refine run_call hC (c_listed hF (by omega)) rfl (by walk_at "pick") ?_
      rintro _ _ ⟨L2, kL2, refs2, ns2, ts2, rfl, p1, p2, hT2, rfl⟩
      refine ⟨_, by walk_at "app", ?_⟩
      refine Run.perm (led' := (L2, lstObj refs2 kL2) :: (d, od) :: (b1, baObj (imgB G')) :: (sa, oL) :: ts2) (((List.perm_append_comm (l₁ := ts2) (l₂ := [(b1, baObj (imgB G')), (sa, oL)])).cons _).cons _) ?_
      have hG2F := gather_perm hI.keys p1
      walk_at "rs"
      rw [show (f30 : Int) + 3 = ((f30 + 3 : Nat) : Int) by omega]
      refine run_call hC (c_image (G := gather F ns2) hT2.in (by rw [hG2F.length_eq]; exact hlF) (fun p hp => by have := hI.rng p (hG2F.mem_iff.mp hp); omega) (by rw [(hG2F.map _).sum_nat]; exact hI.need_sum) (by omega)) rfl (by walk_at "pick") ?_
      rintro _ _ ⟨b2, rfl, rfl⟩
      refine ⟨_, by walk_at "app", ?_⟩
      walk_at "rs"
      refine run_eq_ba (by walk_at "mem") (by walk_at "mem") ?_
      rw [hI.same p1 p2 hGp hGs, decide_eq_true rfl]
      walk_at "rs"
      exact hQf _ _ _ ⟨_, _, by walk_at "pick", rfl, rfl⟩
end
end

/-! T1 -/
def noLst : Frag → Bool
  | [] => true
  | p :: r => !(p.2.cls == Value.type "list") && noLst r
theorem noLst_lookup : ∀ {K : Frag}, noLst K = true → ∀ {a : Addr} {o : Obj}, K.lookup a = some o → o.cls ≠ .type "list"
  | [], _, a, o, e => by cases e
  | p :: r, h, a, o, e => by
    obtain ⟨h1, h2⟩ := Bool.and_eq_true_iff.mp h
    obtain ⟨b, x⟩ := p
    rw [List.lookup_cons] at e
    cases hq : a == b with
    | true =>
      rw [hq] at e
      cases e
      intro q
      rw [q] at h1
      exact absurd h1 (by decide)
    | false => rw [hq] at e; exact noLst_lookup h2 e
theorem noLst_K (p : Params) : noLst (myK p) = true := by kernel_rfl
theorem top_ {w : World} {s₁ : Shared} {fa sa : Addr} {vs : List Value} {ns : List Int} {p : Program} {loose : List Str} {mg mb : Str → Option Value} {prog : Program} (KX : (myK w.params).In s₁.heap) (T : TopRead p loose mg mb s₁.heap) (hmg : mg "law" = some (.ref fa)) (hg : s₁.gens = #[])
    (hL : s₁.heap.IsList sa vs.toArray) (hI : IntsAre vs ns) (hlen : ns.length ≤ 63) :
    FbTop.wpTop (model prog w) (PySem.call (.ref fa) [.ref sa]) (fun v s' => v = .bool true ∧ (∀ b o, s₁.heap.get? b = some o → s'.heap.get? b = some o) ∧ s'.os = s₁.os ∧ s'.gens = #[]) (fun _ _ => False) s₁ := by
  obtain ⟨oL, hoL, hcls, kk, hdat⟩ := hL
  have hfa : fa = 850 := by
    have h1 := mg_of KX T.g (fill0 (p := w.params)).1
    rw [h1] at hmg
    cases hmg; rfl
  subst hfa
  have hns : ∀ {a : Addr} {m : Str → Option Value}, s₁.heap.Ns a m → a ∉ [sa] := fun {a m} h hm => by
    obtain ⟨o, es, ep, h1, h2, _⟩ := h
    rw [List.mem_singleton.mp hm, hoL] at h1
    cases h1
    rw [hdat] at h2; cases h2
  have hkeep : ∀ {a : Addr} {m : Str → Option Value}, s₁.heap.Ns a m → (hideAll s₁.heap [sa]).Ns a m := fun {a m} h => by
    have hn := hns h
    obtain ⟨o, es, ep, h1, h2⟩ := h
    exact ⟨o, es, ep, hideAll_get _ h1 hn, h2⟩
  have hX : (myK w.params).In (hideAll s₁.heap [sa]) := fun a o e => hideAll_get _ (KX a o e) fun hm => by
    have h1 := KX a o e
    rw [List.mem_singleton.mp hm, hoL] at h1
    cases h1
    exact noLst_lookup (noLst_K _) e hcls
  have hT : TopRead p loose mg mb (hideAll s₁.heap [sa]) := ⟨hkeep T.g, hkeep T.b, by
    obtain ⟨mc, h1, h2⟩ := T.nolimit
    exact ⟨mc, hkeep h1, h2⟩, T.builtins, T.free⟩
  have hc := c_law (prog := prog) (w := w) (sa := sa) (oL := oL) ⟨hcls, kk, hdat⟩ hI (by rw [hI.length]; exact hlen) callerA (hideAll s₁.heap [sa]) s₁ rfl (by decide) (by decide) hX ⟨p, loose, mg, mb, hT⟩ (Nat.le_of_eq (hideAll_size _ _))
    (fun b o e => of_hideAll _ e) ⟨fun q hq => by rw [List.mem_singleton.mp hq]; exact ⟨hoL, hideAll_none _ (.head _)⟩, by simp⟩
  have hw : wpP (model prog w) callerA (PySem.call (.ref 850) [.ref sa]) (fun v s' => v = .bool true ∧ (∀ b o, s₁.heap.get? b = some o → s'.heap.get? b = some o) ∧ s'.os = s₁.os ∧ s'.gens = #[]) s₁ := by
    refine wpP_call (codeP_mono hc fun f s' hf => ?_)
    obtain ⟨v, led', rfl, hext, hown, hgens, _, hos, rfl, rfl⟩ := hf
    refine ⟨rfl, fun b o e => ?_, hos, hgens.trans hg⟩
    by_cases hb : b = sa
    · subst hb
      have := (hown.at_ _ (.head _)).1
      rw [hoL] at e
      cases e
      exact this
    · exact hext _ _ (hideAll_get _ e fun hm => hb (List.mem_singleton.mp hm))
  intro q
  exact Sem.wp_mono _ _ _ (fun _ _ _ h => h) (fun _ _ _ h => h) q s₁ (hw _ q caller_in ⟨rfl, fun x hx => nomatch hx⟩)

end Fb
namespace FbTop
local macro_rules | `(tactic| k_head) => `(tactic| o_head (kHook Fb.myK Fb.myAs (fun _ => by kernel_rfl)))
open_top hd for PySem.Challenge.rw_ef5003_01
end FbTop

theorem PySem.Challenge.cw_ef5003_01_holds : PySem.Challenge.rw_ef5003_01.Holds := by
  refine FbTop.hd ?_
  intro w s₀ s₁ mg mb G Y fa o pm cd doc dV kV ho hd hcd hD hmg hg args vals as hpre hlay hrd hwl hlo
  have KX := kIn_of Y
  refine Ground.open G ?_
  intro T B D TE TW
  wrow_args hpre hlay hrd hwl hlo
  have hmg' : mg "law" = some (.ref fa) := hmg
  clear hmg hD hcd hd ho
  rename_i ns _ _ _ _ _ _ _ sa vs _ hL ra w1 r0 hI hr hc1 hc2
  refine FbTop.wpTop_mono (Fb.top_ KX (topRead_of T) hmg' hg hL hI (by omega)) (fun v s' h => ?_) (fun e s' h => h.elim)
  obtain ⟨rfl, hk, hos, hgens⟩ := h
  refine GoodW.toG ⟨.inl ⟨.bool true, .bool true, [], rfl, fun cls => ?_, .bool true, ?_, fun _ => ⟨List.nodup_nil, fun a h => nomatch h⟩⟩, hk, hos, hgens⟩
  · first | rfl | wrow_none_raised
  · first | rfl | wrow_post
