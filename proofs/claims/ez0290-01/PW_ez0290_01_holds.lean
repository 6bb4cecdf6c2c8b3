import PyProof.Rows.All
import Wide.All
import OpenK.AllK
import Wide.FinOn
import OpenK.XHead
import OpenK.XGo
import PyProof.CallFns
import PyProof.CallType
import PyProof.DictCompW
import PyProof.EnumStmt
import PyProof.Draws
import PyProof.EnumMake
import PyProof.EqLayable
import PyProof.ReprStr
import PyProof.ZipIter
import PyProof.Rows.RuleB_xor
import Open.Head
import KE.KBoundM
import KE.KSlice
import KE.KDictAnyGet
import KE.KIntText
import KE.KIsAll
import KE.RegKIsAll
import KE.KxPercent
import KE.KSuperObj
import KE.KSuper
import KE.KTryOn
import PySem.Challenge.RW_ez0290_01
set_option Elab.async false

section
open PySem PySem.W PySem.Spec PySem.Calls PyProof.Rows
open Sem (wp)
namespace Mine
/-- the stack holds the caller of a claim -/
def CallerIn (Γ : PySem.Ctx) : Prop := Γ.code.isCaller = true ∨ (Γ.below.map (·.1)).any Code.isCaller = true
/-- of every stack that holds the caller -/
def wpC {α : Type} (M : Model) (A : Around) (t : Sem α) (Q : α → Shared → Prop) (E : Value → Shared → Prop) (s : Shared) : Prop :=
  ∀ (Γ : PySem.Ctx) p, Γ.In A → CallerIn Γ → wp M Γ t (fun a _ s' => Q a s') (fun e _ s' => E e s') p s
def codeC (M : Model) (A : Around) (c : Code) (R : Result → Shared → Prop) (s : Shared) : Prop :=
  ∀ (Γ : PySem.Ctx) p, Γ.code = c → Γ.Below A → (Γ.below.map (·.1)).any Code.isCaller = true → wpCode M Γ R p s
section
variable {α β : Type} {M : Model} {A : Around} {E : Value → Shared → Prop} {s : Shared}
theorem wpC_of {t : Sem α} {Q : α → Shared → Prop} (h : wpAny M A t Q E s) : wpC M A t Q E s := fun Γ p hΓ _ => h Γ p hΓ
theorem codeC_of {c : Code} {R : Result → Shared → Prop} (h : codeAny M A c R s) : codeC M A c R s := fun Γ p hc hΓ _ => h Γ p hc hΓ
theorem wpC_pure {a : α} {Q : α → Shared → Prop} (h : Q a s) : wpC M A (pure a) Q E s := fun _ _ _ _ => h
theorem wpC_mono {t : Sem α} {Q Q' : α → Shared → Prop} {E' : Value → Shared → Prop} (h : wpC M A t Q E s) (hQ : ∀ a s, Q a s → Q' a s) (hE : ∀ e s, E e s → E' e s) : wpC M A t Q' E' s :=
  fun Γ p hΓ hc => Sem.wp_mono M Γ t (fun a _ s => hQ a s) (fun e _ s => hE e s) p s (h Γ p hΓ hc)
theorem wpC_bind {m : Sem α} {f : α → Sem β} {Q : β → Shared → Prop} (h : wpC M A m (fun a s' => wpC M A (f a) Q E s') E s) : wpC M A (m >>= f) Q E s := fun Γ p hΓ hc => by
  rw [Sem.wp_bind']
  exact Sem.wp_mono M Γ m (fun a p' s' h' => h' Γ p' hΓ hc) (fun _ _ _ h' => h') p s (h Γ p hΓ hc)
theorem wpC_onRaise {m : Sem α} {k : Value → Sem Unit} {Q : α → Shared → Prop} (h : wpC M A m Q (fun e s' => wpC M A (k e) (fun _ s'' => E e s'') E s') s) : wpC M A (m.onRaise k) Q E s := fun Γ p hΓ hc => by
  rw [Sem.wp_onRaise]
  exact Sem.wp_mono M Γ m (fun _ _ _ h' => h') (fun e p' s' h' => h' Γ p' hΓ hc) p s (h Γ p hΓ hc)
theorem wpC_attempt {m : Sem α} {Q : Except Value α → Shared → Prop} (h : wpC M A m (fun a => Q (.ok a)) (fun e => Q (.error e)) s) : wpC M A m.attempt Q E s := fun Γ p hΓ hc => by rw [Sem.wp_attempt]; exact h Γ p hΓ hc
theorem wpC_holding {vs : List Value} {m : Sem α} {Q : α → Shared → Prop} (h : wpC M A m Q E s) : wpC M A (holding vs m) Q E s := fun Γ p hΓ hc => by rw [Sem.wp_holding]; exact h Γ p hΓ hc
theorem wpC_standAt {pos : Pos} {Q : Unit → Shared → Prop} (h : Q () s) : wpC M A (standAt pos) Q E s := fun _ _ _ _ => h
theorem wpC_point {Q : Unit → Shared → Prop} (h : Q () s) : wpC M A point Q E s := fun _ _ _ _ => h
theorem wpC_rule {tag : String} {Q : Unit → Shared → Prop} (h : Q () s) : wpC M A (rule tag) Q E s := fun _ _ _ _ => h
theorem wpC_tryCatch {m : Sem α} {k : Value → Sem α} {Q : α → Shared → Prop} (h : wpC M A m Q (fun e s' => wpC M A (k e) Q E s') s) : wpC M A (tryCatch m k) Q E s := fun Γ p hΓ hc => by
  rw [Sem.wp_tryCatch']
  exact Sem.wp_mono M Γ m (fun _ _ _ h' => h') (fun e p' s' h' => h' Γ p' hΓ hc) p s (h Γ p hΓ hc)
theorem enter_caller {Γ : PySem.Ctx} (hc : CallerIn Γ) (c : Code) (hd : Option Value) (p : Pos) : ((Γ.enter c hd p).below.map (·.1)).any Code.isCaller = true := by
  show (((Γ.code, p) :: Γ.below).map (·.1)).any Code.isCaller = true
  rw [List.map_cons, List.any_cons]
  rcases hc with h | h
  · rw [h]; rfl
  · rw [h, Bool.or_true]
theorem wpC_run {c : Code} {h : Option Value} {Q : Flow → Shared → Prop} (hc : codeC M (A.mark h) c (fun r s' => match r with | .ok f => Q f s' | .error e => E e s') s) (hnb : h ≠ some byPass := by intro x; cases x) : wpC M A (run c h) Q E s :=
  fun Γ p hΓ hk => by rw [Sem.wp_run]; exact hc _ p rfl (hΓ.enter c h p hnb) (enter_caller hk c h p)
theorem wpC_runValue {c : Code} {Q : Value → Shared → Prop} (hc : codeC M A c (fun r s' => match r with | .ok (.ret v) => Q v s' | .ok _ => False | .error e => E e s') s) : wpC M A (runValue c) Q E s :=
  fun Γ p hΓ hk => by rw [Sem.wp_runValue]; exact hc _ p rfl (hΓ.enter c none p (by intro x; cases x)) (enter_caller hk c none p)
theorem wpC_call {f : Value} {pos : List Value} {kw : List (Str × Value)} {Q : Value → Shared → Prop} (hc : codeC M A (.call f ⟨pos, kw⟩) (fun r s' => match r with | .ok (.ret v) => Q v s' | .ok _ => False | .error e => E e s') s) : wpC M A (call f pos kw) Q E s := wpC_runValue hc
theorem codeC_of_tree {c : Code} {R : Result → Shared → Prop} (h : wpC M (A.under c) (M.den c) (fun fin s' => match fin with | .done f => R (.ok f) s' | .again c' => c'.quiet = true ∧ codeC M A c' R s') (fun e s' => R (.error e) s') s) : codeC M A c R s := fun Γ p hc hΓ hk => by
  rw [wpCode_iff_wp, hc]
  refine Sem.wp_mono M Γ _ (fun fin p' s' h' => ?_) (fun _ _ _ h' => h') p s (h Γ p (hc ▸ hΓ.in) (.inr hk))
  cases fin with
  | done f => exact h'
  | again c' => exact ⟨h'.1, h'.2 (Γ.goto c') p' rfl (hΓ.goto c') hk⟩
theorem codeC_mono {c : Code} {R R' : Result → Shared → Prop} (h : codeC M A c R s) (hR : ∀ r s, R r s → R' r s) : codeC M A c R' s := fun Γ p hc hΓ hk => wpCode_mono hR (h Γ p hc hΓ hk)
theorem codeC_loop {c : Code} {R : Result → Shared → Prop} (hq : c.quiet = true) (I : Nat → Shared → Prop)
    (turn : ∀ n s, I n s → wpC M (A.under c) (M.den c) (fun fin s' => match fin with | .done f => R (.ok f) s' | .again c' => c' = c ∧ ∃ m, m < n ∧ I m s') (fun e s' => R (.error e) s') s)
    (n : Nat) (h : I n s) : codeC M A c R s := by
  induction n using Nat.strongRecOn generalizing s with
  | ind n ih =>
    refine codeC_of_tree (wpC_mono (turn n s h) (fun fin s' hf => ?_) fun _ _ h' => h')
    cases fin with
    | done f => exact hf
    | again c' => obtain ⟨rfl, m, hm, hI⟩ := hf; exact ⟨hq, ih m hm hI⟩
/-- with the caller in the stack a refusal leaves no mark -/
theorem wpC_mark {own : List String} {e : Value} {Q : Unit → Shared → Prop} (h : Q () s) : wpC M A (markTheRefusal own e) Q E s := fun Γ p hΓ hk => by
  unfold markTheRefusal
  rw [Sem.wp_bind']
  show wp M Γ (if pythonCodeMadeTheCall own (((Γ.code, p) :: Γ.below).map (·.1)) = true then _ else _) _ _ p s
  have hn : pythonCodeMadeTheCall own (((Γ.code, p) :: Γ.below).map (·.1)) = false := by
    have hcal : (((Γ.code, p) :: Γ.below).map (·.1)).any Code.isCaller = true := by
      rw [List.map_cons, List.any_cons]
      rcases hk with h | h
      · rw [h]; rfl
      · rw [h, Bool.or_true]
    unfold pythonCodeMadeTheCall
    show ((!((((Γ.code, p) :: Γ.below).map (·.1)).any Code.isCaller) && _) && _) = false
    rw [hcal]; rfl
  rw [if_neg (by rw [hn]; exact Bool.false_ne_true)]
  exact h
end
end Mine
end

section
open PySem PySem.W PySem.Spec PySem.Calls PyProof.Rows
open Sem (wp)
set_option maxRecDepth 100000
namespace Mine
theorem caller_has : CallerIn ⟨.builtin "claim.caller" {}, none, none, [], none⟩ := .inl rfl
theorem done_of_wpC {M : Model} {A : Around} {Γ : PySem.Ctx} {t : Sem Fin} {R : Result → Shared → Prop} {s : Shared} (hin : Γ.In A) (hc : CallerIn Γ)
    (h : wpC M A t (fun fin s' => ∃ f, fin = .done f ∧ R (.ok f) s') (fun e s' => R (.error e) s') s) (p : Pos) :
    wp M Γ t (Sem.finPost M Γ R) (fun e _ s' => R (.error e) s') p s := by
  refine Sem.wp_mono M Γ t (fun fin p' s' h' => ?_) (fun _ _ _ h' => h') p s (h Γ p hin hc)
  obtain ⟨f, rfl, hf⟩ := h'
  exact hf
theorem threadC {prog : Program} {w : World} {t : Sem Fin} {s : Shared} {R : Result → Shared → Prop} (hreg : s.asleep)
    (h : wpC (model prog w) callerA t (fun fin s' => ∃ f, fin = .done f ∧ (R (.ok f) s' ∧ leftWithCleanup s'.gens = false)) (fun e s' => R (.error e) s' ∧ leftWithCleanup s'.gens = false) s) :
    ∃ n r s' s'', runN (denote table) prog w n s ⟨t, .builtin "claim.caller" {}, default, []⟩ = .halted (outcomeOf r) s' ∧
      schedN (denote table) prog w n (.single s ⟨t, .builtin "claim.caller" {}, default, []⟩) = .halted (outcomeOf r) s' ∧ s'.forget = s''.forget ∧ R r s'' := by
  obtain ⟨n, r, s₁, s₂, hs, hn, hfo, hR⟩ := wp_halts_full (M := model prog w) (R := R) hreg (done_of_wpC (R := fun r s' => R r s' ∧ leftWithCleanup s'.gens = false) caller_in caller_has h default)
  exact ⟨n, r, s₂, s₁, hn, hs, hfo, hR⟩
theorem callFrom_of_specC {c : ClaimW} {tree : List Value → Sem Fin} {w : World} {s : Shared} {free : Addr → Prop} {gens : Prop} {kept : Heap → Prop} (hz : s.asleep) (hgens : s.gens = #[])
    (hspec : ∀ args, c.pre args = true → WData.layableAll args = true →
      ∀ ord : List DictEntry → List DictEntry, (∀ l, (ord l).Perm l) →
      ∃ vs s₁, layAllW c.records (classAt s.heap) w.params ord args s = some (vs, s₁) ∧
        wpC (model c.prog w) callerA (tree vs) (fun fin s' => ∃ f, fin = .done f ∧ (c.Ends s args vs s₁ (.ok f) s' ∧ s'.os = s.os ∧ AllBare s'.gens ∧ kept s'.heap))
          (fun e s' => c.Ends s args vs s₁ (.error e) s' ∧ s'.os = s.os ∧ AllBare s'.gens ∧ kept s'.heap) s₁) :
    c.CallFrom (fun vs => ⟨tree vs, .builtin "claim.caller" {}, default, []⟩) w free gens kept s := by
  intro args hpre hlay ord hord
  obtain ⟨vs, s₁, hlaid, hcode⟩ := hspec args hpre hlay ord hord
  have hal := layAllW_rest _ _ _ hlaid
  obtain ⟨k, r, s', s'', hrun, hsched, hfo, hcase, hos, hkp⟩ := threadC (prog := c.prog) (w := w) (t := tree vs) (s := s₁)
    (R := fun r s' => c.Ends s args vs s₁ r s' ∧ s'.os = s.os ∧ kept s'.heap)
    (Shared.asleep_of_life hal.2.2.2 hz)
    (wpC_mono hcode (by
      rintro fin s' ⟨f, e, h1, h2, h3, h4⟩
      exact ⟨f, e, ⟨h1, h2, h4⟩, leftWithCleanup_false_of_bare h3⟩) (by
      rintro e s' ⟨h1, h2, h3, h4⟩
      exact ⟨⟨h1, h2, h4⟩, leftWithCleanup_false_of_bare h3⟩))
  obtain ⟨eh, _, _, eo, _⟩ := Shared.forget_eq hfo
  have hcase := hcase.congr eh
  have hkp : kept s'.heap := by first | exact eh ▸ hkp | (rw [eh] at hkp; exact hkp) | (rw [← eh] at hkp; exact hkp)
  rw [← eo] at hos
  have hlife : s'.heap.life = s.heap.life := (runN_life _ _ _ hrun).trans hal.2.2.2
  refine ⟨vs, s₁, hlaid, k, _, s', hsched, ?_, (fun _ i x hx => by rw [hgens] at hx; simp at hx), hkp, by rw [hlife], Shared.rest_eq hos⟩
  rcases hcase with ⟨v, rfl, d1, d2, d3, d4, d5⟩ | ⟨e, ob, cls, rfl, d1, d2, d3, d4, d5⟩
  · exact .inl ⟨v, rfl, d1, d2, d3, fun b o y _ => d4 b o y, d5⟩
  · exact .inr ⟨e, ob, cls, rfl, d1, d2, d3, d4, fun b o y _ => d5 b o y⟩
theorem open_anyC2 {r : RowW} {run : Value → List Value → Sem Value} {tree : List Value → Sem Fin} {q : Program} {loose defs kps : List Str} {writes : Bool} {Xt : Shared → Bool} {XP : (Str → Option Value) → Heap → Prop} {α : Type} {Yf : Shared → α} {Ya : World → α} {YP : World → Heap → Prop} {N : Nat}
    (left : LeftO r.prog q loose Xt Yf Ya N) (hY : ∀ w s, Yf s = Ya w → YP w s.heap) (hYk : ∀ w h h', YP w h → (∀ b o, h.get? b = some o → h'.get? b = some o) → YP w h') (hX : ∀ s, Xt s = true → XP (s.heap.nsMap mainGlobals) s.heap) (hXk : ∀ mg h h', XP mg h → (∀ b o, h.get? b = some o → h'.get? b = some o) → XP mg h')
    (hRf : ∀ s, Xt s = true → RecFacts r.records s.heap) (hwr : (!writes || r.records.isEmpty) = true) (ok : (chainsOk q && opensWell r.prog && (frees r && r.within.isEmpty)) = true) (hb : r.prog.bare) (hw : r.promised)
    (ht : ∀ vs (w : World) (s : Shared) mg f (Q : Fin → Shared → Prop) (E : Value → Shared → Prop), s.heap.Ns mainGlobals mg → mg r.name = some f → wpC (model r.prog w) callerA (run f vs) (fun v s' => Q (.done (.ret v)) s') E s → wpC (model r.prog w) callerA (tree vs) Q E s)
    (pin : ∀ w s, s.heap.isNs mainGlobals = true → Ground q loose [] XP w s (s.heap.nsMap mainGlobals) (s.heap.nsMap builtinsNs) s.heap → ∀ n ∈ defs, isTheDefsW r.prog s.heap n)
    (call : ∀ (w : World) (s₀ s₁ : Shared) (mg mb : Str → Option Value), Ground q loose r.records XP w s₀ mg mb s₁.heap → YP w s₁.heap → ∀ (args : List WData) (vs : List Value) (as : List Addr),
      r.claim.pre args = true → WData.layableAll args = true → Laid r.records w s₀ s₁ args vs as → sysModules < s₀.heap.objs.size → ∃ f, mg r.name = some f ∧
        wpC (model r.prog w) callerA (run f vs) (fun v s' => GoodWG r.claim (classAt s₀.heap) (ExcName.means s₀.heap) args s₁ (.ok (.ret v)) s')
          (fun e s' => GoodWG r.claim (classAt s₀.heap) (ExcName.means s₀.heap) args s₁ (.error e) s') s₁) : r.claim.HoldsOpenBy (fun vs => ⟨tree vs, .builtin "claim.caller" {}, default, []⟩) defs kps writes := by
  obtain ⟨ok, k5⟩ := Bool.and_eq_true_iff.mp ok
  obtain ⟨hch, o1⟩ := Bool.and_eq_true_iff.mp ok
  obtain ⟨k5, k6⟩ := Bool.and_eq_true_iff.mp k5
  obtain ⟨hsame, hu, ha, hap, hm⟩ := frees_parts k5
  refine ⟨⟨hb, o1, by show r.makers.map _ = []; rw [hm]; rfl⟩, hw.witness, fun w => ⟨(left.behind hX hch w).1, fun s' hs' => ?_⟩⟩
  obtain ⟨s₀, hf, hg0, s, hT, hz, hgens, hg, G00, y⟩ := (left.behind (XP := fun mg h => XP mg h ∧ RecFacts r.records h) (fun s hs => ⟨hX s hs, hRf s hs⟩) hch w).2 s' hs'
  have G0 : Ground q loose [] XP w s (s.heap.nsMap mainGlobals) (s.heap.nsMap builtinsNs) s.heap := ⟨G00.T, G00.B, G00.D, G00.TE, G00.TD, G00.W, G00.X.1, G00.cls, G00.has, G00.apart, G00.once, G00.K⟩
  have RF := G00.X.2
  have hT' := hT
  refine ⟨s₀, hf, hg0, s, hT, pin w s hg G0, RF.1, RF.2.1, ?_⟩
  have hgens : s.gens = #[] := Array.eq_empty_of_size_eq_zero (beq_iff_eq.mp hgens)
  have G : Ground q loose r.records XP w s _ _ s.heap := RF.ground G0
  refine callFrom_of_specC (c := r.claim) hz hgens fun args hpre hlay ord hord => ?_
  obtain ⟨⟨vs, s₁⟩, hlaid⟩ := Option.isSome_iff_exists.mp (layAllW_isSome (P := w.params) (ord := ord) G.has args r.args s (pre_splitW hpre).1)
  have keeps := layAllW_keeps _ _ _ hlaid
  have hal := layAllW_rest _ _ _ hlaid
  obtain ⟨as, hrd, hin, hold⟩ := reads_layAllW hord _ _ _ hlaid hlay s₁.heap (fun _ _ e => e)
  have L : Laid r.records w s s₁ args vs as := ⟨⟨ord, hord, hlaid⟩, hrd, hin, hold, keeps, hal.1.trans hgens, hal.2.2.1⟩
  have G₁ := G.keeps hXk keeps
  obtain ⟨f, hf, h⟩ := call w s s₁ _ _ G₁ (hYk _ _ _ (hY w s y) keeps) args vs as hpre hlay L G.low
  have hi := ident_freeW hu ha hap
  have hwi : r.claim.within = [] := List.isEmpty_iff.mp k6
  exact ⟨vs, s₁, hlaid, ht vs w s₁ _ f _ _ G₁.T.g hf (wpC_mono h (fun v s' g => ⟨_, rfl, have z := g.laid (c := r.claim) hsame hwi hi L; ⟨z.1, z.2.1, z.2.2, fun q => ⟨namesKept_of hT' hg kps keeps g.2.1.old, noTable hwr q⟩⟩⟩) fun e s' g => have z := g.laid (c := r.claim) hsame hwi hi L; ⟨z.1, z.2.1, z.2.2, fun q => ⟨namesKept_of hT' hg kps keeps g.2.1.old, noTable hwr q⟩⟩)⟩
abbrev WalkC (q : Program) (loose : List Str) (XP : (Str → Option Value) → Heap → Prop) (YP : World → Heap → Prop) (r : RowW) (d : DefRec) (kwd : List (Str × Expr)) (run : Value → List Value → Sem Value) : Prop :=
  ∀ (w : World) (s₀ s₁ : Shared) (mg mb : Str → Option Value), Ground q loose r.records XP w s₀ mg mb s₁.heap → YP w s₁.heap → ∀ (a : Addr) (o : Obj) (pm cd doc dV kV : Value), s₁.heap.get? a = some o →
    o.data = .func { docDef d.name d.params d.body d.scope pm cd doc with defaults := dV, kwdefaults := kV } → s₁.heap.CodeRec cd d.name → Dflts mg s₁.heap d.params kwd dV kV → mg d.name = some (.ref a) → s₁.gens = #[] →
    ∀ (args : List WData) (vals : List Value) (as : List Addr), r.claim.pre args = true → WData.layableAll args = true → ReadsAllW r.records (classAt s₀.heap) s₁.heap vals args as → WellAll w.params s₁.heap vals args → (∀ a ∈ as, (a == sysModules) = false) →
      wpC (model r.prog w) callerA (run (.ref a) vals) (fun v s' => GoodWG r.claim (classAt s₀.heap) (ExcName.means s₀.heap) args s₁ (.ok (.ret v)) s')
        (fun e s' => GoodWG r.claim (classAt s₀.heap) (ExcName.means s₀.heap) args s₁ (.error e) s') s₁
theorem PySem.W.holds_open {r : OpenRow} {q : Program} {loose : List Str} {Xt : Shared → Bool} {XP : (Str → Option Value) → Heap → Prop} {α : Type} {Yf : Shared → α} {Ya : World → α} {YP : World → Heap → Prop} {d : DefRec} {kwd : List (Str × Expr)} {N : Nat}
    (left : LeftO r.prog q loose Xt Yf Ya N) (hY : ∀ w s, Yf s = Ya w → YP w s.heap) (hYk : ∀ w h h', YP w h → (∀ b o, h.get? b = some o → h'.get? b = some o) → YP w h')
    (hX : ∀ s, Xt s = true → XP (s.heap.nsMap mainGlobals) s.heap) (hXk : ∀ mg h h', XP mg h → (∀ b o, h.get? b = some o → h'.get? b = some o) → XP mg h')
    (hdef : defOf q r.name = some (d, kwd)) (hp : r.prog.theDef r.name = some (d.params, d.body, d.scope)) (hk : kwWritten? d.params.kwonlyargs d.params.kw_defaults = some kwd) (hRf : ∀ s, Xt s = true → RecFacts r.records s.heap) (hwr : (!r.writes || r.records.isEmpty) = true)
    (k1 : r.wellSaid = true) (ok : (chainsOk q && opensWell r.prog && (frees r.toRowW && r.within.isEmpty)) = true) (hb : r.prog.bare) (hw : r.toRowW.promised)
    (call : WalkC q loose XP YP r.toRowW d kwd fun f vs => PySem.call f vs) : r.Holds := by
  refine ⟨k1, hw, open_anyC2 (r := r.toRowW) (run := fun f vs => PySem.call f vs) (tree := fun vs => do match ← nsGet mainNs r.name with
      | some f => do ret (← PySem.call f vs)
      | none => unsupported "claim.caller:no-such-global") left hY hYk hX hXk hRf hwr ok hb hw
    (fun vs w s mg f Q E hg hf h => wpC_bind (wpC_of (wpAny_nsGet hg (by rw [hf]; exact wpC_bind (wpC_mono h (fun _ _ x => wpC_pure x) fun _ _ x => x)))))
    (fun w s hg G n hn => ?_) fun w s₀ s₁ mg mb G Y args vs as hpre hlay L low => ?_⟩
  · obtain rfl : n = r.name := by split at hn <;> simp_all
    exact pinned_of_view hg G hdef hp hk
  · obtain ⟨a, o, pm, cd, doc, dV, kV, h1, h2, h3, h4, h5⟩ := G.fn hdef
    exact ⟨.ref a, h1, call w s₀ s₁ mg mb G Y a o pm cd doc dV kV h2 h3 h4 h5 (defOf_name hdef ▸ h1) L.gens args vs as hpre hlay L.reads L.well (L.low low)⟩
end Mine
end

section
open PySem PySem.W PyProof.Rows
local macro_rules | `(tactic| k_head) => `(tactic| x_head)
namespace Mine
set_option maxRecDepth 100000 in
set_option maxHeartbeats 8000000 in
open_top hd for PySem.Challenge.rw_ez0290_01
end Mine
end

section
open PySem PySem.W PySem.Spec PySem.Calls PyProof.Rows
namespace Mine
noncomputable abbrev PV : Program := hd.view_39
noncomputable abbrev LL : List Str := looseW hd.view_39
        [Str.ofString "NMEASentence", Str.ofString "NOR", Str.ofString "NORWT4", Str.ofString "NORI1", Str.ofString "SRF",
      Str.ofString "SRF103", Str.ofString "SRF100", Str.ofString "SXN", Str.ofString "SXN20", Str.ofString "SXN21",
      Str.ofString "SXN22", Str.ofString "SXN23", Str.ofString "SXN24", Str.ofString "_law_kinds",
      Str.ofString "_law_words"]
end Mine
end

section
open PySem PySem.W PySem.Spec PySem.Calls PyProof.Rows
namespace Mine
/-- what a contract stands on: the frames, the frame at hand, the written part, the ledger, the top -/
structure Cx (w : World) (mean : ExcName → Option Value) (mg mb : Str → Option Value) (A A₀ : Around) (base h₀ : Heap) (outer : List Env) (cn : Str) (cs : Scope) (a : Addr) (ccd : Value) (cl : List (Str × Addr)) (L : Addr) (m : Str → Option Value) (news : List (Addr × Obj)) (h : Heap) (k : Nat) : Prop where
  B : Below A₀ base outer h₀
  F : Fr h₀ L h m
  X : (hd.heap_39 w.params).In h₀
  N : News h₀ L h news
  T : Top hd.view_39 LL mean mg mb h₀
  hk : cs.kind = .function
  hA : A.frames = some (envX cn cs L a ccd cl :: outer)
  hh : A.handled = none
  hdp : A.depth + k < recursionLimit
  hun : A.units + 100 * k < cLine

mutual
/-- over a ledger a value is a datum: ints, texts, bools, None, lists of such -/
inductive RdIn (news : List (Addr × Obj)) : Value → Dat → Prop
  | none : RdIn news Value.none Dat.none
  | bool (b : Bool) : RdIn news (Value.bool b) (Dat.bool b)
  | int (i : Int) (t : Tok) : RdIn news (Value.int i t) (Dat.int i)
  | str (x : Str) (t : Tok) : RdIn news (Value.str x t) (Dat.str x)
  | list {a : Addr} {o : Obj} {vs : List Value} {n : Nat} {ds : List Dat} : (a, o) ∈ news → o.cls = .type "list" → o.data = .seq vs.toArray n → RdAll news vs ds → RdIn news (Value.ref a) (Dat.list ds)
inductive RdAll (news : List (Addr × Obj)) : List Value → List Dat → Prop
  | nil : RdAll news [] []
  | cons {v : Value} {vs : List Value} {d : Dat} {ds : List Dat} : RdIn news v d → RdAll news vs ds → RdAll news (v :: vs) (d :: ds)
end
mutual
theorem RdIn.mono {news news' : List (Addr × Obj)} (hs : ∀ p ∈ news, p ∈ news') : ∀ {v : Value} {d : Dat}, RdIn news v d → RdIn news' v d
  | _, _, .none => .none
  | _, _, .bool b => .bool b
  | _, _, .int i t => .int i t
  | _, _, .str x t => .str x t
  | _, _, .list h c e r => .list (hs _ h) c e (RdAll.mono hs r)
theorem RdAll.mono {news news' : List (Addr × Obj)} (hs : ∀ p ∈ news, p ∈ news') : ∀ {vs : List Value} {ds : List Dat}, RdAll news vs ds → RdAll news' vs ds
  | _, _, .nil => .nil
  | _, _, .cons h r => .cons (RdIn.mono hs h) (RdAll.mono hs r)
end
theorem RdAll.append {news : List (Addr × Obj)} : ∀ {vs us : List Value} {ds es : List Dat}, RdAll news vs ds → RdAll news us es → RdAll news (vs ++ us) (ds ++ es)
  | _, _, _, _, .nil, k => k
  | _, _, _, _, .cons h r, k => .cons h (RdAll.append r k)
theorem RdAll.length {news : List (Addr × Obj)} : ∀ {vs : List Value} {ds : List Dat}, RdAll news vs ds → vs.length = ds.length
  | _, _, .nil => rfl
  | _, _, .cons _ r => congrArg (· + 1) (RdAll.length r)
/-- a datum that is no object -/
def flatD : Dat → Bool
  | .tuple _ | .list _ | .bytes _ => false
  | _ => true
theorem rd_flat {n n' : List (Addr × Obj)} {v : Value} {d : Dat} (h : DatIn n v d) (hf : flatD d = true) : RdIn n' v d := by
  cases h with
  | none => exact .none
  | bool b => exact .bool b
  | int i t => exact .int i t
  | str x t => exact .str x t
  | bytes b t => cases hf
  | tuple _ _ => cases hf
  | list _ _ => cases hf
theorem rd_flatAll {n n' : List (Addr × Obj)} : ∀ {vs : List Value} {ds : List Dat}, DatAll n vs ds → (∀ d ∈ ds, flatD d = true) → RdAll n' vs ds
  | _, _, .nil, _ => .nil
  | _, _, .cons h r, hf => .cons (rd_flat h (hf _ (.head _))) (rd_flatAll r fun d hd => hf d (.tail _ hd))

section
variable {h₀ : Heap} {L : Addr} {m : Str → Option Value} {news : List (Addr × Obj)} {s : Shared} {Q : Value → Shared → Prop}
/-- the caller goes on with a datum that makes nothing -/
abbrev RetV (h₀ : Heap) (L : Addr) (m : Str → Option Value) (news : List (Addr × Obj)) (s : Shared) (Q : Value → Shared → Prop) (d : Dat) : Prop :=
  ∀ r h' tk', Fr h₀ L h' m → News h₀ L h' news → DatIn [] r d → Q r { s with heap := h', toks := tk' }
/-- the caller goes on with a datum over a ledger that has grown -/
abbrev RetD (h₀ : Heap) (L : Addr) (m : Str → Option Value) (news : List (Addr × Obj)) (s : Shared) (Q : Value → Shared → Prop) (d : Dat) : Prop :=
  ∀ r h' tk' tl, Fr h₀ L h' m → News h₀ L h' (tl ++ news) → (∀ q ∈ news, ∀ p ∈ tl, p.1 ≠ q.1) → RdIn (tl ++ news) r d → Q r { s with heap := h', toks := tk' }
/-- the same, the datum over what was made alone -/
abbrev RetO (h₀ : Heap) (L : Addr) (m : Str → Option Value) (news : List (Addr × Obj)) (s : Shared) (Q : Value → Shared → Prop) (d : Dat) : Prop :=
  ∀ r h' tk' tl, Fr h₀ L h' m → News h₀ L h' (tl ++ news) → (∀ q ∈ news, ∀ p ∈ tl, p.1 ≠ q.1) → RdIn tl r d → Q r { s with heap := h', toks := tk' }
/-- the same, the datum over what was made and a part of the ledger -/
abbrev RetK (h₀ : Heap) (L : Addr) (m : Str → Option Value) (news K : List (Addr × Obj)) (s : Shared) (Q : Value → Shared → Prop) (d : Dat) : Prop :=
  ∀ r h' tk' tl, Fr h₀ L h' m → News h₀ L h' (tl ++ news) → (∀ q ∈ news, ∀ p ∈ tl, p.1 ≠ q.1) → RdIn (tl ++ K) r d → Q r { s with heap := h', toks := tk' }
end

theorem news_1 {h₀ h : Heap} {L : Addr} {p : Addr × Obj} {news : List (Addr × Obj)} (N : News h₀ L h (p :: news)) : News h₀ L h news := fun q hq => N q (.tail _ hq)
theorem news_2 {h₀ h : Heap} {L : Addr} {p q : Addr × Obj} {news : List (Addr × Obj)} (N : News h₀ L h (p :: q :: news)) : News h₀ L h news := fun r hr => N r (.tail _ (.tail _ hr))
theorem news_a {h₀ h : Heap} {L : Addr} {tl news : List (Addr × Obj)} (N : News h₀ L h (tl ++ news)) : News h₀ L h news := fun r hr => N r (List.mem_append.mpr (.inr hr))
/-- the flat data as Dat -/
def datP : PyData → Dat
  | .none => .none
  | .bool b => .bool b
  | .int i => .int i
  | .str x => .str x
  | _ => .none
def flatP : PyData → Bool
  | .none | .bool _ | .int _ | .str _ => true
  | _ => false
theorem datIn_flat {news : List (Addr × Obj)} {v : Value} {d : PyData} (h : PyProof.V.Flat v d) (hf : flatP d = true) : DatIn news v (datP d) := by
  cases d with
  | none => rw [h.none_inv]; exact .none
  | bool b => rw [h.bool_inv]; exact .bool b
  | int i => obtain ⟨t, rfl⟩ := h.int_inv; exact .int i t
  | str x => obtain ⟨t, rfl⟩ := h.str_inv; exact .str x t
  | list _ => cases hf
  | tuple _ => cases hf
  | dict _ => cases hf

/-- what _law_whole makes of a text -/
def wholeTab : List (PyData × PyData) := [(.str (Str.ofString "7"), .int 7), (.str (Str.ofString "0"), .int 0), (.str (Str.ofString "007"), .int 7), (.str (Str.ofString "+12"), .int 12), (.str (Str.ofString "20"), .int 20), (.str (Str.ofString "21"), .int 21)]
def wholeP (x : Str) : PyData := if x = Str.ofString "" then .none else if x = Str.ofString "-3" then .int (-3) else (PySem.Spec.lookup (.str x) wholeTab).getD (.str x)
theorem flat_wholeP (x : Str) : flatP (wholeP x) = true := by
  unfold wholeP wholeTab
  simp only [PySem.Spec.lookup]
  repeat' split
  all_goals first | rfl | (simp only [Option.getD_some, Option.getD_none]; rfl)
def wholeD (x : Str) : Dat := datP (wholeP x)
section
variable {news : List (Addr × Obj)} {x : Str} {v : Value} {t : Tok}
theorem whole_none (h : (x == Str.ofString "") = true) : DatIn news .none (wholeD x) := by
  have e : x = Str.ofString "" := by simpa using h
  have q : wholeP x = .none := by unfold wholeP; rw [if_pos e]
  unfold wholeD
  rw [q]
  exact .none
theorem whole_m3 (h0 : (x == Str.ofString "") = false) (h : (x == Str.ofString "-3") = true) : DatIn news (.int (0 - 3) t) (wholeD x) := by
  have e0 : ¬ x = Str.ofString "" := by simpa using h0
  have e : x = Str.ofString "-3" := by simpa using h
  have q : wholeP x = .int (-3) := by unfold wholeP; rw [if_neg e0, if_pos e]
  unfold wholeD
  rw [q]
  exact .int _ _
theorem whole_tab (h0 : (x == Str.ofString "") = false) (h1 : (x == Str.ofString "-3") = false) (h : PyProof.V.Flat v ((PySem.Spec.lookup (.str x) wholeTab).getD (.str x))) : DatIn news v (wholeD x) := by
  have e0 : ¬ x = Str.ofString "" := by simpa using h0
  have e1 : ¬ x = Str.ofString "-3" := by simpa using h1
  have q : wholeP x = (PySem.Spec.lookup (.str x) wholeTab).getD (.str x) := by unfold wholeP; rw [if_neg e0, if_neg e1]
  unfold wholeD
  rw [← q] at h
  exact datIn_flat h (flat_wholeP x)
end
end Mine
end

section
open PySem PySem.W PySem.Spec PySem.Calls PyProof.Rows
namespace Mine
section
variable {prog : Program} {w : World} {A : Around} {E : Value → Shared → Prop} {s : Shared}
theorem len_txt {l : Addr} {vs : List Value} {ws : List Str} {Q : Value → Shared → Prop} (hl : s.heap.IsList l vs.toArray) (hi : StrsAre vs ws) (hb : ws.length ≤ 100) (h : Q (.int ws.length (s.toks + 1)) { s with toks := s.toks + 1 + 1 }) :
    wpAny (model prog w) A (call (.builtin "len") [.ref l]) Q E s := by
  have e : vs.toArray.size = ws.length := by simp [hi.length]
  exact len_list hl (by rw [e]; omega) (by rw [e]; exact h)
theorem strs_get {vs : List Value} {ws : List Str} (h : StrsAre vs ws) : ∀ {k : Nat}, k < ws.length → ∃ t, vs[k]? = some (.str (ws.getD k Str.empty) t) := by
  induction h with
  | nil => intro k hk; exact absurd hk (Nat.not_lt_zero _)
  | cons x t _ ih =>
    intro k hk
    cases k with
    | zero => exact ⟨t, rfl⟩
    | succ k =>
      obtain ⟨u, hu⟩ := ih (Nat.lt_of_succ_lt_succ hk)
      exact ⟨u, by simpa using hu⟩
theorem item_txt {value slice : PySem.Expr} {l : Addr} {vs : List Value} {ws : List Str} {k : Int} {u : Tok} {Q : Value → Shared → Prop} (hl : s.heap.IsList l vs.toArray) (hi : StrsAre vs ws) (hb : ws.length ≤ 100)
    (h0 : 0 ≤ k) (h1 : k < ws.length) (h : ∀ t, Q (.str (ws.getD k.toNat Str.empty) t) s)
    (hs : subscripted slice false (.ref l) (.int k u) = operate [.ref l, .int k u] (getItem (.ref l) (.int k u)) := by with_unfolding_all rfl) (hg : ∀ r, letTemporaryGo value (.ref l) r = pure () := by intro _; with_unfolding_all rfl) :
    wpAny (model prog w) A (subscriptTail value slice (.ref l) (.int k u)) Q E s := by
  obtain ⟨t, ht⟩ := strs_get hi (k := k.toNat) (by omega)
  exact item_listL hl h0 (by omega) ht (h t) hs hg
end
theorem strs_rd {news : List (Addr × Obj)} {vs : List Value} {ws : List Str} (h : StrsAre vs ws) : RdAll news vs (ws.map Dat.str) := by
  induction h with
  | nil => exact .nil
  | cons x t _ ih => exact .cons (.str x t) ih
def isIntD : Dat → Bool
  | .int _ => true
  | _ => false
def isStrD : Dat → Bool
  | .str _ => true
  | _ => false
def kindsD : Dat → Bool
  | .none | .int _ | .str _ => true
  | _ => false
def kindD (d : Dat) : Dat := .list [d, .bool (isIntD d), .bool (isStrD d)]
theorem flatD_datP (d : PyData) : flatD (datP d) = true := by cases d <;> rfl
theorem flatD_whole (x : Str) : flatD (wholeD x) = true := flatD_datP _
/-- what _law_frame makes of the words -/
def frameD (ws : List Str) : Dat := if 6 < ws.length ∧ ws.getD 6 Str.empty ≠ Str.ofString "" then .str (ws.getD 6 Str.empty) else .none
theorem frame_1 {ws : List Str} (h : (6 : Int) < ws.length) (h2 : (ws.getD (Int.toNat 6) Str.empty != Str.ofString "") = true) : frameD ws = .str (ws.getD (Int.toNat 6) Str.empty) := by
  unfold frameD
  rw [if_pos ⟨by omega, by simpa using h2⟩]; rfl
theorem frame_2 {ws : List Str} (h2 : (ws.getD (Int.toNat 6) Str.empty != Str.ofString "") = false) : frameD ws = .none := by
  unfold frameD
  rw [if_neg fun q => q.2 (by simpa using h2)]
theorem frame_3 {ws : List Str} (h : ¬ (6 : Int) < ws.length) : frameD ws = .none := by
  unfold frameD
  rw [if_neg fun q => h (by omega)]
/-- one read -/
def readD (ws : List Str) (whole : Bool) (p : Int) : Dat :=
  let x := if p < ws.length then ws.getD p.toNat Str.empty else Str.ofString ""
  if whole then wholeD x else .str x
theorem flatD_read (ws : List Str) (b : Bool) (p : Int) : flatD (readD ws b p) = true := by
  unfold readD
  cases b with
  | true => exact flatD_whole _
  | false => rfl
theorem allLt_mem {d : Addr} : ∀ {l : List (Addr × Obj)}, AllLt d l → ∀ p ∈ l, p.1 < d
  | [], _, _, hp => (nomatch hp)
  | q :: r, h, p, hp => by
    rcases List.mem_cons.mp hp with rfl | hp
    · exact h.1
    · exact allLt_mem h.2 p hp
theorem reads_end {h₀ h : Heap} {L l l' : Addr} {news kTl X : List (Addr × Obj)} {o : Obj} {vs' : List Value} {n' k : Nat} {ws : List Str} {b : Bool} (N : News h₀ L h ((l', listOf vs'.toArray n') :: (l, o) :: (news ++ kTl))) (lt : l < l' ∧ AllLt l' news)
    (D : DatAll X vs' ((rangeKs 0 (0 + (k : Int) - 0).toNat).map (readD ws b))) :
    News h₀ L h ([(l', listOf vs'.toArray n')] ++ (l, o) :: news) ∧ (∀ q ∈ (l, o) :: news, ∀ p ∈ [(l', listOf vs'.toArray n')], p.1 ≠ q.1) ∧ RdIn [(l', listOf vs'.toArray n')] (.ref l') (.list ((rangeKs 0 k).map (readD ws b))) := by
  have e : (0 + (k : Int) - 0).toNat = k := by omega
  rw [e] at D
  refine ⟨fun p hp => N p ?_, fun q hq p hp => Nat.ne_of_gt ?_, .list (.head _) rfl rfl (rd_flatAll D fun d hd => ?_)⟩
  · rcases List.mem_cons.mp hp with rfl | hp
    · exact .head _
    · rcases List.mem_cons.mp hp with rfl | hp
      · exact .tail _ (.head _)
      · exact .tail _ (.tail _ (List.mem_append.mpr (.inl hp)))
  · rw [List.mem_singleton.mp hp]
    rcases List.mem_cons.mp hq with rfl | hq
    · exact lt.1
    · exact allLt_mem lt.2 q hq
  · obtain ⟨p, _, rfl⟩ := List.mem_map.mp hd
    exact flatD_read ws b p
section
variable {ws : List Str} {b : Bool} {pre : List Int} {k : Int}
theorem reads_1 (h1 : k < ws.length) (hb : b = false) : List.map (readD ws b) pre ++ [Dat.str (ws.getD k.toNat Str.empty)] = List.map (readD ws b) (pre ++ [k]) := by
  subst hb; simp only [List.map_append, List.map_cons, List.map_nil, readD, if_pos h1, Bool.false_eq_true, if_false]
theorem reads_2 (h1 : ¬ k < ws.length) (hb : b = false) : List.map (readD ws b) pre ++ [Dat.str (Str.ofString "")] = List.map (readD ws b) (pre ++ [k]) := by
  subst hb; simp only [List.map_append, List.map_cons, List.map_nil, readD, if_neg h1, Bool.false_eq_true, if_false]
theorem reads_3 (h1 : k < ws.length) (hb : b = true) : List.map (readD ws b) pre ++ [wholeD (ws.getD k.toNat Str.empty)] = List.map (readD ws b) (pre ++ [k]) := by
  subst hb; simp only [List.map_append, List.map_cons, List.map_nil, readD, if_pos h1, if_true]
theorem reads_4 (h1 : ¬ k < ws.length) (hb : b = true) : List.map (readD ws b) pre ++ [wholeD (Str.ofString "")] = List.map (readD ws b) (pre ++ [k]) := by
  subst hb; simp only [List.map_append, List.map_cons, List.map_nil, readD, if_neg h1, if_true]
end
end Mine
end

section
open PySem PySem.W PySem.Spec PySem.Calls PyProof.Rows
namespace Mine
section
variable {base X tl tl2 : List (Addr × Obj)} {a : Addr} {o : Obj}
/-- what was made lies apart from what stood -/
abbrev Off (base tl : List (Addr × Obj)) : Prop := ∀ q ∈ base, ∀ p ∈ tl, p.1 ≠ q.1
theorem off_nil : Off base [] := fun _ _ _ h => nomatch h
theorem off_cons (h : ∀ p ∈ X, p.1 < a) (sub : ∀ q ∈ base, q ∈ X) (r : Off base tl) : Off base ((a, o) :: tl) := fun q hq p hp => by
  rcases List.mem_cons.mp hp with rfl | hp
  · exact Nat.ne_of_gt (h q (sub q hq))
  · exact r q hq p hp
theorem off_app (h : Off X tl) (sub : ∀ q ∈ base, q ∈ X) (r : Off base tl2) : Off base (tl ++ tl2) := fun q hq p hp => by
  rcases List.mem_append.mp hp with hp | hp
  · exact h q (sub q hq) p hp
  · exact r q hq p hp
theorem off_app1 (h : Off X tl) (sub : ∀ q ∈ base, q ∈ X) : Off base tl := fun q hq p hp => h q (sub q hq) p hp
end
section
variable {h₀ h : Heap} {L : Addr} {news tl : List (Addr × Obj)} {p : Addr × Obj} {v : Value} {d : Dat}
theorem news_dup (N : News h₀ L h news) (hp : p ∈ news) : News h₀ L h (p :: news) := fun q hq => (List.mem_cons.mp hq).elim (fun e => e ▸ N p hp) fun hq => N q hq
theorem news_undup (N : News h₀ L h (tl ++ p :: news)) : News h₀ L h (tl ++ news) := fun q hq => N q ((List.mem_append.mp hq).elim (fun h => List.mem_append.mpr (.inl h)) fun h => List.mem_append.mpr (.inr (.tail _ h)))
theorem rd_undup (hp : p ∈ news) (r : RdIn (tl ++ p :: news) v d) : RdIn (tl ++ news) v d := r.mono fun q hq => (List.mem_append.mp hq).elim (fun h => List.mem_append.mpr (.inl h)) fun h => (List.mem_cons.mp h).elim (fun e => e ▸ List.mem_append.mpr (.inr hp)) fun h => List.mem_append.mpr (.inr h)
theorem off_undup (r : Off (p :: news) tl) : Off news tl := fun q hq => r q (.tail _ hq)
end
section
variable {prog : Program} {w : World} {A : Around} {E : Value → Shared → Prop} {s : Shared} {h₀ : Heap} {L a b : Addr} {m : Str → Option Value} {news : List (Addr × Obj)} {vs us : List Value} {xs ys : List Str} {ds es : List Dat} {Q : Value → Shared → Prop}
theorem strs_app : ∀ {vs us : List Value} {xs ys : List Str}, StrsAre vs xs → StrsAre us ys → StrsAre (vs ++ us) (xs ++ ys)
  | _, _, _, _, .nil, k => k
  | _, _, _, _, .cons x t h, k => .cons x t (strs_app h k)
theorem add_txt (F : Fr h₀ L s.heap m) (N : News h₀ L s.heap news) (ha : s.heap.IsList a vs.toArray) (hb : s.heap.IsList b us.toArray) (hi : StrsAre vs xs) (hj : StrsAre us ys) (hz : xs.length + ys.length ≤ 100)
    (h : ∀ D h', Fr h₀ L h' m → News h₀ L h' ((D, listOf (vs ++ us).toArray 0) :: news) → (∀ p ∈ news, p.1 < D) → StrsAre (vs ++ us) (xs ++ ys) → Q (.ref D) { s with heap := h' }) :
    wpAny (model prog w) A (binaryOp .Add (.ref a) (.ref b)) Q E s := by
  refine add_lists F N ha hb (fun h' F' N' => h _ h' F' N' (fun p hp => Heap.lt_size (N p hp).1) (strs_app hi hj)) ?_
  rw [hi.length, hj.length, sizeLine_eq]; omega
theorem rd_list (N : News h₀ L s.heap news) (hr : RdIn news (.ref a) (.list ds)) : ∃ vs, s.heap.IsList a (List.toArray vs) ∧ RdAll news vs ds := by
  cases hr with
  | list hm hc hd r => exact ⟨_, ⟨_, (N _ hm).1, hc, _, hd⟩, r⟩
theorem add_rd (F : Fr h₀ L s.heap m) (N : News h₀ L s.heap news) (ha : RdIn news (.ref a) (.list ds)) (hb : RdIn news (.ref b) (.list es)) (hz : ds.length + es.length ≤ 100)
    (h : ∀ D h' o, Fr h₀ L h' m → News h₀ L h' ((D, o) :: news) → (∀ p ∈ news, p.1 < D) → RdIn ((D, o) :: news) (.ref D) (.list (ds ++ es)) → Q (.ref D) { s with heap := h' }) :
    wpAny (model prog w) A (binaryOp .Add (.ref a) (.ref b)) Q E s := by
  obtain ⟨vs, la, ra⟩ := rd_list N ha
  obtain ⟨us, lb, rb⟩ := rd_list N hb
  refine add_lists F N la lb (fun h' F' N' => h _ h' _ F' N' (fun p hp => Heap.lt_size (N p hp).1) (.list (.head _) rfl rfl ((ra.append rb).mono fun _ hp => .tail _ hp))) ?_
  rw [ra.length, rb.length, sizeLine_eq]; omega
end
/-- the mathematics of _law_due -/
def readsD (ws : List Str) (b : Bool) (k : Nat) : List Dat := (rangeKs 0 k).map (readD ws b)
def txtD (s : String) : Dat := .str (Str.ofString s)
def lstD (ws : List Str) : Dat := .list (ws.map Dat.str)
def dueSRF (kind : Str) (ws : List Str) : Dat :=
  if kind == Str.ofString "103" then .list [txtD "SRF103", txtD "SRF", txtD "SRF103", lstD (kind :: ws), .list ((readsD (kind :: ws) false 4).map kindD)]
  else if kind == Str.ofString "100" then .list [txtD "SRF100", txtD "SRF", txtD "SRF100", lstD (kind :: ws), .list ((readsD (kind :: ws) false 6).map kindD)]
  else .list [txtD "SRF", txtD "SRF", .str (Str.ofString "SRF" ++ kind), lstD (kind :: ws), .list []]
def dueSXN (kind : Str) (ws : List Str) : Dat :=
  if kind == Str.ofString "20" then .list [txtD "SXN20", txtD "SXN", txtD "", lstD (Str.ofString "" :: kind :: ws), .list ((readsD (kind :: ws) true 5).map kindD)]
  else if kind == Str.ofString "21" then .list [txtD "SXN21", txtD "SXN", txtD "", lstD (Str.ofString "" :: kind :: ws), .list ((readsD (kind :: ws) true 2).map kindD)]
  else .list [txtD "SXN", txtD "SXN", txtD "", lstD (Str.ofString "" :: kind :: ws), .list []]
def dueNOR (kind : Str) (ws : List Str) : Dat :=
  if kind == Str.ofString "I1" then .list [txtD "NORI1", txtD "NOR", txtD "NORI1", lstD ws, .list ((readsD ws true 4 ++ [frameD ws]).map kindD)]
  else if kind == Str.ofString "WT4" then .list [txtD "NORWT4", txtD "NOR", txtD "NORWT4", lstD ws, .list []]
  else .list [txtD "NOR", txtD "NOR", .str (Str.ofString "NOR" ++ kind), lstD ws, .list []]
def dueXYZ (kind : Str) (ws : List Str) : Dat := .list [txtD "plain", txtD "XYZ", txtD "", lstD (kind :: ws), .list []]
def dueD (maker kind : Str) (ws : List Str) : Dat :=
  if maker == Str.ofString "SRF" then dueSRF kind ws else if maker == Str.ofString "SXN" then dueSXN kind ws else if maker == Str.ofString "NOR" then dueNOR kind ws else dueXYZ kind ws
theorem kinds_datP (x : Str) : kindsD (wholeD x) = true := by
  unfold wholeD wholeP wholeTab
  simp only [PySem.Spec.lookup]
  repeat' split
  all_goals first | rfl | (simp only [Option.getD_some, Option.getD_none]; rfl)
theorem kinds_read (ws : List Str) (b : Bool) (p : Int) : kindsD (readD ws b p) = true := by
  unfold readD
  cases b with
  | true => exact kinds_datP _
  | false => rfl
theorem kinds_reads (ws : List Str) (b : Bool) (k : Nat) : ∀ d ∈ readsD ws b k, kindsD d = true := by
  intro d hd
  obtain ⟨p, _, rfl⟩ := List.mem_map.mp hd
  exact kinds_read ws b p
theorem kinds_frame (ws : List Str) : kindsD (frameD ws) = true := by
  unfold frameD
  split <;> rfl
theorem readsD_length (ws : List Str) (b : Bool) (k : Nat) : (readsD ws b k).length = k := by
  unfold readsD
  rw [List.length_map, rangeKs_length]
/-- a ledger that has grown over another, apart from it -/
def Ext (base led : List (Addr × Obj)) : Prop := ∃ tl, led = tl ++ base ∧ Off base tl
section
variable {base X tl : List (Addr × Obj)} {a : Addr} {o : Obj}
theorem ext_nil : Ext base base := ⟨[], rfl, off_nil⟩
theorem ext_cons (hl : ∀ p ∈ X, p.1 < a) (h : Ext base X) : Ext base ((a, o) :: X) := by
  obtain ⟨tl, rfl, off⟩ := h
  exact ⟨(a, o) :: tl, rfl, off_cons hl (fun q hq => List.mem_append.mpr (.inr hq)) off⟩
theorem ext_app (hl : Off X tl) (h : Ext base X) : Ext base (tl ++ X) := by
  obtain ⟨tl2, rfl, off⟩ := h
  exact ⟨tl ++ tl2, (List.append_assoc ..).symm, off_app hl (fun q hq => List.mem_append.mpr (.inr hq)) off⟩
theorem Ext.sub (h : Ext base X) : ∀ q ∈ base, q ∈ X := by
  obtain ⟨tl, rfl, _⟩ := h
  exact fun q hq => List.mem_append.mpr (.inr hq)
end
theorem ret_ext {h₀ : Heap} {L : Addr} {m : Str → Option Value} {base led : List (Addr × Obj)} {s : Shared} {Q : Value → Shared → Prop} {d d' : Dat} {r : Value} {h' : Heap} {tk' : Nat} (ret : RetD h₀ L m base s Q d) (F : Fr h₀ L h' m) (N : News h₀ L h' led) (x : Ext base led) (rd : RdIn led r d') (e : d = d') : Q r { s with heap := h', toks := tk' } := by
  obtain ⟨tl, rfl, off⟩ := x
  exact ret _ _ _ _ F N off (e ▸ rd)
/-- a ledger that has grown, with its part over another base -/
def ExtK (base K led ledK : List (Addr × Obj)) : Prop := ∃ tl, led = tl ++ base ∧ ledK = tl ++ K ∧ Off base tl
section
variable {base K X XK tl : List (Addr × Obj)} {a : Addr} {o : Obj}
theorem extk_nil : ExtK base K base K := ⟨[], rfl, rfl, off_nil⟩
theorem extk_cons (hl : ∀ p ∈ X, p.1 < a) (h : ExtK base K X XK) : ExtK base K ((a, o) :: X) ((a, o) :: XK) := by
  obtain ⟨tl, rfl, rfl, off⟩ := h
  exact ⟨(a, o) :: tl, rfl, rfl, off_cons hl (fun q hq => List.mem_append.mpr (.inr hq)) off⟩
theorem extk_app (hl : Off X tl) (h : ExtK base K X XK) : ExtK base K (tl ++ X) (tl ++ XK) := by
  obtain ⟨tl2, rfl, rfl, off⟩ := h
  exact ⟨tl ++ tl2, (List.append_assoc ..).symm, (List.append_assoc ..).symm, off_app hl (fun q hq => List.mem_append.mpr (.inr hq)) off⟩
end
theorem ret_extK {h₀ : Heap} {L : Addr} {m : Str → Option Value} {base K led ledK : List (Addr × Obj)} {s : Shared} {Q : Value → Shared → Prop} {d d' : Dat} {r : Value} {h' : Heap} {tk' : Nat} (ret : RetK h₀ L m base K s Q d) (F : Fr h₀ L h' m) (N : News h₀ L h' led) (x : ExtK base K led ledK) (rd : RdIn ledK r d') (e : d = d') : Q r { s with heap := h', toks := tk' } := by
  obtain ⟨tl, rfl, rfl, off⟩ := x
  exact ret _ _ _ _ F N off (e ▸ rd)
theorem rd_ref {news : List (Addr × Obj)} {r : Value} {ds : List Dat} (h : RdIn news r (.list ds)) : ∃ a, r = .ref a := by
  cases h with
  | list => exact ⟨_, rfl⟩
theorem rd_listOf {news : List (Addr × Obj)} {l : Addr} {vs : List Value} {n : Nat} {ds : List Dat} (hm : (l, listOf vs.toArray n) ∈ news) (h : RdAll news vs ds) : RdIn news (.ref l) (.list ds) := .list hm rfl rfl h
theorem rd_txt {news : List (Addr × Obj)} {l : Addr} {vs : List Value} {n : Nat} {ws : List Str} (hm : (l, listOf vs.toArray n) ∈ news) (h : StrsAre vs ws) : RdIn news (.ref l) (lstD ws) := .list hm rfl rfl (strs_rd h)
theorem kinds_readsF (ws xs : List Str) (b : Bool) (k : Nat) : ∀ d ∈ readsD ws b k ++ [frameD xs], kindsD d = true := by
  intro d hd
  rcases List.mem_append.mp hd with hd | hd
  · exact kinds_reads ws b k d hd
  · rw [List.mem_singleton.mp hd]; exact kinds_frame xs
section
variable {mk kd : Str} {ws : List Str}
theorem due_1 (h : (mk == Str.ofString "SRF") = true) (k : (kd == Str.ofString "103") = true) : dueD mk kd ws = .list [txtD "SRF103", txtD "SRF", txtD "SRF103", lstD (kd :: ws), .list ((readsD (kd :: ws) false 4).map kindD)] := by
  unfold dueD dueSRF; rw [if_pos h, if_pos k]
theorem due_2 (h : (mk == Str.ofString "SRF") = true) (k : (kd == Str.ofString "103") = false) (k2 : (kd == Str.ofString "100") = true) : dueD mk kd ws = .list [txtD "SRF100", txtD "SRF", txtD "SRF100", lstD (kd :: ws), .list ((readsD (kd :: ws) false 6).map kindD)] := by
  unfold dueD dueSRF; rw [if_pos h, if_neg (by rw [k]; exact Bool.false_ne_true), if_pos k2]
theorem due_3 (h : (mk == Str.ofString "SRF") = true) (k : (kd == Str.ofString "103") = false) (k2 : (kd == Str.ofString "100") = false) : dueD mk kd ws = .list [txtD "SRF", txtD "SRF", .str (Str.ofString "SRF" ++ kd), lstD (kd :: ws), .list []] := by
  unfold dueD dueSRF; rw [if_pos h, if_neg (by rw [k]; exact Bool.false_ne_true), if_neg (by rw [k2]; exact Bool.false_ne_true)]
theorem due_4 (h : (mk == Str.ofString "SRF") = false) (h2 : (mk == Str.ofString "SXN") = true) (k : (kd == Str.ofString "20") = true) : dueD mk kd ws = .list [txtD "SXN20", txtD "SXN", txtD "", lstD (Str.ofString "" :: kd :: ws), .list ((readsD (kd :: ws) true 5).map kindD)] := by
  unfold dueD dueSXN; rw [if_neg (by rw [h]; exact Bool.false_ne_true), if_pos h2, if_pos k]
theorem due_5 (h : (mk == Str.ofString "SRF") = false) (h2 : (mk == Str.ofString "SXN") = true) (k : (kd == Str.ofString "20") = false) (k2 : (kd == Str.ofString "21") = true) : dueD mk kd ws = .list [txtD "SXN21", txtD "SXN", txtD "", lstD (Str.ofString "" :: kd :: ws), .list ((readsD (kd :: ws) true 2).map kindD)] := by
  unfold dueD dueSXN; rw [if_neg (by rw [h]; exact Bool.false_ne_true), if_pos h2, if_neg (by rw [k]; exact Bool.false_ne_true), if_pos k2]
theorem due_6 (h : (mk == Str.ofString "SRF") = false) (h2 : (mk == Str.ofString "SXN") = true) (k : (kd == Str.ofString "20") = false) (k2 : (kd == Str.ofString "21") = false) : dueD mk kd ws = .list [txtD "SXN", txtD "SXN", txtD "", lstD (Str.ofString "" :: kd :: ws), .list []] := by
  unfold dueD dueSXN; rw [if_neg (by rw [h]; exact Bool.false_ne_true), if_pos h2, if_neg (by rw [k]; exact Bool.false_ne_true), if_neg (by rw [k2]; exact Bool.false_ne_true)]
theorem due_7 (h : (mk == Str.ofString "SRF") = false) (h2 : (mk == Str.ofString "SXN") = false) (h3 : (mk == Str.ofString "NOR") = true) (k : (kd == Str.ofString "I1") = true) : dueD mk kd ws = .list [txtD "NORI1", txtD "NOR", txtD "NORI1", lstD ws, .list ((readsD ws true 4 ++ [frameD ws]).map kindD)] := by
  unfold dueD dueNOR; rw [if_neg (by rw [h]; exact Bool.false_ne_true), if_neg (by rw [h2]; exact Bool.false_ne_true), if_pos h3, if_pos k]
theorem due_8 (h : (mk == Str.ofString "SRF") = false) (h2 : (mk == Str.ofString "SXN") = false) (h3 : (mk == Str.ofString "NOR") = true) (k : (kd == Str.ofString "I1") = false) (k2 : (kd == Str.ofString "WT4") = true) : dueD mk kd ws = .list [txtD "NORWT4", txtD "NOR", txtD "NORWT4", lstD ws, .list []] := by
  unfold dueD dueNOR; rw [if_neg (by rw [h]; exact Bool.false_ne_true), if_neg (by rw [h2]; exact Bool.false_ne_true), if_pos h3, if_neg (by rw [k]; exact Bool.false_ne_true), if_pos k2]
theorem due_9 (h : (mk == Str.ofString "SRF") = false) (h2 : (mk == Str.ofString "SXN") = false) (h3 : (mk == Str.ofString "NOR") = true) (k : (kd == Str.ofString "I1") = false) (k2 : (kd == Str.ofString "WT4") = false) : dueD mk kd ws = .list [txtD "NOR", txtD "NOR", .str (Str.ofString "NOR" ++ kd), lstD ws, .list []] := by
  unfold dueD dueNOR; rw [if_neg (by rw [h]; exact Bool.false_ne_true), if_neg (by rw [h2]; exact Bool.false_ne_true), if_pos h3, if_neg (by rw [k]; exact Bool.false_ne_true), if_neg (by rw [k2]; exact Bool.false_ne_true)]
theorem due_10 (h : (mk == Str.ofString "SRF") = false) (h2 : (mk == Str.ofString "SXN") = false) (h3 : (mk == Str.ofString "NOR") = false) : dueD mk kd ws = .list [txtD "plain", txtD "XYZ", txtD "", lstD (kd :: ws), .list []] := by
  unfold dueD dueXYZ; rw [if_neg (by rw [h]; exact Bool.false_ne_true), if_neg (by rw [h2]; exact Bool.false_ne_true), if_neg (by rw [h3]; exact Bool.false_ne_true)]
end
end Mine
end

section
open PySem PySem.W PySem.Spec PySem.Calls PyProof.Rows
namespace Mine
theorem code_defX {prog : Program} {w : World} {A A₀ : Around} {s : Shared} {K : Frag} {L : Addr} {h₀ base : Heap} {m mg mb : Str → Option Value} {news : List (Addr × Obj)} {p : Program} {loose : List Str} {mean : ExcName → Option Value}
    {env : Env} {outer : List Env} {R : Result → Shared → Prop} {name qual : Str} {params : Arguments} {body : List Stmt} {scope : Scope} {cl : List (Str × Addr)} {dV kV doc pm cdv ct oc : Value} {an od : Option Addr} {osl : Array (Option Value)} {f : Addr} {args : Args} {binds : List (Str × Value)}
    (B : Below A₀ base outer h₀) (F : Fr h₀ L s.heap m) (X₀ : K.In h₀) (N : News h₀ L s.heap news) (T : Top p loose mean mg mb h₀) (hA : A.frames = some (env :: outer)) (hf : env.frame = some L) (hke : env.scope.kind = .function)
    (ho : K.lookup f = some ⟨oc, od, .func (fnX name qual params body scope cl dV kV doc pm an cdv ct), osl⟩) (hcd : codeIn K cdv qual = true) (hroom : A.depth < recursionLimit)
    (hbind : BindsTo s (fnX name qual params body scope cl dV kV doc pm an cdv ct) args binds) (hloc : ∀ y ∈ binds, scope.names.lookup y.1 = some .local)
    (h : ∀ g L' h₁, Fr h₀ L g m → Fr g L' h₁ (fun y => binds.reverse.lookup y) → News g L' h₁ news → Below A base (env :: outer) g → K.In g → Top p loose mean mg mb g →
      wpAny (model prog w) (A.deeper (envX qual scope L' f cdv cl)) (execs body (envX qual scope L' f cdv cl))
        (fun fl s' => LeaveK h₀ L m g R (match fl with | .ret v => v | _ => .none) s')
        (fun e s' => wpAny (model prog w) (A.deeper (envX qual scope L' f cdv cl)) (leaving (envX qual scope L' f cdv cl) e) (fun _ s'' => R (.error e) s'') (fun e' s'' => R (.error e') s'') s')
        { s with heap := h₁, toks := s.toks + binds.length })
    (hco : scope.isCoroutine = false) (hgen : scope.isGenerator = false) (hk : scope.kind = .function)
    (hcell : ∀ x ∈ scope.names, x.2 ≠ .cell) : codeAny (model prog w) A (.call (.ref f) args) R s :=
  callX_plain B F N T.nolimit hA hf hke ((X₀.keeps F.keep) _ _ ho) rfl (codeRec_of (X₀.keeps F.keep) hcd) hroom hbind hloc (fun g L' h₁ FG F' N' B' st _ => h g L' h₁ FG F' N' B' (X₀.keeps st) (T.keeps st)) hcell hco hgen hk
end Mine
end

section
open PySem PySem.W PySem.Spec PySem.Calls PyProof.Rows Builtin
namespace Mine
/-- cases of a key over written pairs -/
def GetAll (k : Str) (R : Value → Prop) (d : Value) : List (Str × Value) → Prop
  | [] => R d
  | (a, v) :: r => ((k == a) = true → R v) ∧ ((k == a) = false → GetAll k R d r)
theorem getAll_use {k : Str} {R : Value → Prop} {d : Value} : ∀ {kvs : List (Str × Value)}, GetAll k R d kvs → R ((valueAt kvs k).getD d)
  | [], h => h
  | (a, v) :: r, h => by
    cases q : (k == a) with
    | true =>
      have e : a = k := (beq_iff_eq.mp q).symm
      unfold valueAt
      rw [List.find?_cons_of_pos (by simpa using e)]
      exact h.1 q
    | false =>
      have e : ¬ a = k := fun z => by rw [z, beq_self_eq_true] at q; cases q
      have z := getAll_use (h.2 q)
      unfold valueAt at z ⊢
      rw [List.find?_cons_of_neg (by simpa using e)]
      exact z
section
variable {prog : Program} {w : World} {A : Around} {E : Value → Shared → Prop} {h : Heap} {g : Array GenState} {d : Drawn} {t : Nat} {os : OsState}
theorem sc_call_super {D C : Addr} {oD oC : Obj} {cdD cdC : ClassData} {Q : Value → Shared → Prop}
    (hD : h.get? D = some oD) (hDt : oD.data = .cls cdD) (hC : h.get? C = some oC) (hCt : oC.data = .cls cdC)
    (hsub : Looks (model prog w) h (isSubtype (.ref C) (.ref D)) true)
    (hq : ∀ h', h'.get? h.objs.size = some (ks_superObj D C C) → (∀ y o, h.get? y = some o → h'.get? y = some o) → Q (.ref h.objs.size) ⟨h', g, d, t, os⟩) :
    wpAny (model prog w) A (call (.type "super") [.ref D, .ref C]) Q E ⟨h, g, d, t, os⟩ := by
  refine ks_callType_codesW (Q₁ := fun obj s₁ => obj = .ref h.objs.size ∧ s₁ = ⟨h.push { cls := .type "super", data := .fields #[.none, .none, .none] }, g, d, t, os⟩) F.ks_called_super (ks_wpAny_checkTypeCall_super hD hDt) F.ks_entry_super_init
    (ks_code_super_new _ _ ⟨rfl, rfl⟩) fun obj s₁ h₁ => ?_
  obtain ⟨rfl, rfl⟩ := h₁
  have up : ∀ y o, h.get? y = some o → (h.push { cls := .type "super", data := .fields #[.none, .none, .none] }).get? y = some o := fun y o e => Heap.get?_push_of_some _ e
  have hso : (h.push { cls := .type "super", data := .fields #[.none, .none, .none] }).get? h.objs.size = some { cls := .type "super", dict := none, data := .fields #[.none, .none, .none], slots := #[] } := Heap.get?_push_at rfl rfl
  have hD' := up _ _ hD
  have hC' := up _ _ hC
  have hsub' := hsub.keeps up
  refine ⟨⟨_, hso, rfl⟩, F.ks_initArgs_super _ _ _, ?_⟩
  unfold Builtin.«super.__init__» noKeywords
  repeat (first | (with_reducible refine ks_wpAny_isType_cls hD' hDt ?_) | (with_reducible refine ks_wpAny_isType_cls hC' hCt ?_) | (with_reducible refine Looks.at hsub' ?_) | (with_reducible refine ks_wpAny_super_set3 hso ?_) | wp_step)
  all_goals first
    | (intro h' e k; exact ⟨rfl, hq h' e fun y o ey => k y o (Nat.ne_of_lt (Heap.lt_size ey)) (up y o ey)⟩)
    | (refine ks_wpAny_super_set3 hso ?_; intro h' e k; exact ⟨rfl, hq h' e fun y o ey => k y o (Nat.ne_of_lt (Heap.lt_size ey)) (up y o ey)⟩)
theorem sc_super_ga {so D C : Addr} {l₀ l : List Value} {K : Frag} {name : Str} {b : String} {T : Value} {tk : Tok} {Q : Fin → Shared → Prop}
    (hso : h.get? so = some (ks_superObj D C C)) (hno : Looks (model prog w) h (opaqueClassAbove (.ref C)) none)
    (hC : Looks (model prog w) h (mroOf (.ref C)) l₀) (hl : (l₀.dropWhile (· != .ref D)).drop 1 = l) (X : K.In h)
    (hf : alongIn K name l = some (some (.builtin b))) (hT : typeIn K (.builtin b) = some T) (hg : findIn K T "__get__" = some none) (hh : handedIn (.builtin b) = true) (hn : (name == ("__class__" : Str)) = false)
    (hq : Q (.done (.ret (.builtin b))) ⟨h, g, d, t, os⟩) :
    wpAny (model prog w) A (Builtin.«super.__getattribute__» ⟨[.ref so, .str name tk], []⟩) Q E ⟨h, g, d, t, os⟩ := by
  have L1 := looks_typeIn (M := model prog w) X hT
  have L2 := looks_findIn (M := model prog w) X hg
  have hdt : (ks_superObj D C C).data = .fields #[.ref D, .ref C, .ref C] := rfl
  have f0 : (#[.ref D, .ref C, .ref C] : Array Value)[0]? = some (.ref D) := rfl
  have f1 : (#[.ref D, .ref C, .ref C] : Array Value)[1]? = some (.ref C) := rfl
  have f2 : (#[.ref D, .ref C, .ref C] : Array Value)[2]? = some (.ref C) := rfl
  unfold Builtin.«super.__getattribute__»
  repeat (first
    | (with_reducible refine wpAny_field hso hdt f0 ?_) | (with_reducible refine wpAny_field hso hdt f1 ?_) | (with_reducible refine wpAny_field hso hdt f2 ?_)
    | (with_reducible refine ks_wpAny_notOpaque hno ?_)
    | (with_reducible refine Looks.at hC ?_; rw [hl])
    | (refine ks_forIn_along X (fun _ _ => rfl) rfl ?_ hf)
    | (with_reducible refine Looks.at L1 ?_)
    | (with_reducible refine Looks.at L2 ?_)
    | (with_reducible refine handed_on hh ?_)
    | (simp only [hn, Bool.or_false, Bool.false_eq_true, if_false])
    | wp_step
    | dsimp only)
  all_goals exact hq
theorem sc_getMethod {so D C : Addr} {l₀ l : List Value} {K : Frag} {name : Str} {b : String} {T : Value} {pl : Sem Bool} {Q : Value × List Value → Shared → Prop}
    (hso : h.get? so = some (ks_superObj D C C)) (hno : Looks (model prog w) h (opaqueClassAbove (.ref C)) none)
    (hC : Looks (model prog w) h (mroOf (.ref C)) l₀) (hl : (l₀.dropWhile (· != .ref D)).drop 1 = l) (X : K.In h)
    (hf : alongIn K name l = some (some (.builtin b))) (hT : typeIn K (.builtin b) = some T) (hg : findIn K T "__get__" = some none) (hh : handedIn (.builtin b) = true) (hn : (name == ("__class__" : Str)) = false)
    (hq : Q (.builtin b, []) ⟨h, g, d, t + 1, os⟩) :
    wpAny (model prog w) A (getMethod (.ref so) name pl) Q E ⟨h, g, d, t, os⟩ := by
  have hlk := F.ks_slot_super_ga.lookup
  have hcan := F.ks_canon_super_ga
  have hTy : ∀ t', (⟨h, g, d, t', os⟩ : Shared).TypeIs (.ref so) "super" := fun _ => ⟨_, hso, rfl⟩
  unfold getMethod
  refine wpAny_bind (wpAny_specialOf (hTy _) hlk ?_)
  show wpAny _ _ (if (Manifest.canonical "super.__getattribute__" != "object.__getattribute__") = true then _ else _) _ _ _
  rw [if_pos hcan]
  unfold getAttr getAttrBy
  refine wpAny_bind (wpAny_bind (wpAny_mkText (wpAny_holding (wpAny_bind (wpAny_typeOf (hTy _) (wpAny_bind (wpAny_of_eq hlk ?_)))))))
  show wpAny _ _ (getAttrByItsOwn (.ref so) (.str name t) (.type "super") (.builtin "super.__getattribute__") true false) _ _ _
  unfold getAttrByItsOwn hookBefore callGetattribute boundAndCalled
  refine wpAny_bind (wpAny_of_eq (show (if onTheHeap (.type "super") then typeLookup (.type "super") "__getattr__" else pure none) = pure none from rfl) ?_)
  refine wpAny_bind (wpAny_attempt (wpAny_holding ?_))
  show wpAny _ _ (bindSpecial (.builtin "super.__getattribute__") (.ref so) >>= _) _ _ _
  refine wpAny_bind (wpAny_of_eq (F.ks_slot_super_ga.bind _) ?_)
  refine wpAny_mono (Q := fun v s' => v = .builtin b ∧ s' = ⟨h, g, d, t + 1, os⟩) (E := fun _ _ => False)
    (wpAny_call_entry F.ks_slot_super_ga (hTy _) F.ks_entry_super_ga (sc_super_ga hso hno hC hl X hf hT hg hh hn ⟨_, rfl, rfl, rfl⟩) (F.ks_gaArgs_super _ _)) (fun v s' hv => ?_) fun _ _ z => z.elim
  obtain ⟨rfl, rfl⟩ := hv
  exact handed_on hh (wpAny_pure hq)
set_option maxRecDepth 100000 in
theorem sc_new {C B : Addr} {oc : Value} {od : Option Addr} {cd : ClassData} {sl : Array (Option Value)} {R : Result → Shared → Prop} (hC : h.get? C = some ⟨oc, od, .cls cd, sl⟩) (e1 : cd.abstract = false) (e2 : cd.hasDel = false)
    (self : Looks (model prog w) h (isSubtype (.ref C) (.ref C)) true) (sup : Looks (model prog w) h (isSubtype (.ref C) (.ref B)) true) (top : Looks (model prog w) h (isSubtype (.ref C) (.type "object")) true) (base : Looks (model prog w) h (Bind.staticBase (.ref C)) (.ref B)) (made : Looks (model prog w) h (Bind.madeBy (.ref B)) (some "object.__new__")) (hq : R (.ok (.ret (.ref (h.objs.size + 1)))) ⟨(h.push emptyDict).push (instObj C h.objs.size), g, d, t, os⟩) :
    codeAny (model prog w) A (.call (.builtin "object.__new__") ⟨[.ref C], []⟩) R ⟨h, g, d, t, os⟩ := by
  have F := PySem.F.objNew
  refine codeAny_call_builtin_code (Code.quiet_builtin _ F.quiet) ?_
  simp only [checkBuiltinCall, F.kind, F.split, F.row]
  have here : Looks (model prog w) h (Bind.madeHere "object.__new__" (.ref C)) () := base.andThen (made.andThen (Looks.of_pure (by simp only [Option.map_some, bne_self_eq_false, Bool.false_eq_true, if_false])))
  have args : Bind.checkArgs "object.__new__" ⟨.hand, "object.__new__", "__new__", .cls, []⟩ ⟨[.ref C], []⟩ = pure () := by kernel_rfl
  rw [args]
  repeat (first | simp only [bne_self_eq_false, Bool.false_eq_true, if_false] | lk)
  refine codeAny_builtin F.entry ?_
  unfold Builtin.«object.__new__»
  have fin : ∀ A', wpAny (model prog w) A' (do
      let d ← if typeHasDict (.ref C) then some <$> alloc { cls := .type "dict", data := .dict #[] } else pure none
      ret (← newObj (.ref C) .plain d)) (fun fin s' => match fin with | .done f => R (.ok f) s' | .again c' => c'.quiet = true ∧ codeAny (model prog w) A c' R s') (fun e s' => R (.error e) s') ⟨h, g, d, t, os⟩ := by
    intro A'
    show wpAny _ _ ((alloc emptyDict >>= fun x => pure (some x)) >>= _) _ _ _
    refine wpAny_bind (wpAny_bind (wpAny_alloc (wpAny_pure (wpAny_bind ?_))))
    show wpAny _ _ (newObjAsIs _ _ _) _ _ _
    unfold newObjAsIs classHasDel
    refine wpAny_bind (wpAny_alloc (wpAny_bind (wpAny_bind (wpAny_load (Heap.get?_push_of_some _ (Heap.get?_push_of_some _ hC)) (wpAny_pure ?_)))))
    rw [e2]
    refine wpAny_pure (wpAny_pure ?_)
    show R _ _
    rw [Heap.size_push]
    exact hq
  repeat (first | simp only [e1, Bool.false_eq_true, if_false] | exact fin _ | lk)
end
end Mine
end

section
open PySem PySem.W PySem.Spec PySem.Calls PyProof.Rows Builtin
namespace Mine
section
variable {prog : Program} {w : World} {A : Around} {E : Value → Shared → Prop} {h : Heap} {g : Array GenState} {d : Drawn} {t : Nat} {os : OsState}
set_option maxRecDepth 100000 in
theorem make_own {C f : Addr} {oc : Value} {od : Option Addr} {cd : ClassData} {sl : Array (Option Value)} {rest : List Value} {R : Result → Shared → Prop} (hC : h.get? C = some ⟨oc, od, .cls cd, sl⟩) (e4 : cd.mro.isEmpty = false)
    (call : Looks (model prog w) h (specialOf (.ref C) "__call__") (some (.builtin "type.__call__"))) (typ : Looks (model prog w) h (isInstance (.ref C) (.type "type")) true) (made : Looks (model prog w) h (Bind.madeBy (.ref C)) none)
    (hga : ∀ (A' : Around) (Q' : Value → Shared → Prop) (E' : Value → Shared → Prop), Q' (.ref f) ⟨h, g, d, t + 1, os⟩ → wpAny (model prog w) A' (getAttr (.ref C) "__new__") Q' E' ⟨h, g, d, t, os⟩)
    (hnew : wpAny (model prog w) (A.under (.builtin "type.__call__" ⟨.ref C :: rest, []⟩)) (PySem.call (.ref f) (.ref C :: rest))
      (fun v s' => ∃ x C' fI, v = .ref x ∧ Looks (model prog w) s'.heap (typeOf (.ref x)) (.ref C') ∧ Looks (model prog w) s'.heap (isSubtype (.ref C') (.ref C)) true ∧ Looks (model prog w) s'.heap (typeLookup (.ref C') "__init__") (some (.ref fI)) ∧
        (∀ self, Looks (model prog w) s'.heap (bindSpecial (.ref fI) self) (.ref fI, [self])) ∧
        wpAny (model prog w) (A.under (.builtin "type.__call__" ⟨.ref C :: rest, []⟩)) (PySem.call (.ref fI) (.ref x :: rest)) (fun r s'' => r = .none ∧ R (.ok (.ret (.ref x))) s'') (fun e s'' => R (.error e) s'') s')
      (fun e s' => R (.error e) s') ⟨h, g, d, t + 1, os⟩) :
    codeAny (model prog w) A (.call (.ref C) ⟨rest, []⟩) R ⟨h, g, d, t, os⟩ := by
  refine codeAny_of_tree ?_
  show wpAny _ _ (callAny (.ref C) _) _ _ _
  refine nd_load hC ?_
  show wpAny _ _ (callAny.viaDunder (.ref C) _) _ _ _
  unfold callAny.viaDunder
  refine wpAny_bind (call.at ?_)
  dsimp only
  rw [tc_bind]
  refine wpAny_bind (wpAny_pure (wpAny_bind (wpAny_pure ?_)))
  refine wpAny_pure (a := Fin.again (.call (.builtin "type.__call__") ⟨.ref C :: rest, []⟩)) (And.intro rfl ?_)
  refine codeAny_call_builtin_at (Code.quiet_builtin _ (by decide +kernel)) entry_typeCall (check_slot tc_kind tc_split typ (tc_args _ _ _) ?_)
  unfold Builtin.«type.__call__»
  have hm : Looks (model prog w) h (mroOf (.ref C)) cd.mro := ((Looks.ld (part := none) hC).andThen .now).andThen .now
  repeat (first | simp only [e4, Bool.false_eq_true, if_false] | with_reducible refine hga _ _ _ ?_ | with_reducible refine wpAny_mono hnew ?_ (fun e s' z => z) | lk)
  intro v s' hv
  obtain ⟨x, C', fI, rfl, t1, s1, i1, b1, hi⟩ := hv
  have b2 := b1 (.ref x)
  obtain ⟨h1, g1, d1, k1, os1⟩ := s'
  have hi' : wpAny (model prog w) (A.under (.builtin "type.__call__" ⟨.ref C :: rest, []⟩)) (PySem.call (.ref fI) ([.ref x] ++ rest)) (fun r s'' => r = .none ∧ R (.ok (.ret (.ref x))) s'') (fun e s'' => R (.error e) s'') ⟨h1, g1, d1, k1, os1⟩ := hi
  unfold isInstance callSpecial? specialOf
  repeat (first | with_reducible refine wpAny_mono hi' ?_ (fun e s'' z => z) | lk)
  intro r s'' z
  obtain ⟨rfl, z⟩ := z
  exact wpAny_pure (wpAny_pure z)
end

abbrev mkA (A : Around) (C : Addr) (rest : List Value) : Around := A.under (.builtin "type.__call__" ⟨.ref C :: rest, []⟩)
theorem mk_units (A : Around) (C : Addr) (rest : List Value) : (mkA A C rest).units = A.units + 1 := rfl
def clsOk (K : Frag) (C : Addr) : Bool := match K.lookup C with
  | some ⟨_, _, .cls cd, _⟩ => !cd.abstract && !cd.hasDel && !cd.mro.isEmpty
  | _ => false
theorem clsOk_of {K : Frag} {h : Heap} (X : K.In h) {C : Addr} (e : clsOk K C = true) : ∃ oc od cd sl, h.get? C = some ⟨oc, od, .cls cd, sl⟩ ∧ cd.abstract = false ∧ cd.hasDel = false ∧ cd.mro.isEmpty = false := by
  unfold clsOk at e
  split at e
  · rename_i oc od cd sl ho
    simp only [Bool.and_eq_true, Bool.not_eq_true'] at e
    exact ⟨oc, od, cd, sl, X _ _ ho, e.1.1, e.1.2, e.2⟩
  · cases e
section
variable {prog : Program} {w : World} {A : Around} {E : Value → Shared → Prop} {s : Shared} {K : Frag} {h₀ : Heap} {L C D : Addr} {m : Str → Option Value} {news : List (Addr × Obj)}
/-- what a call of __new__ has to give for the call of the class -/
structure MadeNew (prog : Program) (w : World) (A : Around) (K : Frag) (C : Addr) (rest : List Value) (Q E : Value → Shared → Prop) (v : Value) (s' : Shared) : Prop where
  fact : ∃ x C' fI ox od', v = .ref x ∧ K.In s'.heap ∧ InstAt s'.heap x ox C' od' ∧ mroIn K C' (.ref C) = some true ∧ findIn K (.ref C') "__init__" = some (some (.ref fI)) ∧ typeIn K (.ref fI) = some (.type "function") ∧
    wpAny (model prog w) (mkA A C rest) (call (.ref fI) (.ref x :: rest)) (fun r s'' => r = .none ∧ Q (.ref x) s'') E s'
theorem k_own {p f : Addr} {rest fr : List Value} {mc : Value} {Q : Value → Shared → Prop} (F : Fr h₀ L s.heap m) (X₀ : K.In h₀) (hC : clsOk K C = true) (hcall : specialIn K (.ref C) "__call__" = some (some (.builtin "type.__call__"))) (htyp : instIn K (.ref C) (.type "type") = some true)
    (hmade : peek K ⟨prog, w.params⟩ (Bind.madeBy (.ref C)) = some none) (hm : typeIn K (.ref C) = some mc) (hr : readsIn K C mc = true)
    (e : findCls K (.ref C) mc "__new__" = some (.get (.builtin "staticmethod.__get__") (.ref p) .none (.ref C))) (hp : recIn K p "staticmethod" = some (.ref f :: fr)) (hv : handedIn (.ref f) = true)
    (h : wpAny (model prog w) (mkA A C rest) (call (.ref f) (.ref C :: rest)) (MadeNew prog w A K C rest Q E) E { s with toks := s.toks + 1 }) :
    wpAny (model prog w) A (call (.ref C) rest) Q E s := by
  have X : K.In s.heap := X₀.keeps F.keep
  obtain ⟨oc, od, cd, sl, hg, _, _, e4⟩ := clsOk_of X hC
  obtain ⟨hh, g, d, t, os⟩ := s
  refine wpAny_call (make_own (f := f) hg e4 (looks_specialIn X hcall) (looks_instIn X htyp) (Looks.of_peek X hmade) (fun A' Q' E' q => cls_sm (s := ⟨hh, g, d, t, os⟩) F X₀ hm hr e hp hv q) ?_)
  refine wpAny_mono h (fun v s' z => ?_) (fun _ _ z => z)
  obtain ⟨x, C', fI, ox, od', rfl, X', I, hs, hi, hf, k⟩ := z.fact
  exact ⟨x, C', fI, rfl, I.type, looks_mroIn X' hs, looks_findIn X' hi, fun self => bind_fn X' self hf, k⟩
theorem k_super {Q : Value → Shared → Prop} {cdD cdC : ClassData} (F : Fr h₀ L s.heap m) (X₀ : K.In h₀) (N : News h₀ L s.heap news) (hD : clsIn K D = some cdD) (hC : clsIn K C = some cdC) (hsub : mroIn K C (.ref D) = some true)
    (h : ∀ so h', Fr h₀ L h' m → News h₀ L h' ((so, ks_superObj D C C) :: news) → (∀ p ∈ news, p.1 < so) → Q (.ref so) { s with heap := h' }) :
    wpAny (model prog w) A (call (.type "super") [.ref D, .ref C]) Q E s := by
  have X : K.In s.heap := X₀.keeps F.keep
  obtain ⟨hh, g, d, t, os⟩ := s
  have at_ : ∀ {B : Addr} {cd : ClassData}, clsIn K B = some cd → ∃ oB, hh.get? B = some oB ∧ oB.data = .cls cd := by
    intro B cd q
    unfold clsIn at q
    split at q
    · rename_i c d cd' sl ho
      cases q
      exact ⟨_, X _ _ ho, rfl⟩
    · cases q
  obtain ⟨oD, hD1, hD2⟩ := at_ hD
  obtain ⟨oC, hC1, hC2⟩ := at_ hC
  refine sc_call_super hD1 hD2 hC1 hC2 (looks_mroIn X hsub) fun h' e k => ?_
  obtain ⟨F', N', l'⟩ := ks_newsPush (s := ⟨hh, g, d, t, os⟩) F N rfl e k
  exact h _ _ F' N' l'
theorem k_superI {x : Addr} {ox : Obj} {od : Option Obj} {Q : Value → Shared → Prop} {cdD : ClassData} (F : Fr h₀ L s.heap m) (X₀ : K.In h₀) (N : News h₀ L s.heap news) (hD : clsIn K D = some cdD) (I : InstAt s.heap x ox C od) (hsub : mroIn K C (.ref D) = some true)
    (h : ∀ so h', Fr h₀ L h' m → News h₀ L h' ((so, ks_superObj D x C) :: news) → (∀ p ∈ news, p.1 < so) → Q (.ref so) { s with heap := h' }) :
    wpAny (model prog w) A (call (.type "super") [.ref D, .ref x]) Q E s := by
  have X : K.In s.heap := X₀.keeps F.keep
  obtain ⟨hh, g, d, t, os⟩ := s
  obtain ⟨oD, hD1, hD2⟩ : ∃ oB, hh.get? D = some oB ∧ oB.data = .cls cdD := by
    unfold clsIn at hD
    split at hD
    · rename_i c d cd' sl ho
      cases hD
      exact ⟨_, X _ _ ho, rfl⟩
    · cases hD
  refine ks_wpAny_call_super hD1 hD2 I.at_ I.cls (fun c e => ?_) (looks_mroIn X hsub) (fun h' e k => ?_)
  · have := I.no
    unfold notCls at this
    rw [e] at this
    exact Bool.noConfusion this
  · obtain ⟨F', N', l'⟩ := ks_newsPush (s := ⟨hh, g, d, t, os⟩) F N rfl e k
    exact h _ _ F' N' l'
theorem k_superNew {so : Addr} {name : Str} {b : String} {T : Value} {pl : Sem Bool} {Q : Value × List Value → Shared → Prop} (F : Fr h₀ L s.heap m) (X₀ : K.In h₀) (N : News h₀ L s.heap news) (hso : (so, ks_superObj D C C) ∈ news) (ho : nsIn K cStatics "thirdparty.any" = some none)
    (hm : ks_superIn K C D name = some (some (.builtin b))) (hT : typeIn K (.builtin b) = some T) (hg : findIn K T "__get__" = some none) (hh : handedIn (.builtin b) = true) (hn : (name == ("__class__" : Str)) = false)
    (h : Q (.builtin b, []) { s with toks := s.toks + 1 }) : wpAny (model prog w) A (getMethod (.ref so) name pl) Q E s := by
  have X : K.In s.heap := X₀.keeps F.keep
  obtain ⟨hh', g, d, t, os⟩ := s
  cases hc : clsIn K C with
  | none => unfold ks_superIn at hm; rw [hc] at hm; cases hm
  | some cd =>
    unfold ks_superIn at hm
    rw [hc] at hm
    exact sc_getMethod (N _ hso).1 (looks_opaque X ho) (l₀ := cd.mro) (fun A Q E s k q => wpAny_bind ((looks_clsIn X hc) A _ E s k (wpAny_pure q))) rfl X hm hT hg hh hn h
theorem k_new {B : Addr} {Q : Value → Shared → Prop} (F : Fr h₀ L s.heap m) (X₀ : K.In h₀) (N : News h₀ L s.heap news) (hC : clsOk K C = true) (self : mroIn K C (.ref C) = some true) (sup : mroIn K C (.ref B) = some true) (top : mroIn K C (.type "object") = some true)
    (base : peek K ⟨prog, w.params⟩ (Bind.staticBase (.ref C)) = some (.ref B)) (made : peek K ⟨prog, w.params⟩ (Bind.madeBy (.ref B)) = some (some "object.__new__"))
    (h : ∀ x dx h', Fr h₀ L h' m → News h₀ L h' ((x, instObj C dx) :: (dx, dictOf [] 0) :: news) → (∀ p ∈ news, p.1 < dx) → dx < x → Q (.ref x) { s with heap := h' }) :
    wpAny (model prog w) A (call (.builtin "object.__new__") [.ref C]) Q E s := by
  have X : K.In s.heap := X₀.keeps F.keep
  obtain ⟨oc, od, cd, sl, hg, e1, e2, e4⟩ := clsOk_of X hC
  obtain ⟨hh, g, d, t, os⟩ := s
  refine wpAny_call (sc_new hg e1 e2 (looks_mroIn X self) (looks_mroIn X sup) (looks_mroIn X top) (Looks.of_peek X base) (Looks.of_peek X made) (h _ hh.objs.size _ ((F.push _).push _) ?_ (fun p hp => Heap.lt_size (N p hp).1) (Nat.lt_succ_self _)))
  have := (N.push F emptyDict).push (F.push _) (instObj C hh.objs.size)
  rwa [Heap.size_push] at this
end
theorem get2_all {prog : Program} {w : World} {A : Around} {E : Value → Shared → Prop} {s : Shared} {h₀ : Heap} {L d : Addr} {news : List (Addr × Obj)} {o : Obj} {kvs : List (Str × Value)} {k : Str} {tk : Tok} {dflt : Value} {Q : Value → Shared → Prop} (N : News h₀ L s.heap news) (hp : (d, o) ∈ news) (hd : o.IsDictOf (strKind prog w) kvs) (lo : (d == sysModules) = false)
    (h : GetAll k (fun v => Q v { s with toks := s.toks + 1 }) dflt kvs) :
    wpAny (model prog w) A (call (.builtin "dict.get") [.ref d, .str k tk, dflt]) Q E s :=
  kdg_get2 (knd := strKind prog w) N hp hd lo (strKind_is _ _ _ _) _ rfl (getAll_use (R := fun v => Q v { s with toks := s.toks + 1 }) h)
end Mine
end

section
open PySem PySem.W PySem.Spec PySem.Calls PyProof.Rows Builtin
namespace Mine
/-- what the written part says of a class C under D: how super(D, C).__new__(C) goes, how its __init__ is found -/
structure NewF (w : World) (C D fI : Addr) : Prop where
  ok : clsOk (hd.heap_39 w.params) C = true
  isC : (clsIn (hd.heap_39 w.params) C).isSome = true
  isD : (clsIn (hd.heap_39 w.params) D).isSome = true
  sub : mroIn (hd.heap_39 w.params) C (.ref D) = some true
  self : mroIn (hd.heap_39 w.params) C (.ref C) = some true
  sup : mroIn (hd.heap_39 w.params) C (.ref 218) = some true
  top : mroIn (hd.heap_39 w.params) C (.type "object") = some true
  new : ks_superIn (hd.heap_39 w.params) C D (Str.ofString "__new__") = some (some (.builtin "object.__new__"))
  base : peek (hd.heap_39 w.params) ⟨PySem.Challenge.rw_ez0290_01.row.prog, w.params⟩ (Bind.staticBase (.ref C)) = some (.ref 218)
  init : findIn (hd.heap_39 w.params) (.ref C) "__init__" = some (some (.ref fI))
  fn : typeIn (hd.heap_39 w.params) (.ref fI) = some (.type "function")
/-- what the written part says of a call of a class with its own __new__ -/
structure OwnF (w : World) (C p f : Addr) : Prop where
  ok : clsOk (hd.heap_39 w.params) C = true
  call : specialIn (hd.heap_39 w.params) (.ref C) "__call__" = some (some (.builtin "type.__call__"))
  typ : instIn (hd.heap_39 w.params) (.ref C) (.type "type") = some true
  made : peek (hd.heap_39 w.params) ⟨PySem.Challenge.rw_ez0290_01.row.prog, w.params⟩ (Bind.madeBy (.ref C)) = some none
  mt : typeIn (hd.heap_39 w.params) (.ref C) = some (.type "type")
  reads : readsIn (hd.heap_39 w.params) C (.type "type") = true
  find : findCls (hd.heap_39 w.params) (.ref C) (.type "type") "__new__" = some (.get (.builtin "staticmethod.__get__") (.ref p) .none (.ref C))
  stat : (recIn (hd.heap_39 w.params) p "staticmethod").bind List.head? = some (.ref f)
theorem of_new {w : World} : typeIn (hd.heap_39 w.params) (.builtin "object.__new__") = some (.type "builtin_function_or_method") := by kernel_rfl
theorem of_get {w : World} : findIn (hd.heap_39 w.params) (.type "builtin_function_or_method") "__get__" = some none := by kernel_rfl
theorem of_any {w : World} : nsIn (hd.heap_39 w.params) cStatics "thirdparty.any" = some none := by kernel_rfl
theorem of_handed : handedIn (.builtin "object.__new__") = true := by kernel_rfl
theorem of_made {w : World} : peek (hd.heap_39 w.params) ⟨PySem.Challenge.rw_ez0290_01.row.prog, w.params⟩ (Bind.madeBy (.ref 218)) = some (some "object.__new__") := by kernel_rfl
theorem nf_342 {w : World} : NewF w 342 323 320 := ⟨by kernel_rfl, by kernel_rfl, by kernel_rfl, by kernel_rfl, by kernel_rfl, by kernel_rfl, by kernel_rfl, by kernel_rfl, by kernel_rfl, by kernel_rfl, by kernel_rfl⟩
theorem nf_361 {w : World} : NewF w 361 323 320 := ⟨by kernel_rfl, by kernel_rfl, by kernel_rfl, by kernel_rfl, by kernel_rfl, by kernel_rfl, by kernel_rfl, by kernel_rfl, by kernel_rfl, by kernel_rfl, by kernel_rfl⟩
theorem nf_323 {w : World} : NewF w 323 323 320 := ⟨by kernel_rfl, by kernel_rfl, by kernel_rfl, by kernel_rfl, by kernel_rfl, by kernel_rfl, by kernel_rfl, by kernel_rfl, by kernel_rfl, by kernel_rfl, by kernel_rfl⟩
theorem nf_274 {w : World} : NewF w 274 254 244 := ⟨by kernel_rfl, by kernel_rfl, by kernel_rfl, by kernel_rfl, by kernel_rfl, by kernel_rfl, by kernel_rfl, by kernel_rfl, by kernel_rfl, by kernel_rfl, by kernel_rfl⟩
theorem nf_294 {w : World} : NewF w 294 254 244 := ⟨by kernel_rfl, by kernel_rfl, by kernel_rfl, by kernel_rfl, by kernel_rfl, by kernel_rfl, by kernel_rfl, by kernel_rfl, by kernel_rfl, by kernel_rfl, by kernel_rfl⟩
theorem nf_254 {w : World} : NewF w 254 254 244 := ⟨by kernel_rfl, by kernel_rfl, by kernel_rfl, by kernel_rfl, by kernel_rfl, by kernel_rfl, by kernel_rfl, by kernel_rfl, by kernel_rfl, by kernel_rfl, by kernel_rfl⟩
theorem nf_402 {w : World} : NewF w 402 382 208 := ⟨by kernel_rfl, by kernel_rfl, by kernel_rfl, by kernel_rfl, by kernel_rfl, by kernel_rfl, by kernel_rfl, by kernel_rfl, by kernel_rfl, by kernel_rfl, by kernel_rfl⟩
theorem nf_418 {w : World} : NewF w 418 382 208 := ⟨by kernel_rfl, by kernel_rfl, by kernel_rfl, by kernel_rfl, by kernel_rfl, by kernel_rfl, by kernel_rfl, by kernel_rfl, by kernel_rfl, by kernel_rfl, by kernel_rfl⟩
theorem nf_435 {w : World} : NewF w 435 382 208 := ⟨by kernel_rfl, by kernel_rfl, by kernel_rfl, by kernel_rfl, by kernel_rfl, by kernel_rfl, by kernel_rfl, by kernel_rfl, by kernel_rfl, by kernel_rfl, by kernel_rfl⟩
theorem nf_454 {w : World} : NewF w 454 382 208 := ⟨by kernel_rfl, by kernel_rfl, by kernel_rfl, by kernel_rfl, by kernel_rfl, by kernel_rfl, by kernel_rfl, by kernel_rfl, by kernel_rfl, by kernel_rfl, by kernel_rfl⟩
theorem nf_473 {w : World} : NewF w 473 382 208 := ⟨by kernel_rfl, by kernel_rfl, by kernel_rfl, by kernel_rfl, by kernel_rfl, by kernel_rfl, by kernel_rfl, by kernel_rfl, by kernel_rfl, by kernel_rfl, by kernel_rfl⟩
theorem nf_382 {w : World} : NewF w 382 382 208 := ⟨by kernel_rfl, by kernel_rfl, by kernel_rfl, by kernel_rfl, by kernel_rfl, by kernel_rfl, by kernel_rfl, by kernel_rfl, by kernel_rfl, by kernel_rfl, by kernel_rfl⟩
theorem ow_323 {w : World} : OwnF w 323 324 312 := ⟨by kernel_rfl, by kernel_rfl, by kernel_rfl, by kernel_rfl, by kernel_rfl, by kernel_rfl, by kernel_rfl, by kernel_rfl⟩
theorem ow_254 {w : World} : OwnF w 254 255 236 := ⟨by kernel_rfl, by kernel_rfl, by kernel_rfl, by kernel_rfl, by kernel_rfl, by kernel_rfl, by kernel_rfl, by kernel_rfl⟩
theorem ow_382 {w : World} : OwnF w 382 383 379 := ⟨by kernel_rfl, by kernel_rfl, by kernel_rfl, by kernel_rfl, by kernel_rfl, by kernel_rfl, by kernel_rfl, by kernel_rfl⟩
section
variable {w : World} {A : Around} {E : Value → Shared → Prop} {s : Shared} {h₀ : Heap} {L C D fI p f : Addr} {m : Str → Option Value} {news : List (Addr × Obj)}
theorem m_own {rest : List Value} {Q : Value → Shared → Prop} (O : OwnF w C p f) (F : Fr h₀ L s.heap m) (X₀ : (hd.heap_39 w.params).In h₀)
    (h : wpAny (model PySem.Challenge.rw_ez0290_01.row.prog w) (mkA A C rest) (call (.ref f) (.ref C :: rest)) (MadeNew PySem.Challenge.rw_ez0290_01.row.prog w A (hd.heap_39 w.params) C rest Q E) E { s with toks := s.toks + 1 }) :
    wpAny (model PySem.Challenge.rw_ez0290_01.row.prog w) A (call (.ref C) rest) Q E s := by
  obtain ⟨l, e1, e2⟩ := Option.bind_eq_some_iff.mp O.stat
  cases l with
  | nil => cases e2
  | cons a r =>
    have e3 : a = .ref f := Option.some.inj e2
    subst e3
    exact k_own F X₀ O.ok O.call O.typ O.made O.mt O.reads O.find e1 rfl h
theorem m_super {Q : Value → Shared → Prop} (W : NewF w C D fI) (F : Fr h₀ L s.heap m) (X₀ : (hd.heap_39 w.params).In h₀) (N : News h₀ L s.heap news)
    (h : ∀ so h', Fr h₀ L h' m → News h₀ L h' ((so, ks_superObj D C C) :: news) → (∀ p ∈ news, p.1 < so) → Q (.ref so) { s with heap := h' }) :
    wpAny (model PySem.Challenge.rw_ez0290_01.row.prog w) A (call (.type "super") [.ref D, .ref C]) Q E s := by
  obtain ⟨cdD, hD⟩ := Option.isSome_iff_exists.mp W.isD
  obtain ⟨cdC, hC⟩ := Option.isSome_iff_exists.mp W.isC
  exact k_super F X₀ N hD hC W.sub h
theorem m_superI {x : Addr} {ox : Obj} {od : Option Obj} {Q : Value → Shared → Prop} (W : NewF w C D fI) (F : Fr h₀ L s.heap m) (X₀ : (hd.heap_39 w.params).In h₀) (N : News h₀ L s.heap news) (I : InstAt s.heap x ox C od)
    (h : ∀ so h', Fr h₀ L h' m → News h₀ L h' ((so, ks_superObj D x C) :: news) → (∀ p ∈ news, p.1 < so) → Q (.ref so) { s with heap := h' }) :
    wpAny (model PySem.Challenge.rw_ez0290_01.row.prog w) A (call (.type "super") [.ref D, .ref x]) Q E s := by
  obtain ⟨cdD, hD⟩ := Option.isSome_iff_exists.mp W.isD
  exact k_superI F X₀ N hD I W.sub h
theorem m_superNew {so : Addr} {pl : Sem Bool} {Q : Value × List Value → Shared → Prop} (W : NewF w C D fI) (F : Fr h₀ L s.heap m) (X₀ : (hd.heap_39 w.params).In h₀) (N : News h₀ L s.heap news) (hso : (so, ks_superObj D C C) ∈ news)
    (h : Q (.builtin "object.__new__", []) { s with toks := s.toks + 1 }) : wpAny (model PySem.Challenge.rw_ez0290_01.row.prog w) A (getMethod (.ref so) (Str.ofString "__new__") pl) Q E s :=
  k_superNew F X₀ N hso of_any W.new of_new of_get of_handed (by decide +kernel) h
theorem m_new {Q : Value → Shared → Prop} (W : NewF w C D fI) (F : Fr h₀ L s.heap m) (X₀ : (hd.heap_39 w.params).In h₀) (N : News h₀ L s.heap news)
    (h : ∀ x dx h', Fr h₀ L h' m → News h₀ L h' ((x, instObj C dx) :: (dx, dictOf [] 0) :: news) → (∀ p ∈ news, p.1 < dx) → dx < x → Q (.ref x) { s with heap := h' }) :
    wpAny (model PySem.Challenge.rw_ez0290_01.row.prog w) A (call (.builtin "object.__new__") [.ref C]) Q E s :=
  k_new F X₀ N W.ok W.self W.sup W.top W.base of_made h
end
end Mine
end

section
open PySem PySem.W PySem.Spec PySem.Calls PyProof.Rows Builtin
namespace Mine
theorem lt_all {d : Addr} {l : List (Addr × Obj)} (h : AllLt d l) : ∀ p ∈ l, p.1 < d := allLt_mem h
/-- a fresh object that __new__ gives -/
abbrev RetN (h₀ : Heap) (L : Addr) (m : Str → Option Value) (news : List (Addr × Obj)) (s : Shared) (Q : Value → Shared → Prop) (C : Addr) : Prop :=
  ∀ x dx h' tk' led, Fr h₀ L h' m → News h₀ L h' ((x, instObj C dx) :: (dx, dictOf [] 0) :: led) → Ext news led → (∀ p ∈ led, p.1 < dx) → dx < x → Q (.ref x) { s with heap := h', toks := tk' }
theorem retN {h₀ : Heap} {L : Addr} {m : Str → Option Value} {news : List (Addr × Obj)} {s : Shared} {Q : Value → Shared → Prop} {C C' : Addr} {x dx : Addr} {h' : Heap} {tk' : Nat} {led : List (Addr × Obj)}
    (ret : RetN h₀ L m news s Q C) (e : C = C') (F : Fr h₀ L h' m) (N : News h₀ L h' ((x, instObj C' dx) :: (dx, dictOf [] 0) :: led)) (X : Ext news led) (l1 : ∀ p ∈ led, p.1 < dx) (l2 : dx < x) : Q (.ref x) { s with heap := h', toks := tk' } := by
  subst e
  exact ret x dx h' tk' led F N X l1 l2
def srfC (n : Str) : Addr := if n == Str.ofString "SRF103" then 342 else if n == Str.ofString "SRF100" then 361 else 323
def norC (n : Str) : Addr := if n == Str.ofString "NORWT4" then 274 else if n == Str.ofString "NORI1" then 294 else 254
def sxnC (n : Str) : Addr := if n == Str.ofString "SXN20" then 402 else if n == Str.ofString "SXN21" then 418 else if n == Str.ofString "SXN22" then 435 else if n == Str.ofString "SXN23" then 454 else if n == Str.ofString "SXN24" then 473 else 382
section
variable {n : Str}
theorem srf_1 (h : (n == Str.ofString "SRF103") = true) : srfC n = 342 := by unfold srfC; rw [if_pos h]
theorem srf_2 (h : (n == Str.ofString "SRF103") = false) (h2 : (n == Str.ofString "SRF100") = true) : srfC n = 361 := by unfold srfC; rw [if_neg (by rw [h]; exact Bool.false_ne_true), if_pos h2]
theorem srf_3 (h : (n == Str.ofString "SRF103") = false) (h2 : (n == Str.ofString "SRF100") = false) : srfC n = 323 := by unfold srfC; rw [if_neg (by rw [h]; exact Bool.false_ne_true), if_neg (by rw [h2]; exact Bool.false_ne_true)]
theorem nor_1 (h : (n == Str.ofString "NORWT4") = true) : norC n = 274 := by unfold norC; rw [if_pos h]
theorem nor_2 (h : (n == Str.ofString "NORWT4") = false) (h2 : (n == Str.ofString "NORI1") = true) : norC n = 294 := by unfold norC; rw [if_neg (by rw [h]; exact Bool.false_ne_true), if_pos h2]
theorem nor_3 (h : (n == Str.ofString "NORWT4") = false) (h2 : (n == Str.ofString "NORI1") = false) : norC n = 254 := by unfold norC; rw [if_neg (by rw [h]; exact Bool.false_ne_true), if_neg (by rw [h2]; exact Bool.false_ne_true)]
theorem sxn_1 (h : (n == Str.ofString "SXN20") = true) : sxnC n = 402 := by unfold sxnC; rw [if_pos h]
theorem sxn_2 (h : (n == Str.ofString "SXN20") = false) (h2 : (n == Str.ofString "SXN21") = true) : sxnC n = 418 := by unfold sxnC; rw [if_neg (by rw [h]; exact Bool.false_ne_true), if_pos h2]
theorem sxn_3 (h : (n == Str.ofString "SXN20") = false) (h2 : (n == Str.ofString "SXN21") = false) (h3 : (n == Str.ofString "SXN22") = true) : sxnC n = 435 := by
  unfold sxnC; rw [if_neg (by rw [h]; exact Bool.false_ne_true), if_neg (by rw [h2]; exact Bool.false_ne_true), if_pos h3]
theorem sxn_4 (h : (n == Str.ofString "SXN20") = false) (h2 : (n == Str.ofString "SXN21") = false) (h3 : (n == Str.ofString "SXN22") = false) (h4 : (n == Str.ofString "SXN23") = true) : sxnC n = 454 := by
  unfold sxnC; rw [if_neg (by rw [h]; exact Bool.false_ne_true), if_neg (by rw [h2]; exact Bool.false_ne_true), if_neg (by rw [h3]; exact Bool.false_ne_true), if_pos h4]
theorem sxn_5 (h : (n == Str.ofString "SXN20") = false) (h2 : (n == Str.ofString "SXN21") = false) (h3 : (n == Str.ofString "SXN22") = false) (h4 : (n == Str.ofString "SXN23") = false) (h5 : (n == Str.ofString "SXN24") = true) : sxnC n = 473 := by
  unfold sxnC; rw [if_neg (by rw [h]; exact Bool.false_ne_true), if_neg (by rw [h2]; exact Bool.false_ne_true), if_neg (by rw [h3]; exact Bool.false_ne_true), if_neg (by rw [h4]; exact Bool.false_ne_true), if_pos h5]
theorem sxn_6 (h : (n == Str.ofString "SXN20") = false) (h2 : (n == Str.ofString "SXN21") = false) (h3 : (n == Str.ofString "SXN22") = false) (h4 : (n == Str.ofString "SXN23") = false) (h5 : (n == Str.ofString "SXN24") = false) : sxnC n = 382 := by
  unfold sxnC; rw [if_neg (by rw [h]; exact Bool.false_ne_true), if_neg (by rw [h2]; exact Bool.false_ne_true), if_neg (by rw [h3]; exact Bool.false_ne_true), if_neg (by rw [h4]; exact Bool.false_ne_true), if_neg (by rw [h5]; exact Bool.false_ne_true)]
end
/-- a message in a ledger: with sentence_type (SRF, NOR), without it (SXN, plain) -/
def MsgS (w : World) (news : List (Addr × Obj)) (x C : Addr) (st mk : Str) (ds : List Str) : Prop := ∃ dx l k1 k2 k3 t1 t2 nd n vs, (x, instObj C dx) ∈ news ∧
  (dx, dictOf [⟨PyData.keyHash w.params (Str.ofString "sentence_type"), .str (Str.ofString "sentence_type") k1, .str st t1⟩, ⟨PyData.keyHash w.params (Str.ofString "manufacturer"), .str (Str.ofString "manufacturer") k2, .str mk t2⟩, ⟨PyData.keyHash w.params (Str.ofString "data"), .str (Str.ofString "data") k3, .ref l⟩] nd) ∈ news ∧
  (l, listOf vs.toArray n) ∈ news ∧ StrsAre vs ds
def MsgP (w : World) (news : List (Addr × Obj)) (x C : Addr) (mk : Str) (ds : List Str) : Prop := ∃ dx l k2 k3 t2 nd n vs, (x, instObj C dx) ∈ news ∧
  (dx, dictOf [⟨PyData.keyHash w.params (Str.ofString "manufacturer"), .str (Str.ofString "manufacturer") k2, .str mk t2⟩, ⟨PyData.keyHash w.params (Str.ofString "data"), .str (Str.ofString "data") k3, .ref l⟩] nd) ∈ news ∧
  (l, listOf vs.toArray n) ∈ news ∧ StrsAre vs ds
end Mine
end

section
open PySem PySem.W PySem.Spec PySem.Calls PyProof.Rows Builtin
namespace Mine
/-- storing an attribute of an object of C -/
structure AttrF (w : World) (C : Addr) : Prop where
  setA : findIn (hd.heap_39 w.params) (.ref C) "__setattr__" = some (some (.builtin "object.__setattr__"))
  over : plainOver (hd.heap_39 w.params) C = true
  t1 : takerIn (hd.heap_39 w.params) C (Str.ofString "manufacturer") = some none
  t2 : takerIn (hd.heap_39 w.params) C (Str.ofString "data") = some none
  t3 : takerIn (hd.heap_39 w.params) C (Str.ofString "sentence_type") = some none
  dict : hasDictIn (hd.heap_39 w.params) C = true
/-- super(D, self).__init__ of an object of C -/
structure InitF (w : World) (C D : Addr) : Prop where
  isD : (clsIn (hd.heap_39 w.params) D).isSome = true
  sub : mroIn (hd.heap_39 w.params) C (.ref D) = some true
  sup : ks_superIn (hd.heap_39 w.params) C D (Str.ofString "__init__") = some (some (.ref 208))
theorem fn_208 {w : World} : typeIn (hd.heap_39 w.params) (.ref 208) = some (.type "function") := by kernel_rfl
theorem at_342 {w : World} : AttrF w 342 := ⟨by kernel_rfl, by kernel_rfl, by kernel_rfl, by kernel_rfl, by kernel_rfl, by kernel_rfl⟩
theorem at_361 {w : World} : AttrF w 361 := ⟨by kernel_rfl, by kernel_rfl, by kernel_rfl, by kernel_rfl, by kernel_rfl, by kernel_rfl⟩
theorem at_323 {w : World} : AttrF w 323 := ⟨by kernel_rfl, by kernel_rfl, by kernel_rfl, by kernel_rfl, by kernel_rfl, by kernel_rfl⟩
theorem at_274 {w : World} : AttrF w 274 := ⟨by kernel_rfl, by kernel_rfl, by kernel_rfl, by kernel_rfl, by kernel_rfl, by kernel_rfl⟩
theorem at_294 {w : World} : AttrF w 294 := ⟨by kernel_rfl, by kernel_rfl, by kernel_rfl, by kernel_rfl, by kernel_rfl, by kernel_rfl⟩
theorem at_254 {w : World} : AttrF w 254 := ⟨by kernel_rfl, by kernel_rfl, by kernel_rfl, by kernel_rfl, by kernel_rfl, by kernel_rfl⟩
theorem at_402 {w : World} : AttrF w 402 := ⟨by kernel_rfl, by kernel_rfl, by kernel_rfl, by kernel_rfl, by kernel_rfl, by kernel_rfl⟩
theorem at_418 {w : World} : AttrF w 418 := ⟨by kernel_rfl, by kernel_rfl, by kernel_rfl, by kernel_rfl, by kernel_rfl, by kernel_rfl⟩
theorem at_435 {w : World} : AttrF w 435 := ⟨by kernel_rfl, by kernel_rfl, by kernel_rfl, by kernel_rfl, by kernel_rfl, by kernel_rfl⟩
theorem at_454 {w : World} : AttrF w 454 := ⟨by kernel_rfl, by kernel_rfl, by kernel_rfl, by kernel_rfl, by kernel_rfl, by kernel_rfl⟩
theorem at_473 {w : World} : AttrF w 473 := ⟨by kernel_rfl, by kernel_rfl, by kernel_rfl, by kernel_rfl, by kernel_rfl, by kernel_rfl⟩
theorem at_382 {w : World} : AttrF w 382 := ⟨by kernel_rfl, by kernel_rfl, by kernel_rfl, by kernel_rfl, by kernel_rfl, by kernel_rfl⟩
theorem at_218 {w : World} : AttrF w 218 := ⟨by kernel_rfl, by kernel_rfl, by kernel_rfl, by kernel_rfl, by kernel_rfl, by kernel_rfl⟩
theorem if_342 {w : World} : InitF w 342 323 := ⟨by kernel_rfl, by kernel_rfl, by kernel_rfl⟩
theorem if_361 {w : World} : InitF w 361 323 := ⟨by kernel_rfl, by kernel_rfl, by kernel_rfl⟩
theorem if_323 {w : World} : InitF w 323 323 := ⟨by kernel_rfl, by kernel_rfl, by kernel_rfl⟩
theorem if_274 {w : World} : InitF w 274 254 := ⟨by kernel_rfl, by kernel_rfl, by kernel_rfl⟩
theorem if_294 {w : World} : InitF w 294 254 := ⟨by kernel_rfl, by kernel_rfl, by kernel_rfl⟩
theorem if_254 {w : World} : InitF w 254 254 := ⟨by kernel_rfl, by kernel_rfl, by kernel_rfl⟩
section
variable {w : World} {A : Around} {E : Value → Shared → Prop} {s : Shared} {h₀ : Heap} {L C D x : Addr} {m : Str → Option Value} {news : List (Addr × Obj)}
theorem m_superI2 {ox : Obj} {od : Option Obj} {Q : Value → Shared → Prop} (W : InitF w C D) (F : Fr h₀ L s.heap m) (X₀ : (hd.heap_39 w.params).In h₀) (N : News h₀ L s.heap news) (I : InstAt s.heap x ox C od)
    (h : ∀ so h', Fr h₀ L h' m → News h₀ L h' ((so, ks_superObj D x C) :: news) → (∀ p ∈ news, p.1 < so) → Q (.ref so) { s with heap := h' }) :
    wpAny (model PySem.Challenge.rw_ez0290_01.row.prog w) A (call (.type "super") [.ref D, .ref x]) Q E s := by
  obtain ⟨cdD, hD⟩ := Option.isSome_iff_exists.mp W.isD
  exact k_superI F X₀ N hD I W.sub h
theorem m_superInit {so : Addr} {ox : Obj} {od : Option Obj} {pl : Sem Bool} {Q : Value × List Value → Shared → Prop} (W : InitF w C D) (F : Fr h₀ L s.heap m) (X₀ : (hd.heap_39 w.params).In h₀) (N : News h₀ L s.heap news) (hso : (so, ks_superObj D x C) ∈ news) (I : InstAt s.heap x ox C od)
    (h : ∀ q h', Fr h₀ L h' m → News h₀ L h' ((q, methodObj (.ref 208) (.ref x)) :: news) → (∀ p ∈ news, p.1 < q) → Q (.ref q, []) { s with heap := h', toks := s.toks + 1 }) : wpAny (model PySem.Challenge.rw_ez0290_01.row.prog w) A (getMethod (.ref so) (Str.ofString "__init__") pl) Q E s :=
  ks_method F X₀ N hso I of_any W.sup fn_208 (by decide +kernel) h
end
/-- the frame of __init__ goes back with the message written -/
abbrev RetI (w : World) (h₀ : Heap) (L : Addr) (m : Str → Option Value) (news : List (Addr × Obj)) (s : Shared) (Q : Value → Shared → Prop) (M : List (Addr × Obj) → Prop) : Prop :=
  ∀ h' tk' led, Fr h₀ L h' m → News h₀ L h' led → Ext news led → M led → Q .none { s with heap := h', toks := tk' }
theorem retI {w : World} {h₀ : Heap} {L : Addr} {m : Str → Option Value} {news : List (Addr × Obj)} {s : Shared} {Q : Value → Shared → Prop} {M : List (Addr × Obj) → Prop} {h' : Heap} {tk' : Nat} {led : List (Addr × Obj)}
    (ret : RetI w h₀ L m news s Q M) (F : Fr h₀ L h' m) (N : News h₀ L h' led) (X : Ext news led) (e : M led) : Q .none { s with heap := h', toks := tk' } := ret _ _ _ F N X e
theorem lt_two {x dx : Addr} {o : Obj} {X : List (Addr × Obj)} (h : dx < x) (l : ∀ p ∈ X, p.1 < dx) : ∀ p ∈ (dx, o) :: X, p.1 < x := fun p hp => by
  rcases List.mem_cons.mp hp with rfl | hp
  · exact h
  · exact Nat.lt_trans (l p hp) h
theorem strs_drop : ∀ {vs : List Value} {ws : List Str}, StrsAre vs ws → ∀ k, StrsAre (vs.drop k) (ws.drop k)
  | _, _, .nil, k => by rw [List.drop_nil, List.drop_nil]; exact .nil
  | _, _, .cons x t h, 0 => .cons x t h
  | _, _, .cons _ _ h, k + 1 => strs_drop h k
theorem slice_txt1 {prog : Program} {w : World} {A : Around} {E : Value → Shared → Prop} {s : Shared} {h₀ : Heap} {L l : Addr} {m : Str → Option Value} {news : List (Addr × Obj)} {value slice : PySem.Expr} {vs : List Value} {ws : List Str} {u : Tok} {Q : Value → Shared → Prop}
    (F : Fr h₀ L s.heap m) (N : News h₀ L s.heap news) (hl : s.heap.IsList l vs.toArray) (hS : StrsAre vs ws) (hb : ws.length ≤ 100)
    (h : ∀ D zs h', Fr h₀ L h' m → News h₀ L h' ((D, listOf (List.toArray zs) 0) :: news) → (∀ p ∈ news, p.1 < D) → StrsAre zs ws.tail → Q (.ref D) { s with heap := h' })
    (hs : subscripted slice false (.ref l) (.ref s.heap.objs.size) = operate [.ref s.heap.objs.size, .ref l] (getItem (.ref l) (.ref s.heap.objs.size))) (ht : ∀ r, letTemporaryGo value (.ref l) r = pure ()) :
    wpAny (model prog w) A (subscriptTail value slice (.ref l) (.ref s.heap.objs.size)) Q E { s with heap := s.heap.push { cls := .type "slice", data := .fields #[.int 1 u, .none, .none] } } := by
  refine kmk_slice_lit (zs := vs.drop 1) F N hl (IsPart.int 1 u) IsPart.none ?_ (fun D h' F' N' l1 => h D _ h' F' N' l1 ?_) hs ht ?_
  · rw [show (1 : Int) = ((1 : Nat) : Int) from rfl, slicePick_from']
  · rw [← List.drop_one]; exact strs_drop hS 1
  · rw [List.size_toArray, hS.length, sizeLine_eq]; omega
end Mine
end

section
open PySem PySem.W PySem.Spec PySem.Calls PyProof.Rows Builtin
set_option maxRecDepth 100000
namespace Mine
open AutoSeq1 (wpAny_loadPart')
section
variable {prog : Program} {w : World} {A : Around} {E : Value → Shared → Prop} {s : Shared}
theorem tup_nextOf {it l : Addr} {i : Nat} {items : Array Value} {x : Value} {Q : Value → Shared → Prop} (hit : s.heap.IsTupleIter it l i)
    (hl : s.heap.IsTuple l items) (hx : items[i]? = some x)
    (hQ : ∀ h', h'.IsTupleIter it l (i + 1) → Heap.SameBut it s.heap h' → Q x { s with heap := h' }) :
    wpAny (model prog w) A (Builtin.SmallTypes.nextOf (.ref it)) Q E s := by
  obtain ⟨o, ho, hc, hd⟩ := id hit
  obtain ⟨ol, hol, _, nl, hdl⟩ := hl
  unfold Builtin.SmallTypes.nextOf
  refine wpAny_bind (wpAny_callSpecial?_slot (name := Str.ofString "__next__") hit.typeIs F.slot_tuple_iterator_next
    (wpAny_call_entry F.slot_tuple_iterator_next hit.typeIs F.entry_tuple_iterator_next ?_ (F.args_tuple_iterator_next_1 _)))
  show wpAny _ _ (field (.ref it) 0 >>= _) _ _ s
  refine wpAny_bind (wpAny_field ho hd (x := .ref l) rfl ?_)
  show wpAny _ _ (if (Value.ref l == Value.none) = true then _ else _) _ _ s
  rw [if_neg (show ¬ ((Value.ref l == Value.none) = true) from Bool.false_ne_true)]
  show wpAny _ _ (field (.ref it) 1 >>= _) _ _ s
  refine wpAny_bind (wpAny_field ho hd (x := .int i 0) rfl ?_)
  show wpAny _ _ (seqItems? (.ref l) >>= _) _ _ s
  refine wpAny_bind (wpAny_seqItems hol hdl ?_)
  simp only [Int.toNat_natCast, hx]
  refine wpAny_bind (wpAny_setField ho hd (by simp) (wpAny_pure ⟨x, rfl, wpAny_pure (hQ _ ?_ (Heap.SameBut.update ..))⟩))
  exact ⟨_, Heap.get?_update_self _ ho (Obj.isFreed_of_fields (Obj.data_mapFields hd _)), (Obj.cls_mapFields ..).trans hc, by
    rw [Obj.data_mapFields hd]; simp [rawInt]⟩
theorem tup_nextEnd {it l : Addr} {i : Nat} {items : Array Value} {Q : Value → Shared → Prop} (hh : A.handled = none)
    (hit : s.heap.IsTupleIter it l i) (hl : s.heap.IsTuple l items) (hx : items[i]? = none)
    (hE : ∀ h' e, Heap.ExtBut it s.heap h' → (∃ o, h'.get? e = some o ∧ o.cls = .type "StopIteration") → E (.ref e) { s with heap := h' }) :
    wpAny (model prog w) A (Builtin.SmallTypes.nextOf (.ref it)) Q E s := by
  obtain ⟨o, ho, hc, hd⟩ := id hit
  obtain ⟨ol, hol, _, nl, hdl⟩ := hl
  unfold Builtin.SmallTypes.nextOf
  refine wpAny_bind (wpAny_callSpecial?_slot (name := Str.ofString "__next__") hit.typeIs F.slot_tuple_iterator_next
    (wpAny_call_entry F.slot_tuple_iterator_next hit.typeIs F.entry_tuple_iterator_next ?_ (F.args_tuple_iterator_next_1 _)))
  show wpAny _ _ (field (.ref it) 0 >>= _) _ _ s
  refine wpAny_bind (wpAny_field ho hd (x := .ref l) rfl ?_)
  show wpAny _ _ (if (Value.ref l == Value.none) = true then _ else _) _ _ s
  rw [if_neg (show ¬ ((Value.ref l == Value.none) = true) from Bool.false_ne_true)]
  show wpAny _ _ (field (.ref it) 1 >>= _) _ _ s
  refine wpAny_bind (wpAny_field ho hd (x := .int i 0) rfl ?_)
  show wpAny _ _ (seqItems? (.ref l) >>= _) _ _ s
  refine wpAny_bind (wpAny_seqItems hol hdl ?_)
  simp only [Int.toNat_natCast, hx]
  refine wpAny_bind (wpAny_rule (wpAny_bind (wpAny_setField ho hd (by simp) ?_)))
  show wpAny _ _ (newExc (.type "StopIteration") [] >>= _) _ _ _
  refine wpAny_bind ?_
  simp only [newExc, newTuple]
  refine wpAny_bind (wpAny_newObj_type ?_ (by size_fits))
  refine wpAny_bind (m := firstArgMember _ _) (wpAny_of_eq (a := Value.none) (by first | rfl | (simp only [firstArgMember]; rfl)) ?_)
  refine wpAny_newObj_type ?_ (by size_fits)
  simp only [raiseNew]
  refine wpAny_bind (wpAny_handled ?_)
  first | rw [show A.in1.handled = none from hh] | rw [hh]
  refine wpAny_bind (wpAny_pure (wpAny_throw ?_))
  exact hE _ _ (((Heap.SameBut.update ..).extBut.push _).push _) ⟨_, Heap.get?_push_size _ rfl, rfl⟩
theorem tup_enum_next {e it l : Addr} {i : Nat} {items : Array Value} {x old : Value} {Q : Value → Shared → Prop}
    (he : IsEnum s.heap e it i old) (hit : s.heap.IsTupleIter it l i) (hl : s.heap.IsTuple l items) (hx : items[i]? = some x) (hne : e ≠ it)
    (hQ : ∀ h', IsEnumOut h' e it ((i : Int) + 1) x s.heap.objs.size → h'.IsTupleIter it l (i + 1) →
      h'.get? s.heap.objs.size = some { cls := .type "tuple", data := .seq #[.int i s.toks, x] } → h'.objs.size = s.heap.objs.size + 1 →
      (∀ b o, b ≠ e → b ≠ it → s.heap.get? b = some o → h'.get? b = some o) → Q (.ref s.heap.objs.size) { s with heap := h', toks := s.toks + 1 }) :
    wpAny (model prog w) A (Builtin.«enumerate.__next__» ⟨[.ref e], []⟩) (fun fin s' => ∃ v, fin = .done (.ret v) ∧ Q v s') E s := by
  obtain ⟨hp, g, d, tk, os⟩ := s
  show wpAny _ _ (field (.ref e) 2 >>= _) _ _ _
  refine wpAny_bind (wpAny_field he rfl (x := .ref it) rfl ?_)
  refine wpAny_bind (tup_nextOf hit hl hx fun h₁ hit₁ hs₁ => ?_)
  replace hs₁ : Heap.SameBut it hp h₁ := hs₁
  have he₁ : IsEnum h₁ e it i old := (hs₁.2 e hne).trans he
  show wpAny _ _ (field (.ref e) 3 >>= _) _ _ ⟨h₁, g, d, tk, os⟩
  refine wpAny_bind (wpAny_field he₁ rfl (x := rawInt i) rfl ?_)
  show wpAny _ _ (field (.ref e) 4 >>= _) _ _ ⟨h₁, g, d, tk, os⟩
  refine wpAny_bind (wpAny_field he₁ rfl (x := .none) rfl ?_)
  show wpAny _ _ (mkInt i >>= _) _ _ ⟨h₁, g, d, tk, os⟩
  refine wpAny_bind (wpAny_mkInt ?_)
  show wpAny _ _ (setField (.ref e) 3 (rawInt ((i : Int) + 1)) >>= _) _ _ ⟨h₁, g, d, tk + 1, os⟩
  refine wpAny_bind (wpAny_setField_rec he₁ (by simp) fun h₂ he₂ hs₂ => ?_)
  replace hs₂ : Heap.SameBut e h₁ h₂ := hs₂
  replace he₂ : IsEnum h₂ e it ((i : Int) + 1) old := he₂
  show wpAny _ _ (setField (.ref e) 4 .none >>= _) _ _ ⟨h₂, g, d, tk + 1, os⟩
  refine wpAny_bind (wpAny_setField_rec he₂ (by simp) fun h₃ he₃ hs₃ => ?_)
  replace hs₃ : Heap.SameBut e h₂ h₃ := hs₃
  replace he₃ : IsEnum h₃ e it ((i : Int) + 1) old := he₃
  show wpAny _ _ (newTuple [.int i tk, x] >>= _) _ _ ⟨h₃, g, d, tk + 1, os⟩
  refine wpAny_bind (wpAny_newTuple ?_)
  have he₄ : IsEnum (h₃.push { cls := .type "tuple", data := .seq #[.int i tk, x] }) e it ((i : Int) + 1) old := Heap.get?_push_of_some _ he₃
  generalize hh₄ : h₃.push { cls := .type "tuple", data := .seq #[.int i tk, x] } = h₄ at he₄
  have hsz : h₃.objs.size = hp.objs.size := by rw [hs₃.1, hs₂.1, hs₁.1]
  have hel : e < hp.objs.size := Heap.lt_size he
  have ht₄ : h₄.get? hp.objs.size = some { cls := .type "tuple", data := .seq #[.int i tk, x] } := by rw [← hh₄, ← hsz]; exact Heap.get?_push_size _ rfl
  have hz₄ : h₄.objs.size = hp.objs.size + 1 := by rw [← hh₄, Heap.size_push, hsz]
  have hk₄ : ∀ b o, b ≠ e → b ≠ it → hp.get? b = some o → h₄.get? b = some o := fun b o hbe hbi hb => by
    rw [← hh₄]; exact Heap.get?_push_of_some _ (hs₃.extBut b o hbe (hs₂.extBut b o hbe (hs₁.extBut b o hbi hb)))
  have hit₄ : h₄.IsTupleIter it l (i + 1) := by
    rw [← hh₄]; obtain ⟨o, ho, r⟩ := (hit₁.extBut hs₂.extBut (Ne.symm hne)).extBut hs₃.extBut (Ne.symm hne); exact ⟨o, Heap.get?_push_of_some _ ho, r⟩
  show wpAny _ _ (Builtin.SmallTypes.ownedTupleIsFree (.ref e) >>= _) _ _ ⟨h₄, g, d, tk + 1, os⟩
  rw [hsz]
  clear hh₄ he₃ hs₃ he₂ hs₂ he₁ hs₁ hit₁ hsz h₃ h₂ h₁
  refine wpAny_bind ?_
  · unfold Builtin.SmallTypes.ownedTupleIsFree
    refine wpAny_bind (wpAny_field he₄ rfl (x := .none) rfl (wpAny_pure ?_))
    simp only [if_true]
    refine wpAny_bind (wpAny_rule ?_)
    refine wpAny_bind (wpAny_field he₄ rfl (x := old) rfl ?_)
    refine wpAny_bind (wpAny_setField_rec he₄ (by simp) fun h₅ he₅ hs₅ => ?_)
    replace hs₅ : Heap.SameBut e h₄ h₅ := hs₅
    replace he₅ : IsEnum h₅ e it ((i : Int) + 1) x := he₅
    show wpAny _ _ (Builtin.SmallTypes.ownedTupleHandOut (.ref e) (.ref hp.objs.size) >>= _) _ _ ⟨h₅, g, d, tk + 1, os⟩
    refine wpAny_bind ?_
    · unfold Builtin.SmallTypes.ownedTupleHandOut
      refine wpAny_bind (wpAny_setField_rec he₅ (by simp) fun h₆ he₆ hs₆ => ?_)
      replace hs₆ : Heap.SameBut e h₅ h₆ := hs₆
      replace he₆ : IsEnumOut h₆ e it ((i : Int) + 1) x hp.objs.size := he₆
      refine wpAny_setField_rec he₆ (by simp) fun h₇ he₇ hs₇ => ?_
      replace hs₇ : Heap.SameBut e h₆ h₇ := hs₇
      replace he₇ : IsEnumOut h₇ e it ((i : Int) + 1) x hp.objs.size := he₇
      refine wpAny_bind (wpAny_letGo (wpAny_pure ⟨_, rfl, hQ h₇ he₇ ?_ ?_ ?_ ?_⟩))
      · exact ((hit₄.extBut hs₅.extBut (Ne.symm hne)).extBut hs₆.extBut (Ne.symm hne)).extBut hs₇.extBut (Ne.symm hne)
      · exact hs₇.extBut _ _ (Nat.ne_of_gt hel) (hs₆.extBut _ _ (Nat.ne_of_gt hel) (hs₅.extBut _ _ (Nat.ne_of_gt hel) ht₄))
      · rw [hs₇.1, hs₆.1, hs₅.1, hz₄]
      · exact fun b o hbe hbi hb => hs₇.extBut b o hbe (hs₆.extBut b o hbe (hs₅.extBut b o hbe (hk₄ b o hbe hbi hb)))
theorem tup_pyNext {e it l : Addr} {i : Nat} {items : Array Value} {x old : Value} {Q : Option Value → Shared → Prop}
    (he : IsEnum s.heap e it i old) (hit : s.heap.IsTupleIter it l i) (hl : s.heap.IsTuple l items) (hx : items[i]? = some x) (hne : e ≠ it)
    (hQ : ∀ h', IsEnumOut h' e it ((i : Int) + 1) x s.heap.objs.size → h'.IsTupleIter it l (i + 1) →
      h'.get? s.heap.objs.size = some { cls := .type "tuple", data := .seq #[.int i s.toks, x] } → h'.objs.size = s.heap.objs.size + 1 →
      (∀ b o, b ≠ e → b ≠ it → s.heap.get? b = some o → h'.get? b = some o) → Q (some (.ref s.heap.objs.size)) { s with heap := h', toks := s.toks + 1 }) :
    wpAny (model prog w) A (pyNext (.ref e)) Q E s := by
  have hT : s.TypeIs (.ref e) "enumerate" := ⟨_, he, rfl⟩
  unfold pyNext
  exact wpAny_bind (wpAny_attempt (wpAny_callSpecial?_slot (name := Str.ofString "__next__") hT F.slot_enumerate_next
    (wpAny_call_entry F.slot_enumerate_next hT F.entry_enumerate_next
      (tup_enum_next he hit hl hx hne fun h' a b c d k => wpAny_pure (hQ h' a b c d k)) (F.args_enumerate_next_1 _))))
theorem tup_pyEnd {e it l : Addr} {i : Nat} {items : Array Value} {old : Value} {Q : Option Value → Shared → Prop} (hh : A.handled = none)
    (he : IsEnum s.heap e it i old) (hit : s.heap.IsTupleIter it l i) (hl : s.heap.IsTuple l items) (hx : items[i]? = none)
    (hQ : ∀ h', Heap.ExtBut it s.heap h' → Q none { s with heap := h' }) : wpAny (model prog w) A (pyNext (.ref e)) Q E s := by
  have hT : s.TypeIs (.ref e) "enumerate" := ⟨_, he, rfl⟩
  unfold pyNext
  refine wpAny_bind (wpAny_attempt (wpAny_callSpecial?_slot (name := Str.ofString "__next__") hT F.slot_enumerate_next
    (wpAny_call_entry F.slot_enumerate_next hT F.entry_enumerate_next ?_ (F.args_enumerate_next_1 _))))
  show wpAny _ _ (field (.ref e) 2 >>= _) _ _ _
  refine wpAny_bind (wpAny_field he rfl (x := .ref it) rfl ?_)
  refine wpAny_bind (tup_nextEnd hh hit hl hx fun h' x he' hx' => ?_)
  obtain ⟨o, ho, hc⟩ := hx'
  refine wpAny_bind (wpAny_isInstance (T := "StopIteration") (b := true) ⟨o, ho, hc⟩ isSubtype_stop ?_)
  exact wpAny_pure (hQ _ he')
end
theorem tup_meets (l : Addr) (items : Array Value) (n : Nat) (dct : Option Addr) (sl : Array (Option Value)) :
    Meets (Builtin.«enumerate.__new__» ⟨[.type "enumerate", .ref l], []⟩) (fun _ R s => s.heap.get? l = some { cls := .type "tuple", dict := dct, data := .seq items n, slots := sl } ∧
      R (.ok (.ret (.ref (s.heap.push { cls := .type "tuple_iterator", data := .fields #[.ref l, .int 0 0] }).objs.size)))
        { s with heap := (s.heap.push { cls := .type "tuple_iterator", data := .fields #[.ref l, .int 0 0] }).push { cls := .type "enumerate", data := .fields #[.none, .bool false, .ref s.heap.objs.size, rawInt 0, .none, .none] } }) :=
  .of_wp fun prog w A R s h => by
    obtain ⟨hp, g, d, tk, os⟩ := s; obtain ⟨hl, h⟩ := h
    have hsub := sub_enumerate
    have hL : Heap.IsTuple (Shared.heap ⟨hp, g, d, tk, os⟩) l items := ⟨_, hl, rfl, n, rfl⟩
    wp_walk using wpAny_loadPart' hl
    refine wpAny_stack_any fun st => wpAny_pure ?_
    split
    · rename_i c _ _ _ _ _
      cases (c == Value.type "enumerate")
      · wp_walk using wpAny_loadPart' hl, wpAny_pyIter_tuple hL
        exact ⟨_, rfl, h⟩
      · wp_walk using wpAny_loadPart' hl, wpAny_pyIter_tuple hL
        exact ⟨_, rfl, h⟩
    · wp_walk using wpAny_loadPart' hl, wpAny_pyIter_tuple hL
      exact ⟨_, rfl, h⟩
theorem tup_enumerate {prog : Program} {w : World} {A : Around} {E : Value → Shared → Prop} {s : Shared} {l : Addr} {items : Array Value} {Q : Value → Shared → Prop} (hL : s.heap.IsTuple l items)
    (h : ∀ h', IsEnum h' (s.heap.objs.size + 1) s.heap.objs.size 0 .none → h'.IsTupleIter s.heap.objs.size l 0 → h'.objs.size = s.heap.objs.size + 2 →
      (∀ b o, s.heap.get? b = some o → h'.get? b = some o) → Q (.ref (s.heap.objs.size + 1)) { s with heap := h' }) :
    wpAny (model prog w) A (call (.type "enumerate") [.ref l]) Q E s := by
  obtain ⟨⟨c, dct, dt, sl⟩, hl, hc, n, hd⟩ := hL
  replace hc : c = .type "tuple" := hc
  replace hd : dt = .seq items n := hd
  subst hc hd
  refine callType_new F.called_enumerate (by decide) (F.typeCall_enumerate_1 _) (F.newCall_enumerate_1 _) (fun obj => F.args_object_init_2 obj _) F.entry_enumerate_new
    (tup_meets l items n dct sl) ⟨hl, ?_⟩
  have hz : (s.heap.push { cls := .type "tuple_iterator", data := .fields #[.ref l, .int 0 0] }).objs.size = s.heap.objs.size + 1 := Heap.size_push ..
  show _ ∧ _
  rw [hz]
  have he : IsEnum ((s.heap.push { cls := .type "tuple_iterator", data := .fields #[.ref l, .int 0 0] }).push
      { cls := .type "enumerate", data := .fields #[.none, .bool false, .ref s.heap.objs.size, rawInt 0, .none, .none] }) (s.heap.objs.size + 1) s.heap.objs.size 0 .none := by
    have := Heap.get?_push_size (s.heap.push { cls := .type "tuple_iterator", data := .fields #[.ref l, .int 0 0] })
      (o := { cls := .type "enumerate", data := .fields #[.none, .bool false, .ref s.heap.objs.size, rawInt 0, .none, .none] }) rfl
    rw [hz] at this; exact this
  refine ⟨⟨_, he, rfl⟩, h _ he ⟨_, Heap.get?_push_of_some _ (Heap.get?_push_size _ rfl), rfl, rfl⟩ (by rw [Heap.size_push, hz]) fun b o x => Heap.get?_push_of_some _ (Heap.get?_push_of_some _ x)⟩
end Mine
end

section
open PySem PySem.W PySem.Spec PySem.Calls PyProof.Rows Builtin
set_option maxRecDepth 100000
namespace Mine
theorem valueAt_put_self {kvs : List (Str × Value)} {k : Str} {v : Value} : valueAt (stored kvs k v) k = some v := by
  unfold stored
  split
  · rename_i h
    induction kvs with
    | nil => simp at h
    | cons a r ih =>
      unfold valueAt at ih ⊢
      by_cases q : a.1 = k
      · rw [List.map_cons, if_pos q, List.find?_cons_of_pos (by simpa using q)]; rfl
      · rw [List.map_cons, if_neg q, List.find?_cons_of_neg (by simpa using q)]
        refine ih ?_
        simpa [q] using h
  · rename_i h
    unfold valueAt
    rw [List.find?_append]
    have e : kvs.find? (fun kv => decide (kv.1 = k)) = none := by
      rw [List.find?_eq_none]
      intro x hx
      simp only [List.any_eq_true, not_exists, not_and] at h
      exact h x hx
    rw [e]; simp
theorem valueAt_put_ne {kvs : List (Str × Value)} {k k' : Str} {v : Value} (hne : k' ≠ k) : valueAt (stored kvs k v) k' = valueAt kvs k' := by
  unfold stored
  split
  · rename_i h
    clear h
    induction kvs with
    | nil => rfl
    | cons a r ih =>
      unfold valueAt at ih ⊢
      by_cases q : a.1 = k
      · have z : ¬ a.1 = k' := fun z => hne (z.symm.trans q)
        rw [List.map_cons, if_pos q, List.find?_cons_of_neg (by simpa using z), List.find?_cons_of_neg (by simpa using z)]
        exact ih
      · rw [List.map_cons, if_neg q]
        by_cases z : a.1 = k'
        · rw [List.find?_cons_of_pos (by simpa using z), List.find?_cons_of_pos (by simpa using z)]
        · rw [List.find?_cons_of_neg (by simpa using z), List.find?_cons_of_neg (by simpa using z)]
          exact ih
  · unfold valueAt
    rw [List.find?_append]
    cases q : kvs.find? (fun kv => decide (kv.1 = k')) with
    | some x => rfl
    | none =>
      have z : ¬ k = k' := fun z => hne z.symm
      simp [z]
section
variable {prog : Program} {w : World} {A : Around} {s : Shared}
theorem comp_turns {R : Result → Shared → Prop} {kx vx iter : Expr} {xi xv : Str} {pi pv pt pos : Pos} {x1} {scope : Scope} {cenv : Env} {e it T D : Addr} {fs : Array Value} {nm : Nat → Str} {m : Str → Option Value}
    (hh : A.handled = none) (hxi : cenv.kindOf xi = some .local) (hxv : cenv.kindOf xv = some .local)
    (hp : (cenv.scope.kind == .class || (cenv.scope.kind == .module && cenv.locals != cenv.globals)) = false) (hx : xv ≠ xi)
    (hei : e ≠ it) (heC : e ≠ cenv.locals) (hiC : it ≠ cenv.locals) (hTC : T ≠ cenv.locals) (hTe : T ≠ e) (hTi : T ≠ it) (hDC : D ≠ cenv.locals) (hDe : D ≠ e) (hDi : D ≠ it) (hDT : D ≠ T)
    (he : IsEnum s.heap e it 0 .none) (hit : s.heap.IsTupleIter it T 0) (hT : s.heap.IsTuple T fs) (hn : s.heap.Ns cenv.locals m) (hD : s.heap.DictOf (strKind prog w) D []) (hfs : fs.size ≤ 1000)
    (hinj : ∀ i j, i < fs.size → j < fs.size → nm i = nm j → i = j)
    (key : ∀ i v s₂ m₂ E', fs[i]? = some v → s₂.heap.Ns cenv.locals m₂ → m₂ xv = some v → (∀ b o, b ≠ cenv.locals → b ≠ e → b ≠ it → b ≠ D → s.heap.get? b = some o → s₂.heap.get? b = some o) →
      wpAny (model prog w) A (eval kx cenv) (fun kv s₃ => (∃ t, kv = .str (nm i) t) ∧ Keeps s₂ s₃) E' s₂)
    (val : ∀ i tk s₂ m₂ E', s₂.heap.Ns cenv.locals m₂ → m₂ xi = some (.int i tk) → wpAny (model prog w) A (eval vx cenv) (fun vv s₃ => vv = .int i tk ∧ Keeps s₂ s₃) E' s₂)
    (hR : ∀ h' tk m' kvs, h'.Ns cenv.locals m' → h'.DictOf (strKind prog w) D kvs → (∀ j, j < fs.size → ∃ t, valueAt kvs (nm j) = some (.int j t)) →
      (∀ b o, b ≠ cenv.locals → b ≠ e → b ≠ it → b ≠ D → s.heap.get? b = some o → h'.get? b = some o) → R (.ok .next) { s with heap := h', toks := tk }) :
    codeAny (model prog w) A (.compLoop (.DictComp kx vx [⟨.Tuple [.Name xi pi, .Name xv pv] x1 pt, iter, [], 0⟩] scope pos) 0 (.ref e) (.ref D) cenv) R s := by
  refine codeAny_loop rfl
    (fun k s' => ∃ h' tk m' kvs i old, s' = { s with heap := h', toks := tk } ∧ IsEnum h' e it ((i : Nat) : Int) old ∧ h'.IsTupleIter it T i ∧ h'.IsTuple T fs ∧ h'.Ns cenv.locals m' ∧ h'.DictOf (strKind prog w) D kvs ∧
      (∀ j, j < i → ∃ t, valueAt kvs (nm j) = some (.int j t)) ∧ kvs.length ≤ i ∧ i ≤ fs.size ∧ k = fs.size + 1 - i ∧
      ∀ b o, b ≠ cenv.locals → b ≠ e → b ≠ it → b ≠ D → s.heap.get? b = some o → h'.get? b = some o) (fun n s' hI => ?_) (fs.size + 1)
    ⟨s.heap, s.toks, m, [], 0, .none, rfl, he, hit, hT, hn, hD, fun j hj => absurd hj (Nat.not_lt_zero _), Nat.le_refl _, Nat.zero_le _, rfl, fun _ _ _ _ _ _ x => x⟩
  show wpAny _ A ((compTurn _ 0 (.ref e) (.ref D) cenv).onRaise (fun x => do noteFrame x cenv; theTreesLotGoes x)) _ _ s'
  refine wpAny_noted ?_
  rw [compTurn_dict]
  obtain ⟨H, tk, m', kvs, i, old, rfl, he', hit', hT', hn', hD', hV, hlen, hi, rfl, hk⟩ := hI
  refine wpAny_bind (wpAny_standAt (wpAny_bind ?_))
  cases hv : fs[i]? with
  | none =>
    have hsz : i = fs.size := Nat.le_antisymm hi (by simpa using hv)
    refine tup_pyEnd hh he' hit' hT' hv fun h₁ he₁ => ?_
    refine wpAny_pure ?_
    exact hR h₁ tk m' kvs (hn'.extBut he₁ (Ne.symm hiC)) (hD'.extBut he₁ hDi) (hsz ▸ hV) fun b o hbC hbe hbi hbD x => he₁ b o hbi (hk b o hbC hbe hbi hbD x)
  | some v =>
    have hlt : i < fs.size := (Array.getElem?_eq_some_iff.mp hv).1
    have heH : e < H.objs.size := Heap.lt_size he'
    have hCH : cenv.locals < H.objs.size := hn'.lt
    obtain ⟨oi, hoi, _⟩ := id hit'
    obtain ⟨oT, hoT, _⟩ := id hT'
    have hiH : it < H.objs.size := Heap.lt_size hoi
    have hTH : T < H.objs.size := Heap.lt_size hoT
    obtain ⟨oD, hoD, _⟩ := Heap.dictOf_iff.mp hD'
    have hDH : D < H.objs.size := Heap.lt_size hoD
    refine tup_pyNext he' hit' hT' hv hei fun h₁ heo hit₁ ht₁ hz₁ hk₁ => ?_
    refine wpAny_bind ?_
    refine wpAny_letOwnedTupleGo_enum heo fun h₂ he₂ hs₂ => ?_
    replace hs₂ : Heap.SameBut e h₁ h₂ := hs₂
    have ht₂ : h₂.IsTuple H.objs.size #[.int i tk, v] := ⟨_, (hs₂.2 _ (Nat.ne_of_gt heH)).trans ht₁, rfl, _, rfl⟩
    have hz₂ : h₂.objs.size = H.objs.size + 1 := hs₂.1.trans hz₁
    refine wpAny_bind (wpAny_assign_Tuple hh ht₂ rfl rfl fun h₃ hx₃ => ?_)
    replace hx₃ : Heap.ExtBut h₂.objs.size h₂ h₃ := hx₃
    have old₃ : ∀ b o, b < H.objs.size → h₂.get? b = some o → h₃.get? b = some o := fun b o hb x => hx₃ b o (by rw [hz₂]; exact Nat.ne_of_lt (Nat.lt_succ_of_lt hb)) x
    have hn₃ : h₃.Ns cenv.locals m' := (hn'.at fun o x => hk₁ _ o (Ne.symm heC) (Ne.symm hiC) x).sameBut hs₂ (Ne.symm heC) |>.at fun o x => old₃ _ o hCH x
    show wpAny _ A (do holding [v] (assign (.Name xi pi) cenv (.int i tk)); do holding [] (assign (.Name xv pv) cenv v); pure ()) _ _ _
    refine wpAny_bind (wpAny_holding (wpAny_assign_Name (wpAny_storeName_local hxi hn₃ (fun h₄ hn₄ hs₄ => ?_) hp)))
    replace hs₄ : Heap.SameBut cenv.locals h₃ h₄ := hs₄
    refine wpAny_bind (wpAny_holding (wpAny_assign_Name (wpAny_storeName_local hxv hn₄ (fun h₅ hn₅ hs₅ => wpAny_pure ?_) hp)))
    replace hs₅ : Heap.SameBut cenv.locals h₄ h₅ := hs₅
    have up : ∀ b o, b ≠ cenv.locals → b < H.objs.size → h₂.get? b = some o → h₅.get? b = some o := fun b o hbC hb x =>
      hs₅.extBut b o hbC (hs₄.extBut b o hbC (old₃ b o hb x))
    have up' : ∀ b o, b ≠ cenv.locals → b ≠ e → b ≠ it → H.get? b = some o → h₅.get? b = some o := fun b o hbC hbe hbi x => up b o hbC (Heap.lt_size x) ((hs₂.2 b hbe).trans (hk₁ b o hbe hbi x))
    refine wpAny_bind (wpAny_pure ?_)
    refine wpAny_bind ?_
    refine wpAny_bind (wpAny_mono (key i v _ _ _ hv hn₅ (by simp) fun b o hbC hbe hbi hbD x => up' b o hbC hbe hbi (hk b o hbC hbe hbi hbD x)) (fun kv s₃ h₆ => ?_) fun _ _ x => x)
    obtain ⟨⟨t, rfl⟩, h₆, tk₆, rfl, hk₆⟩ := h₆
    refine wpAny_bind (wpAny_holding (wpAny_mono (val i tk _ _ _ (hn₅.keeps hk₆) (by simp [Ne.symm hx])) (fun vv s₃ h₇ => ?_) fun _ _ x => x))
    obtain ⟨rfl, h₇, tk₇, rfl, hk₇⟩ := h₇
    have up7 : ∀ b o, b ≠ cenv.locals → b ≠ e → b ≠ it → H.get? b = some o → h₇.get? b = some o := fun b o hbC hbe hbi x => hk₇ b o (hk₆ b o (up' b o hbC hbe hbi x))
    refine wpAny_bind (wpAny_standAt (wpAny_holding ?_))
    refine wpAny_dictSet_pairs (knd := strKind prog w) (hsz := by rw [sizeLine_eq]; omega) (strKind_is _ _ _ _) (hD'.at fun o x => up7 _ o hDC hDe hDi x) fun h₈ hl₈ hs₈ => ?_
    replace hs₈ : Heap.SameBut D h₇ h₈ := hs₈
    refine wpAny_pure ⟨rfl, fs.size + 1 - (i + 1), by omega, h₈, _, _, stored kvs (nm i) (.int i tk), i + 1, v, rfl, ?_, ?_, ?_, ((hn₅.keeps hk₆).keeps hk₇).sameBut hs₈ (Ne.symm hDC), hl₈, ?_, ?_, hlt, rfl, fun b o hbC hbe hbi hbD x => hs₈.extBut b o hbD (up7 b o hbC hbe hbi (hk b o hbC hbe hbi hbD x))⟩
    · have : ((i + 1 : Nat) : Int) = (i : Int) + 1 := by push_cast; rfl
      rw [this]; exact hs₈.extBut e _ (Ne.symm hDe) (hk₇ _ _ (hk₆ _ _ (up e _ heC heH he₂)))
    · obtain ⟨o, ho, r⟩ := hit₁.extBut hs₂.extBut (Ne.symm hei)
      exact ⟨o, hs₈.extBut it _ (Ne.symm hDi) (hk₇ _ _ (hk₆ _ _ (up it o hiC hiH ho))), r⟩
    · obtain ⟨o, ho, r⟩ := hT'
      exact ⟨o, hs₈.extBut T _ (Ne.symm hDT) (up7 T o hTC hTe hTi ho), r⟩
    · intro j hj
      by_cases q : j = i
      · subst q; exact ⟨tk, valueAt_put_self⟩
      · obtain ⟨t', ht'⟩ := hV j (by omega)
        exact ⟨t', (valueAt_put_ne fun z => q (hinj j i (by omega) hlt z)).trans ht'⟩
    · have := stored_length_le kvs (nm i) (.int i tk)
      omega
end
end Mine
end

section
open PySem PySem.W PySem.Spec PySem.Calls PyProof.Rows Builtin
set_option maxRecDepth 100000
namespace Mine
section
variable {prog : Program} {w : World} {A : Around} {E : Value → Shared → Prop} {s : Shared} {env : Env}
theorem comp_pairs {kx vx iter : Expr} {xi xv : Str} {pi pv pt pos : Pos} {x1} {scope : Scope} {cl : List (Str × Addr)} {T : Addr} {fs : Array Value} {nm : Nat → Str} {Q : Value → Shared → Prop}
    (hh : A.handled = none) (hclos : closureFor scope env = pure cl) (hcell : ∀ y ∈ scope.names, y.2 ≠ .cell) (hkind : scope.kind = .function)
    (hnames : ∀ y ∈ scope.names, y.2 = .local → scope.names.lookup y.1 = some .local) (hxi : scope.names.lookup xi = some .local) (hxv : scope.names.lookup xv = some .local) (hx : xv ≠ xi)
    (hfs : fs.size ≤ 1000) (hinj : ∀ i j, i < fs.size → j < fs.size → nm i = nm j → i = j)
    (h : wpAny (model prog w) A (eval iter env) (fun xval s₁ => ∃ e it, xval = .ref e ∧ e ≠ it ∧ T ≠ e ∧ T ≠ it ∧ IsEnum s₁.heap e it 0 .none ∧ s₁.heap.IsTupleIter it T 0 ∧ s₁.heap.IsTuple T fs ∧
      (∀ C i v s₂ m₂ E', fs[i]? = some v → s₂.heap.Ns C m₂ → m₂ xv = some v → (∀ b o, b ≠ e → b ≠ it → s₁.heap.get? b = some o → s₂.heap.get? b = some o) →
        wpAny (model prog w) A (eval kx (compEnvC scope cl C env)) (fun kv s₃ => (∃ t, kv = .str (nm i) t) ∧ Keeps s₂ s₃) E' s₂) ∧
      (∀ C i tk s₂ m₂ E', s₂.heap.Ns C m₂ → m₂ xi = some (.int i tk) → wpAny (model prog w) A (eval vx (compEnvC scope cl C env)) (fun vv s₃ => vv = .int i tk ∧ Keeps s₂ s₃) E' s₂) ∧
      (∀ D h' tk kvs, s₁.heap.get? D = none → h'.DictOf (strKind prog w) D kvs → (∀ j, j < fs.size → ∃ t, valueAt kvs (nm j) = some (.int j t)) →
        (∀ b o, b ≠ e → b ≠ it → s₁.heap.get? b = some o → h'.get? b = some o) → Q (.ref D) { s₁ with heap := h', toks := tk })) E s)
    (hs : ∀ x, foldedSetIterable iter env x = pure x) :
    wpAny (model prog w) A (eval (.DictComp kx vx [⟨.Tuple [.Name xi pi, .Name xv pv] x1 pt, iter, [], 0⟩] scope pos) env) Q E s := by
  rw [arm_eval_DictComp]
  refine wpAny_comprehension_free (use := none) rfl hs hclos hkind hnames (wpAny_mono h (fun xval s₂ h₁ => ?_) fun _ _ e => e)
  obtain ⟨e, it, rfl, hei, hTe, hTi, he, hit, hT, key, val, hQ⟩ := h₁
  refine wpAny_pyIter_enum he ?_
  refine wpAny_newObj_type (wpAny_newFunctionEnv hcell (by intro y hy; simp at hy) (fun h₁ hns₁ hsb₁ => ?_) hkind)
  dsimp only at hns₁ hsb₁ ⊢
  have hnew : (s₂.heap.push { cls := .type "dict", dict := none, data := .dict #[] }).DictOf (strKind prog w) s₂.heap.objs.size [] := Heap.DictOf.new s₂.heap
  generalize hH2 : s₂.heap.push { cls := .type "dict", dict := none, data := .dict #[] } = H2 at hns₁ hsb₁ hnew ⊢
  have hC : H2.objs.size = s₂.heap.objs.size + 1 := by rw [← hH2, Heap.size_push]
  have hDC : s₂.heap.objs.size ≠ H2.objs.size := by rw [hC]; exact Nat.ne_of_lt (Nat.lt_succ_self _)
  have below : ∀ b, b < s₂.heap.objs.size → b ≠ H2.objs.size ∧ b ≠ s₂.heap.objs.size := fun b hb => ⟨by rw [hC]; exact Nat.ne_of_lt (Nat.lt_succ_of_lt hb), Nat.ne_of_lt hb⟩
  have old : ∀ b o, s₂.heap.get? b = some o → h₁.get? b = some o := fun b o e => hsb₁.extBut b o (below b (Heap.lt_size e)).1 (Heap.get?_push_of_some _ (hH2 ▸ Heap.get?_push_of_some _ e))
  have hacc : h₁.DictOf (strKind prog w) s₂.heap.objs.size [] := hnew.at fun o e => hsb₁.extBut _ _ hDC (Heap.get?_push_of_some _ e)
  have fresh : ∀ a, s₂.heap.objs.size ≤ a → s₂.heap.get? a = none := fun a ha => by
    cases e : s₂.heap.get? a with
    | none => rfl
    | some o' => exact absurd (Heap.lt_size e) (Nat.not_lt.mpr ha)
  have he₁ : IsEnum h₁ e it 0 .none := old _ _ he
  obtain ⟨oi, hoi, ri⟩ := id hit
  obtain ⟨oT, hoT, rT⟩ := id hT
  have le := below e (Heap.lt_size he)
  have li := below it (Heap.lt_size hoi)
  have lT := below T (Heap.lt_size hoT)
  have loop : codeAny (model prog w) A (.compLoop (.DictComp kx vx [⟨.Tuple [.Name xi pi, .Name xv pv] x1 pt, iter, [], 0⟩] scope pos) 0 (.ref e) (.ref s₂.heap.objs.size) (compEnvC scope cl H2.objs.size env))
        (compPost (model prog w) A E none Q (.ref s₂.heap.objs.size) H2.objs.size) { s₂ with heap := h₁, toks := s₂.toks + ([] : List (Str × Value)).length } := by
    refine comp_turns (cenv := compEnvC scope cl H2.objs.size env) (s := { s₂ with heap := h₁, toks := s₂.toks + ([] : List (Str × Value)).length }) hh (lookup_relabel_local hxi) (lookup_relabel_local hxv) (by simp [compEnvC, relabel, hkind]) hx hei le.1 li.1 lT.1 hTe hTi hDC (Ne.symm le.2) (Ne.symm li.2) (Ne.symm lT.2)
      he₁ ⟨oi, old _ _ hoi, ri⟩ ⟨oT, old _ _ hoT, rT⟩ hns₁ hacc hfs hinj
      (fun i v s₃ m₃ E' hv hn hm hk => key _ i v s₃ m₃ E' hv hn hm fun b o hbe hbi e => hk b o (below b (Heap.lt_size e)).1 hbe hbi (below b (Heap.lt_size e)).2 (old b o e))
      (fun i tk s₃ m₃ E' hn hm => val _ i tk s₃ m₃ E' hn hm) fun h' tk m' kvs hn ha hV hk => ?_
    refine ⟨m', hn, fun h'' hs'' => hQ _ h'' tk kvs (fresh _ (Nat.le_refl _)) (ha.extBut hs''.extBut hDC) hV fun b o hbe hbi e => hs''.extBut b o (below b (Heap.lt_size e)).1 (hk b o (below b (Heap.lt_size e)).1 hbe hbi (below b (Heap.lt_size e)).2 (old b o e))⟩
  exact codeAny_compStart_dict loop (wpAny_pyIter_enum he₁ loop)
end
end Mine
end

section
open PySem PySem.W PySem.Spec PySem.Calls PyProof.Rows Builtin
set_option maxRecDepth 100000
namespace Mine
/-- the fields of a class: a tuple of tuples, the name at the second place -/
structure FieldT (h : Heap) (T : Addr) (fs : List Value) (nm : Nat → Str) : Prop where
  tup : h.IsTuple T fs.toArray
  each : ∀ i v, fs[i]? = some v → ∃ a its t, v = .ref a ∧ IsTup h a (List.toArray its) ∧ seqIndex? 1 its.length = some 1 ∧ its[1]? = some (.str (nm i) t)
  inj : ∀ i j, i < fs.length → j < fs.length → nm i = nm j → i = j
  short : fs.length ≤ 1000
section
variable {prog : Program} {w : World} {A : Around} {E : Value → Shared → Prop} {s : Shared} {env : Env} {h₀ : Heap} {L : Addr} {m : Str → Option Value} {news : List (Addr × Obj)}
abbrev nmK : Str := Str.ofString "k"
abbrev nmF : Str := Str.ofString "f"
/-- the place between the enumeration made and the comprehension done -/
def CompAt (prog : Program) (w : World) (A : Around) (scope : Scope) (cl : List (Str × Addr)) (env : Env) (p1 p2 p3 p4 : Pos) (ck : Nat) (T : Addr) (fs : List Value) (nm : Nat → Str) (Q : Value → Shared → Prop) (xval : Value) (s₁ : Shared) : Prop :=
  ∃ e it, xval = .ref e ∧ e ≠ it ∧ T ≠ e ∧ T ≠ it ∧ IsEnum s₁.heap e it 0 .none ∧ s₁.heap.IsTupleIter it T 0 ∧ s₁.heap.IsTuple T fs.toArray ∧
      (∀ C i v s₂ m₂ E', fs.toArray[i]? = some v → s₂.heap.Ns C m₂ → m₂ nmF = some v → (∀ b o, b ≠ e → b ≠ it → s₁.heap.get? b = some o → s₂.heap.get? b = some o) →
        wpAny (model prog w) A (eval (.Subscript (.Name nmF p1) (.Constant (.int 1) ck p2) p3) (compEnvC scope cl C env)) (fun kv s₃ => (∃ t, kv = .str (nm i) t) ∧ Keeps s₂ s₃) E' s₂) ∧
      (∀ C i tk s₂ m₂ E', s₂.heap.Ns C m₂ → m₂ nmK = some (.int i tk) → wpAny (model prog w) A (eval (.Name nmK p4) (compEnvC scope cl C env)) (fun vv s₃ => vv = .int i tk ∧ Keeps s₂ s₃) E' s₂) ∧
      (∀ D h' tk kvs, s₁.heap.get? D = none → h'.DictOf (strKind prog w) D kvs → (∀ j, j < fs.toArray.size → ∃ t, valueAt kvs (nm j) = some (.int j t)) →
        (∀ b o, b ≠ e → b ≠ it → s₁.heap.get? b = some o → h'.get? b = some o) → Q (.ref D) { s₁ with heap := h', toks := tk })
theorem keeps_refl (s : Shared) : Keeps s s := ⟨s.heap, s.toks, rfl, fun _ _ e => e⟩
theorem compAt_enum {scope : Scope} {cl : List (Str × Addr)} {p1 p2 p3 p4 : Pos} {ck : Nat} {T : Addr} {fs : List Value} {nm : Nat → Str} {Q : Value → Shared → Prop} (hkind : scope.kind = .function) (hxi : scope.names.lookup nmK = some .local) (hxv : scope.names.lookup nmF = some .local)
    (F : Fr h₀ L s.heap m) (N : News h₀ L s.heap news) (W : FieldT h₀ T fs nm)
    (k : ∀ D o h' tk kvs, Fr h₀ L h' m → News h₀ L h' ((D, o) :: news) → o.IsDictOf (strKind prog w) kvs → (∀ j, j < fs.length → ∃ t, valueAt kvs (nm j) = some (.int j t)) → Q (.ref D) { s with heap := h', toks := tk }) :
    wpAny (model prog w) A (call (.type "enumerate") [.ref T]) (CompAt prog w A scope cl env p1 p2 p3 p4 ck T fs nm Q) E s := by
  have hT : s.heap.IsTuple T fs.toArray := by obtain ⟨o, ho, r⟩ := W.tup; exact ⟨o, F.keep _ _ ho, r⟩
  refine tup_enumerate hT fun h' he hit hsz hk => ?_
  obtain ⟨oT, hoT, rT⟩ := id hT
  have lT : T < s.heap.objs.size := Heap.lt_size hoT
  refine ⟨_, _, rfl, Nat.succ_ne_self _, Nat.ne_of_lt (Nat.lt_succ_of_lt lT), Nat.ne_of_lt lT, he, hit, ⟨oT, hk _ _ hoT, rT⟩, ?_, ?_, ?_⟩
  · intro C i v s₂ m₂ E' hv hn hm hk2
    obtain ⟨a, its, t, rfl, hI, h1, h2⟩ := W.each i v (by simpa using hv)
    have hI2 : IsTup s₂.heap a (List.toArray its) := by
      obtain ⟨o, ho, r⟩ := hI
      have hs := F.keep _ _ ho
      exact ⟨o, hk2 a o (Nat.ne_of_lt (Nat.lt_succ_of_lt (Heap.lt_size hs))) (Nat.ne_of_lt (Heap.lt_size hs)) (hk _ _ hs), r⟩
    refine Subscript_ (wpAny_Name (wpAny_loadName_local hkind (lookup_relabel_local hxv) hn hm (wpAny_Constant_int ?_)))
    exact item_tupleL (s := { s₂ with toks := s₂.toks + 1 }) hI2 (by omega) (by omega) h1 h2 ⟨⟨t, rfl⟩, s₂.heap, _, rfl, fun _ _ e => e⟩
  · intro C i tk s₂ m₂ E' hn hm
    exact wpAny_Name (wpAny_loadName_local hkind (lookup_relabel_local hxi) hn hm ⟨rfl, keeps_refl _⟩)
  · intro D h2 tk kvs hnew hD hV hk2
    have keep : ∀ b o, s.heap.get? b = some o → h2.get? b = some o := fun b o e => hk2 b o (Nat.ne_of_lt (Nat.lt_succ_of_lt (Heap.lt_size e))) (Nat.ne_of_lt (Heap.lt_size e)) (hk _ _ e)
    obtain ⟨o, ho, hd⟩ := Heap.dictOf_iff.mp hD
    have F2 : Fr h₀ L h2 m := F.keeps keep
    have nD : s.heap.get? D = none := by
      cases q : s.heap.get? D with
      | none => rfl
      | some o' => rw [hk _ _ q] at hnew; cases hnew
    refine k D o h2 tk kvs F2 (fun p hp => ?_) hd (fun j hj => hV j (by simpa using hj))
    rcases List.mem_cons.mp hp with rfl | hp
    · refine ⟨ho, fun q => ?_, ?_⟩
      · obtain ⟨oL, _, _, hL, _⟩ := F.ns
        rw [← q, nD] at hL; cases hL
      · cases q : h₀.get? D with
        | none => rfl
        | some o' => rw [F.keep _ _ q] at nD; cases nD
    · exact ⟨keep _ _ (N p hp).1, (N p hp).2⟩
theorem m_comp {iter : Expr} {pi pv pt pos p1 p2 p3 p4 : Pos} {x1} {ck : Nat} {scope : Scope} {cl : List (Str × Addr)} {T : Addr} {fs : List Value} {nm : Nat → Str} {Q : Value → Shared → Prop}
    (hh : A.handled = none) (W : FieldT h₀ T fs nm) (hclos : closureFor scope env = pure cl) (hcell : ∀ y ∈ scope.names, y.2 ≠ .cell) (hkind : scope.kind = .function)
    (hnames : ∀ y ∈ scope.names, y.2 = .local → scope.names.lookup y.1 = some .local) (hxi : scope.names.lookup nmK = some .local) (hxv : scope.names.lookup nmF = some .local)
    (h : wpAny (model prog w) A (eval iter env) (CompAt prog w A scope cl env p1 p2 p3 p4 ck T fs nm Q) E s)
    (hs : ∀ x, foldedSetIterable iter env x = pure x) :
    wpAny (model prog w) A (eval (.DictComp (.Subscript (.Name nmF p1) (.Constant (.int 1) ck p2) p3) (.Name nmK p4) [⟨.Tuple [.Name nmK pi, .Name nmF pv] x1 pt, iter, [], 0⟩] scope pos) env) Q E s :=
  comp_pairs (T := T) (fs := fs.toArray) (nm := nm) hh hclos hcell hkind hnames hxi hxv (by decide) (by simpa using W.short) (fun i j hi hj => W.inj i j (by simpa using hi) (by simpa using hj)) h hs
end
end Mine
end

section
open PySem PySem.W PySem.Spec PySem.Calls PyProof.Rows Builtin
namespace Mine
section
variable {prog : Program} {w : World} {A : Around} {E : Value → Shared → Prop} {s : Shared} {K : Frag} {x C : Addr} {ox : Obj} {name : Str} {expr : Bool} {Q : Value → Shared → Prop} {h₀ : Heap} {L : Addr} {m : Str → Option Value} {es : List DictEntry} {n : Nat}
theorem get_own2 {v : Value} (F : Fr h₀ L s.heap m) (X₀ : K.In h₀) (I : InstAt s.heap x ox C (some (dictOf es n))) (hga : findIn K (.ref C) "__getattribute__" = some (some (.builtin "object.__getattribute__"))) (hh : hasDictIn K C = true)
    (ha : findIn K (.ref C) name = some none) (hl : getL name es = some (some v)) (hv : handedIn v = true) (h : Q v { s with toks := s.toks + 1 }) :
    wpAny (model prog w) A (getAttr (.ref x) name expr) Q E s :=
  get_value (X₀.keeps F.keep) I hga (findObj_own hh ha rfl hl) hv h
theorem findObj_miss {od : Obj} (hh : hasDictIn K C = true) (ha : findIn K (.ref C) name = some none) (hc : copiedNames.contains name = false) (hl : lookIn name od = some none) :
    findObj K C (some od) name = some .missing := by
  obtain ⟨cd, hc', hd⟩ := any_some hh
  unfold findObj
  have ho : W.ownOf cd (some od) name = some none := by unfold W.ownOf; rw [if_pos hd]; exact hl
  rw [hc', Option.bind_some, ha, Option.bind_some]
  simp only [Option.bind_some, ho, hc, Bool.false_and, Bool.false_eq_true, if_false]
theorem get_hook {fG : Addr} {od : Obj} (F : Fr h₀ L s.heap m) (X₀ : K.In h₀) (I : InstAt s.heap x ox C (some od)) (hga : findIn K (.ref C) "__getattribute__" = some (some (.builtin "object.__getattribute__")))
    (hf : findObj K C (some od) name = some .missing) (hk : findIn K (.ref C) "__getattr__" = some (some (.ref fG))) (hfn : typeIn K (.ref fG) = some (.type "function"))
    (h : wpAny (model prog w) A.in1 (call (.ref fG) [.ref x, .str name s.toks]) (fun v s' => handedIn v = true ∧ Q v s') (fun e s' => wpAny (model prog w) A (noteIf true (.ref x) (.str name s.toks) e) (fun _ s'' => E e s'') E s') { s with toks := s.toks + 1 }) :
    wpAny (model prog w) A (getAttr (.ref x) name expr) Q E s := by
  have X : K.In s.heap := X₀.keeps F.keep
  refine get_open X I hga ?_
  obtain ⟨hh', g, d, t, os⟩ := s
  have L0 := I.type (M := model prog w)
  have L1 := looks_find (M := model prog w) X I hf
  have L2 := looks_findIn (M := model prog w) X hk
  refine wpAny_bind (wpAny_pure (wpAny_bind (L0.at (wpAny_bind (L1.at (wpAny_bind (L2.at ?_)))))))
  show wpAny _ _ (Builtin.ObjectAttr.byHook (.ref x) (.str name t) (.ref fG)) _ _ _
  unfold Builtin.ObjectAttr.byHook
  refine wpAny_bind ((bind_fn (M := model prog w) X (.ref x) hfn).at (wpAny_bind (wpAny_mono h (fun v s' z => ?_) fun _ _ z => z)))
  refine wpAny_bind (wpAny_rule (wpAny_pure ?_))
  exact handed_on z.1 z.2
end
structure GetF (w : World) (C : Addr) : Prop where
  ga : findIn (hd.heap_39 w.params) (.ref C) "__getattribute__" = some (some (.builtin "object.__getattribute__"))
  hook : findIn (hd.heap_39 w.params) (.ref C) "__getattr__" = some (some (.ref 132))
  dict : hasDictIn (hd.heap_39 w.params) C = true
  m1 : findIn (hd.heap_39 w.params) (.ref C) (Str.ofString "manufacturer") = some none
  m2 : findIn (hd.heap_39 w.params) (.ref C) (Str.ofString "sentence_type") = some none
  m3 : findIn (hd.heap_39 w.params) (.ref C) (Str.ofString "data") = some none
theorem fn_132 {w : World} : typeIn (hd.heap_39 w.params) (.ref 132) = some (.type "function") := by kernel_rfl
structure ClsF (w : World) (C T : Addr) : Prop where
  mt : typeIn (hd.heap_39 w.params) (.ref C) = some (.type "type")
  reads : readsIn (hd.heap_39 w.params) C (.type "type") = true
  fld : findCls (hd.heap_39 w.params) (.ref C) (.type "type") "fields" = some (.val (.ref T))
theorem gf_342 {w : World} : GetF w 342 := ⟨by kernel_rfl, by kernel_rfl, by kernel_rfl, by kernel_rfl, by kernel_rfl, by kernel_rfl⟩
theorem gf_361 {w : World} : GetF w 361 := ⟨by kernel_rfl, by kernel_rfl, by kernel_rfl, by kernel_rfl, by kernel_rfl, by kernel_rfl⟩
theorem gf_323 {w : World} : GetF w 323 := ⟨by kernel_rfl, by kernel_rfl, by kernel_rfl, by kernel_rfl, by kernel_rfl, by kernel_rfl⟩
theorem gf_274 {w : World} : GetF w 274 := ⟨by kernel_rfl, by kernel_rfl, by kernel_rfl, by kernel_rfl, by kernel_rfl, by kernel_rfl⟩
theorem gf_294 {w : World} : GetF w 294 := ⟨by kernel_rfl, by kernel_rfl, by kernel_rfl, by kernel_rfl, by kernel_rfl, by kernel_rfl⟩
theorem gf_254 {w : World} : GetF w 254 := ⟨by kernel_rfl, by kernel_rfl, by kernel_rfl, by kernel_rfl, by kernel_rfl, by kernel_rfl⟩
theorem gf_402 {w : World} : GetF w 402 := ⟨by kernel_rfl, by kernel_rfl, by kernel_rfl, by kernel_rfl, by kernel_rfl, by kernel_rfl⟩
theorem gf_418 {w : World} : GetF w 418 := ⟨by kernel_rfl, by kernel_rfl, by kernel_rfl, by kernel_rfl, by kernel_rfl, by kernel_rfl⟩
theorem gf_382 {w : World} : GetF w 382 := ⟨by kernel_rfl, by kernel_rfl, by kernel_rfl, by kernel_rfl, by kernel_rfl, by kernel_rfl⟩
theorem gf_218 {w : World} : GetF w 218 := ⟨by kernel_rfl, by kernel_rfl, by kernel_rfl, by kernel_rfl, by kernel_rfl, by kernel_rfl⟩
theorem cf_342 {w : World} : ClsF w 342 339 := ⟨by kernel_rfl, by kernel_rfl, by kernel_rfl⟩
theorem cf_361 {w : World} : ClsF w 361 358 := ⟨by kernel_rfl, by kernel_rfl, by kernel_rfl⟩
theorem cf_402 {w : World} : ClsF w 402 399 := ⟨by kernel_rfl, by kernel_rfl, by kernel_rfl⟩
theorem cf_418 {w : World} : ClsF w 418 415 := ⟨by kernel_rfl, by kernel_rfl, by kernel_rfl⟩
theorem cf_294 {w : World} : ClsF w 294 291 := ⟨by kernel_rfl, by kernel_rfl, by kernel_rfl⟩
end Mine
end

section
open PySem PySem.W PySem.W.X PySem.Spec PySem.Calls PyProof.Rows
namespace Mine
local macro_rules | `(tactic| k_room) => `(tactic| ktr_room)
local macro_rules | `(tactic| units_room) => `(tactic| ktr_units)
local macro_rules | `(tactic| k_units) => `(tactic| ktr_units)
local macro_rules | `(tactic| walk_at "call builtin:len") => `(tactic| (k_here; (with_reducible show wpAny _ _ (call (Value.builtin "len") [Value.ref _]) _ _ _); k_dflt (refine' len_txt ?k1 ?k2 ?k3 ?_; (case k1 => first | is_list | exact News.isList (by k_asm) (by k_mem)); (case k2 => with_reducible assumption); (case k3 => omega); k_whole)))
local macro_rules | `(tactic| walk_at "subscriptTail") => `(tactic| (k_here; (with_reducible show wpAny _ _ (subscriptTail _ _ (Value.ref _) (Value.int _ _)) _ _ _); (with_unfolding_all refine' item_txt ?k1 ?k2 ?k3 ?k4 ?k5 ?_ ?k6 ?k7; (case k1 => first | is_list | exact News.isList (by k_asm) (by k_mem)); (case k2 => with_reducible assumption); (case k3 => omega); (case k4 => first | decide | omega); (case k5 => omega); (case k6 => with_unfolding_all rfl); (case k7 => intro _; with_unfolding_all rfl); k_whole); intro _))
variable {w : World} {mean : ExcName → Option Value} {mg mb : Str → Option Value} {A A₀ : Around} {cn : Str} {cs : Scope} {a : Addr} {ccd : Value} {cl : List (Str × Addr)} {outer : List Env} {base h₀ : Heap} {L : Addr} {m : Str → Option Value} {news : List (Addr × Obj)} {s : Shared} {Q E : Value → Shared → Prop}
local macro_rules | `(tactic| walk_at "m mem") => `(tactic| first | exact List.mem_cons_self | (refine List.mem_cons_of_mem _ ?_; walk_at "m mem") | (refine List.mem_append_right _ ?_; walk_at "m mem") | assumption)
local macro_rules | `(tactic| walk_at "getAttr ref") => `(tactic| (k_here; k_dflt (refine' get_own2 ?k1 ?k2 ?k3 ?k4 ?k5 ?k6 ?k7 ?k8 ?_; (case k1 => k_asm); (case k2 => k_asm); (case k3 => k_inst); (case k4 => exact GetF.ga (by assumption)); (case k5 => exact GetF.dict (by assumption)); (case k6 => first | exact GetF.m3 (by assumption) | exact GetF.m1 (by assumption) | exact GetF.m2 (by assumption)); (case k7 => assumption); (case k8 => k_handed); k_whole)))
local macro_rules | `(tactic| walk_at "getAttr ref") => `(tactic| (k_here; (with_reducible show wpAny _ _ (getAttr (Value.ref _) (Str.ofString "fields") _) _ _ _); k_dflt (refine' cls_val (mc := .type "type") (a := .ref _) ?k1 ?k2 ?k3 ?k4 ?k5 ?k6 ?_; (case k1 => k_asm); (case k2 => k_asm); (case k3 => exact ClsF.mt (by assumption)); (case k4 => exact ClsF.reads (by assumption)); (case k5 => exact ClsF.fld (by assumption)); (case k6 => exact rfl); k_whole)))
local macro_rules | `(tactic| walk_at "eval DictComp") => `(tactic| (k_here; k_dflt (refine' m_comp ?hh ?W ?c1 ?c2 ?c3 ?c4 ?c5 ?c6 ?_ ?hs; (case hh => rfl); (case W => assumption); (case c1 => rfl); (case c2 => decide); (case c3 => rfl); (case c4 => decide); (case c5 => rfl); (case c6 => rfl); (case hs => (intro _; rfl)); k_whole)))
local macro_rules | `(tactic| walk_at "call type:enumerate") => `(tactic| (k_here; k_dflt (refine' compAt_enum ?k1 ?k2 ?k3 ?F ?N ?W ?_; (case F => k_asm); (case N => k_asm); (case W => assumption); (case k1 => rfl); (case k2 => rfl); (case k3 => rfl); k_whole; intro D' o' h' tk' kvs' F' N' hd' hv'; (try k_sweep))))
theorem FieldT.keeps {h h' : Heap} {T : Addr} {fs : List Value} {nm : Nat → Str} (W : FieldT h T fs nm) (k : ∀ b o, h.get? b = some o → h'.get? b = some o) : FieldT h' T fs nm :=
  ⟨(let ⟨o, ho, r⟩ := W.tup; ⟨o, k _ _ ho, r⟩), fun i v e => (let ⟨a, its, t, e1, e2, e3⟩ := W.each i v e; ⟨a, its, t, e1, IsTup.keeps e2 k, e3⟩), W.inj, W.short⟩
theorem m_item {prog : Program} {w : World} {A : Around} {E : Value → Shared → Prop} {s : Shared} {h₀ : Heap} {L d : Addr} {news : List (Addr × Obj)} {o : Obj} {kvs : List (Str × Value)} {nm : Nat → Str} {i n : Nat} {tk : Tok} {Q : Value → Shared → Prop} (N : News h₀ L s.heap news) (hp : (d, o) ∈ news) (hd : o.IsDictOf (strKind prog w) kvs)
    (hv : ∀ j, j < n → ∃ t, valueAt kvs (nm j) = some (.int j t)) (hi : i < n) (h : ∀ t, Q (.int i t) { s with toks := s.toks + 1 }) :
    wpAny (model prog w) A (getItem (.ref d) (.str (nm i) tk)) Q E s := by
  obtain ⟨t, ht⟩ := hv i hi
  have hD := kda_dict N hp hd
  exact wpAny_getItem_of (strKind_is _ _ _ _) hD.mapOf ht (h t)
theorem m_field {prog : Program} {w : World} {A : Around} {E : Value → Shared → Prop} {s : Shared} {h₀ : Heap} {L T : Addr} {m : Str → Option Value} {value slice : PySem.Expr} {fs : List Value} {nm : Nat → Str} {i : Nat} {u : Tok} {v : Value} {Q : Value → Shared → Prop} (F : Fr h₀ L s.heap m) (W : FieldT h₀ T fs nm) (hi : i < fs.length) (hf : fs[i]? = some v) (h : Q v s)
    (hs : subscripted slice false (.ref T) (.int i u) = operate [.ref T, .int i u] (getItem (.ref T) (.int i u))) (hg : ∀ r, letTemporaryGo value (.ref T) r = pure ()) :
    wpAny (model prog w) A (subscriptTail value slice (.ref T) (.int i u)) Q E s := by
  have hT : IsTup s.heap T fs.toArray := by obtain ⟨o, ho, r⟩ := W.tup; exact ⟨o, F.keep _ _ ho, r⟩
  have hl := W.short
  refine item_tupleL hT (by omega) (by omega) (j := i) ?_ hf h hs hg
  unfold seqIndex?
  simp
  omega
local macro_rules | `(tactic| walk_at "getItem ref str") => `(tactic| (k_here; k_dflt (refine m_item (by k_asm) (by k_mem) (by assumption) (by assumption) (by assumption) ?_); intro _))
local macro_rules | `(tactic| walk_at "subscriptTail") => `(tactic| (k_here; (with_reducible show wpAny _ _ (subscriptTail _ _ (Value.ref _) (Value.int _ _)) _ _ _); k_dflt (refine m_field (by k_asm) (by assumption) (by assumption) (by assumption) ?_ (by with_unfolding_all rfl) (by intro _; with_unfolding_all rfl))))
theorem m_len2 {prog : Program} {w : World} {A : Around} {E : Value → Shared → Prop} {s : Shared} {h₀ : Heap} {L a : Addr} {m : Str → Option Value} {u v : Value} {Q : Value → Shared → Prop} (F : Fr h₀ L s.heap m) (hI : IsTup h₀ a #[u, v]) (h : Q (.int 2 (s.toks + 1)) { s with toks := s.toks + 1 + 1 }) : wpAny (model prog w) A (call (.builtin "len") [.ref a]) Q E s :=
  len_tuple (IsTup.keeps hI F.keep) (by show ((2 : Nat) : Int) < 2 ^ 63; decide) h
theorem m_len3 {prog : Program} {w : World} {A : Around} {E : Value → Shared → Prop} {s : Shared} {h₀ : Heap} {L a : Addr} {m : Str → Option Value} {u v x : Value} {Q : Value → Shared → Prop} (F : Fr h₀ L s.heap m) (hI : IsTup h₀ a #[u, v, x]) (h : Q (.int 3 (s.toks + 1)) { s with toks := s.toks + 1 + 1 }) : wpAny (model prog w) A (call (.builtin "len") [.ref a]) Q E s :=
  len_tuple (IsTup.keeps hI F.keep) (by show ((3 : Nat) : Int) < 2 ^ 63; decide) h
theorem m_at2 {prog : Program} {w : World} {A : Around} {E : Value → Shared → Prop} {s : Shared} {h₀ : Heap} {L a : Addr} {m : Str → Option Value} {value slice : PySem.Expr} {u v x : Value} {tk : Tok} {Q : Value → Shared → Prop} (F : Fr h₀ L s.heap m) (hI : IsTup h₀ a #[u, v, x]) (h : Q x s)
    (hs : subscripted slice false (.ref a) (.int 2 tk) = operate [.ref a, .int 2 tk] (getItem (.ref a) (.int 2 tk))) (hg : ∀ r, letTemporaryGo value (.ref a) r = pure ()) : wpAny (model prog w) A (subscriptTail value slice (.ref a) (.int 2 tk)) Q E s :=
  item_tuple (IsTup.keeps hI F.keep) (by decide) (by decide) (j := 2) (by show seqIndex? 2 3 = some 2; decide) rfl h hs hg
theorem retV_end {h₀ : Heap} {L : Addr} {m : Str → Option Value} {news : List (Addr × Obj)} {p : Addr × Obj} {s : Shared} {Q : Value → Shared → Prop} {d : Dat} {r : Value} {h' : Heap} {tk' : Nat} (ret : RetV h₀ L m news s Q d) (F : Fr h₀ L h' m) (N : News h₀ L h' (p :: news)) (e : DatIn [] r d) : Q r { s with heap := h', toks := tk' } := ret _ _ _ F (news_1 N) e
section
variable {ws : List Str} {i : Nat} {t : Tok}
theorem ga_1 (h : (i : Int) < ws.length) : DatIn [] (.str (ws.getD (i : Int).toNat Str.empty) t) (readD ws false i) := by
  unfold readD; rw [if_pos h]; exact .str _ _
theorem ga_2 (h : ¬ (i : Int) < ws.length) : DatIn [] (.str (Str.ofString "") t) (readD ws false i) := by
  unfold readD; rw [if_neg h]; exact .str _ _
end
local macro_rules | `(tactic| walk_at "call builtin:len") => `(tactic| (k_here; k_dflt (first | refine m_len2 (by k_asm) (by assumption) ?_ | refine m_len3 (by k_asm) (by assumption) ?_)))
local macro_rules | `(tactic| walk_at "subscriptTail") => `(tactic| (k_here; (with_reducible show wpAny _ _ (subscriptTail _ _ (Value.ref _) (Value.int 2 _)) _ _ _); k_dflt (refine m_at2 (by k_asm) (by assumption) ?_ (by with_unfolding_all rfl) (by intro _; with_unfolding_all rfl))))
local macro_rules | `(tactic| walk_at "m endV") => `(tactic| ((with_reducible rename RetV _ _ _ _ _ _ _ => kret); (refine' retV_end kret ?f ?n ?e; (case f => k_asm); (case n => k_asm); (case e => first | exact ga_1 (by assumption) | exact ga_2 (by assumption)))))
set_option maxRecDepth 100000 in
set_option maxHeartbeats 8000000 in
theorem c_gaS2 {es : List DictEntry} {x dx l Kl Tf fa : Addr} {vs : List Value} {n nd i : Nat} {t3 : Tok} {ws : List Str} {fs : List Value} {nm : Nat → Str} {u1 u2 : Value} (C : Cx w mean mg mb A A₀ base h₀ outer cn cs a ccd cl L m ((x, instObj Kl dx) :: (dx, dictOf es nd) :: (l, listOf vs.toArray n) :: news) s.heap 10) (hD : getL (Str.ofString "data") es = some (some (.ref l))) (GF : GetF w Kl) (CF : ClsF w Kl Tf) (W : FieldT h₀ Tf fs nm) (hS : StrsAre vs ws) (hb : ws.length ≤ 10) (hi : i < fs.length) (hf : fs[i]? = some (.ref fa)) (hI : IsTup h₀ fa #[u1, u2])
    (ret : RetV h₀ L m ((x, instObj Kl dx) :: (dx, dictOf es nd) :: (l, listOf vs.toArray n) :: news) s Q (readD ws false i)) :
    wpAny (model PySem.Challenge.rw_ez0290_01.row.prog w) A (call (.ref 132) [.ref x, .str (nm i) t3]) Q E s := by
  w_top off
  k_with_none
  obtain ⟨B, F, X, N, T, hk, hA, hh, hdp, hun⟩ := C
  obtain ⟨hd, dp, fr, gd, un⟩ := A
  dsimp only at hA hh hdp hun
  subst hA hh
  revert X; k_fill; intro X
  refine wpAny_call ?_
  k_dflt (refine' code_def (binds := [(Str.ofString "self", .ref x), (Str.ofString "name", .str (nm i) t3)]) ?k1 ?k2 ?k3 ?k4 ?k5 ?kA ?kF ?kK ?k6 ?k7 ?k8 ?k9 ?kB ?_ ?c2 ?c3 ?c4 ?c5; (case kA => exact rfl); (case kF => exact rfl); (case kK => assumption); (case k1 => k_asm); (case k2 => k_asm); (case k3 => k_asm); (case k4 => k_asm); (case k5 => k_asm); (case k6 => k_is); (case k7 => k_is); (case k8 => ktr_room); (case k9 => exact BindsTo.of_eq rfl); (case c5 => decide); (case kB => exact locs rfl); (case c2 => exact rfl); (case c3 => exact rfl); (case c4 => exact rfl); k_whole; intro g' L' h' FG' F' N' B' X' T'; (try dsimp only); (try k_fold))
  have W' := FieldT.keeps W FG'.keep
  have hI' := IsTup.keeps hI FG'.keep
  clear W hI
  k_steps
  all_goals walk_at "m endV"
end Mine
end

section
open PySem PySem.W PySem.Spec PySem.Calls PyProof.Rows
open Sem (wp)
set_option maxRecDepth 100000
namespace Mine
section
variable {M : Model} {A : Around} {E : Value → Shared → Prop} {s : Shared} {env : Env}
theorem wpC_of_eq {α : Type} {t : Sem α} {a : α} {Q : α → Shared → Prop} (e : t = pure a) (h : Q a s) : wpC M A t Q E s := e ▸ wpC_pure h
theorem wpC_eq {α : Type} {t t' : Sem α} {Q : α → Shared → Prop} (e : t = t') (h : wpC M A t' Q E s) : wpC M A t Q E s := e ▸ h
theorem wpC_keep {α : Type} {vs : List Value} {m : Sem α} {Q : α → Shared → Prop} (h : wpC M A m Q E s) : wpC M A (m.keep vs) Q E s :=
  fun Γ p hΓ hc => by rw [Sem.wp_keep]; exact h Γ p hΓ hc
theorem wpC_execs_nil {Q : Flow → Shared → Prop} (h : Q .next s) : wpC M A (execs [] env) Q E s := fun _ _ _ _ => h
theorem wpC_execs_cons {st rest} {Q : Flow → Shared → Prop}
    (h : wpC M A (exec st env) (fun f s' => match f with | .next => wpC M A (execs rest env) Q E s' | f => Q f s') E s) :
    wpC M A (execs (st :: rest) env) Q E s := by
  rw [execs_cons]
  refine wpC_bind (wpC_mono h (fun f s' h' => ?_) fun _ _ x => x)
  cases f with
  | next => exact h'
  | _ => exact wpC_pure h'
theorem wp_execs_app {Γ : PySem.Ctx} {l₂ : List Stmt} {Q : Flow → Pos → Shared → Prop} {E : Value → Pos → Shared → Prop} : ∀ {l₁ : List Stmt} {p : Pos} {s : Shared},
    wp M Γ (execs l₁ env) (fun f p' s' => match f with | .next => wp M Γ (execs l₂ env) Q E p' s' | f => Q f p' s') E p s → wp M Γ (execs (l₁ ++ l₂) env) Q E p s := by
  intro l₁
  induction l₁ with
  | nil => exact fun h => h
  | cons st rest ih =>
    intro p s h
    rw [execs_cons, Sem.wp_bind'] at h
    rw [List.cons_append, execs_cons, Sem.wp_bind']
    refine Sem.wp_mono M Γ _ (fun f p' s' h3 => ?_) (fun _ _ _ z => z) _ _ h
    cases f with
    | next => exact ih h3
    | _ => exact h3
theorem wpC_execs_app {l₁ l₂ : List Stmt} {Q : Flow → Shared → Prop}
    (h : wpAny M A (execs l₁ env) (fun f s' => match f with | .next => wpC M A (execs l₂ env) Q E s' | f => Q f s') E s) : wpC M A (execs (l₁ ++ l₂) env) Q E s := fun Γ p hΓ hc => by
  refine wp_execs_app (Sem.wp_mono M Γ _ (fun f p' s' h3 => ?_) (fun _ _ _ z => z) _ _ (h Γ p hΓ))
  cases f with
  | next => exact h3 Γ p' hΓ hc
  | _ => exact h3
theorem wpC_If {test body orelse pos} {Q : Flow → Shared → Prop}
    (h : wpC M A (isTrue test env (eval test env)) (fun b s₂ => if b then wpC M A (execs body env) Q E s₂ else wpC M A (execs orelse env) Q E s₂) E s) :
    wpC M A (exec (.If test body orelse pos) env) Q E s := by
  rw [exec_If]
  refine wpC_bind (wpC_standAt (wpC_bind (wpC_mono h (fun b s₂ h₂ => ?_) fun _ _ x => x)))
  cases b <;> exact h₂
theorem wpC_Return {e pos} {Q : Flow → Shared → Prop} (h : wpC M A (eval e env) (fun v => Q (.ret v)) E s) : wpC M A (exec (.Return (some e) pos) env) Q E s := by
  rw [exec_Return_some]
  exact wpC_bind (wpC_standAt (wpC_bind (wpC_mono h (fun _ _ x => wpC_pure x) fun _ _ x => x)))
theorem wpC_Expr {e pos} {Q : Flow → Shared → Prop} (h : wpC M A (eval e env) (fun v s' => match v with | .ref _ => False | _ => Q .next s') E s)
    (hi : interactive env = false := by rfl) (hs : swapsWith e none pos.line env = pure false := by rfl) : wpC M A (exec (.Expr e pos) env) Q E s := by
  rw [exec_Expr env e pos hi hs]
  refine wpC_bind (wpC_standAt (wpC_bind (wpC_mono h (fun v s' h' => ?_) fun _ _ x => x)))
  have hv : ∀ a, v ≠ .ref a := fun a hva => by subst hva; exact h'
  rw [dropValue_plain hv]
  refine wpC_pure ?_
  cases v <;> first | exact h' | exact (hv _ rfl).elim
theorem wpC_runOwn {c : Code} {h : Option Value} {Q : Flow → Shared → Prop}
    (hc : codeC M (A.mark h) c (fun r s' => match r with | .ok f => Q f s' | .error e => cameBackBy M A env E e s') s) (hnb : h ≠ some byPass := by intro x; cases x) :
    wpC M A (runOwn c env h) Q E s := by
  unfold runOwn
  exact wpC_onRaise (wpC_mono (wpC_run hc hnb) (fun _ _ x => x) fun _ _ x => wpC_of x)
theorem wpC_For {target iter body orelse pos} {Q : Flow → Shared → Prop}
    (h : wpC M A (eval iter env) (fun x s₁ => wpC M A (pyIter x) (fun it s₂ =>
      codeC M A (.forLoop target it body orelse env) (fun r s' => match r with | .ok f => Q f s' | .error e => cameBackBy M A env E e s') s₂) E s₁) E s)
    (hs : ∀ x, foldedSetIterable iter env x = pure x := by intro _; rfl) :
    wpC M A (exec (.For target iter body orelse pos) env) Q E s := by
  rw [exec_For]
  exact wpC_bind (wpC_standAt (wpC_bind (wpC_mono h (fun x s₁ h₁ => wpC_bind (wpC_of_eq (hs x) (wpC_bind (wpC_standAt (wpC_bind (wpC_holding
    (wpC_mono h₁ (fun it s₂ h₂ => wpC_runOwn h₂) fun _ _ h' => h'))))))) fun _ _ h' => h')))
theorem wpC_Try {body orelse : List Stmt} {h₀ : ExceptHandler} {hs : List ExceptHandler} {pos : Pos} {Q : Flow → Shared → Prop}
    (h : wpC M A (execs body env) (fun f s₁ => match f with | .next => wpC M A (execs orelse env) Q E s₁ | f => Q f s₁)
      (fun e s₁ => wpAny M A (noteFrame e env) (fun _ s₂ => wpAny M A (setFlight e none) (fun _ s₃ => wpAny M A (handleBy e env (h₀ :: hs)) Q E s₃) E s₂) E s₁) s) :
    wpC M A (exec (.Try body (h₀ :: hs) orelse [] pos) env) Q E s := by
  rw [arm_exec_Try]
  refine wpC_bind (wpC_standAt ?_)
  unfold tryStmt
  simp only [List.isEmpty_nil, if_true, List.isEmpty_cons, Bool.false_and, Bool.false_eq_true, if_false]
  refine wpC_bind (wpC_attempt (wpC_mono h (fun f s₁ h₁ => ?_) fun e s₁ h₁ => ?_))
  · cases f <;> first | exact h₁ | exact wpC_pure h₁
  · exact wpC_of (wpAny_bind (wpAny_mono h₁ (fun _ _ h₂ => wpAny_bind h₂) fun _ _ x => x))
theorem wpC_spliced_nil {Q : List Value → Shared → Prop} (h : Q [] s) : wpC M A (spliced []) Q E s := wpC_pure h
theorem wpC_spliced_cons {x : Sem Value} {rest : List (Bool × Sem Value)} {Q : List Value → Shared → Prop}
    (h : wpC M A x (fun v s₁ => wpC M A (spliced rest) (fun vs s₂ => Q (v :: vs) s₂) E s₁) E s) : wpC M A (spliced ((false, x) :: rest)) Q E s := by
  rw [spliced]
  refine wpC_bind (wpC_mono h (fun v s₁ h₁ => ?_) fun _ _ x => x)
  simp only [Bool.false_eq_true, if_false]
  exact wpC_bind (wpC_pure (wpC_bind (wpC_holding (wpC_mono h₁ (fun vs s₂ h₂ => wpC_pure h₂) fun _ _ x => x))))
theorem wpC_args_nil {pos : Pos} {Q : List Value → Shared → Prop} (h : Q [] s) : wpC M A (spliced (backTo pos (starEach [] env))) Q E s := wpC_spliced_nil h
theorem wpC_args_cons {e : Expr} {rest : List Expr} {pos : Pos} {Q : List Value → Shared → Prop}
    (h : wpC M A (eval e env) (fun v s₁ => wpC M A (spliced (backTo pos (starEach rest env))) (fun vs s₂ => Q (v :: vs) s₂) E s₁) E s)
    (he : starEach (e :: rest) env = (false, eval e env) :: starEach rest env := by rfl) : wpC M A (spliced (backTo pos (starEach (e :: rest) env))) Q E s := by
  rw [he]; exact wpC_spliced_cons h
theorem wpC_evalArgs_plain {f : Value} {x : Sem Value} {rest : List (Bool × Sem Value)} {Q : Args → Shared → Prop}
    (h : wpC M A (spliced ((false, x) :: rest)) (fun vs s' => Q ⟨vs, []⟩ s') E s) : wpC M A (evalArgs f true ((false, x) :: rest) []) Q E s := by
  unfold evalArgs
  show wpC M A (spliced ((false, x) :: rest) >>= _) Q E s
  refine wpC_bind (wpC_mono h (fun vs s' h' => ?_) fun _ _ x => x)
  refine wpC_holding ?_
  exact wpC_bind (wpC_pure (wpC_bind (wpC_pure (wpC_pure h'))))
theorem wpC_ite {α : Type} {c : Prop} [Decidable c] {a b : Sem α} {Q : α → Shared → Prop} (ha : wpC M A a Q E s) (hb : wpC M A b Q E s) : wpC M A (if c then a else b) Q E s := by split <;> assumption
theorem wpC_ite' {α : Type} {c : Prop} [Decidable c] {a b : Sem α} {Q : α → Shared → Prop} (h : if c then wpC M A a Q E s else wpC M A b Q E s) : wpC M A (if c then a else b) Q E s := by split <;> simp_all
theorem wpC_tail {t : Sem Value} {Q : Value → Shared → Prop} (ht : wpC M A t Q E s) : wpC M A (t >>= fun r => holding [r] point >>= fun _ => pure r) Q E s :=
  wpC_bind (wpC_mono ht (fun r s₂ hr => wpC_bind (wpC_holding (wpC_point (wpC_pure hr)))) fun _ _ x => x)
theorem wpC_callWith_builtin {pos : Pos} {id : String} {first : List Value} {args : List (Bool × Sem Value)} {Q : Value → Shared → Prop} (hplain : args.any (·.1) = false)
    (h : wpC M A (evalArgs (.builtin id) true args []) (fun a s₁ => wpC M A (call (.builtin id) (first ++ a.pos) a.kw) Q E s₁) E s) :
    wpC M A (callWith pos (.builtin id) first args []) Q E s := by
  unfold callWith
  refine wpC_bind (wpC_holding (wpC_mono h (fun a s₁ h₁ => wpC_bind (wpC_standAt ?_)) fun _ _ x => x))
  simp only [hplain, List.any_nil, Bool.or_false]
  refine wpC_bind (wpC_pure ?_)
  exact wpC_tail h₁
theorem wpC_callWith_function {pos : Pos} {a : Addr} {first : List Value} {args : List (Bool × Sem Value)} {Q : Value → Shared → Prop}
    (h : wpC M A (evalArgs (.ref a) true args []) (fun x s₁ => (∃ o fd, s₁.heap.get? a = some o ∧ o.data = .func fd) ∧ wpC M A (call (.ref a) (first ++ x.pos) x.kw) Q E s₁) E s) :
    wpC M A (callWith pos (.ref a) first args []) Q E s := by
  unfold callWith
  refine wpC_bind (wpC_holding (wpC_mono h (fun x s₁ h₁ => wpC_bind (wpC_standAt ?_)) fun _ _ x => x))
  obtain ⟨⟨o, fd, ho, hd⟩, hcl⟩ := h₁
  cases hs : args.any (·.1) <;> simp only [List.any_nil, Bool.or_false] <;>
    refine wpC_bind (m := keeperOf (.ref a)) ?_ <;> refine wpC_of ?_ <;> unfold keeperOf <;>
    refine wpAny_bind (wpAny_load ho ?_) <;> rw [hd] <;> refine wpAny_pure ?_
  ·
    first
      | refine wpC_ite' ?_
      | skip
    split <;> first
      | exact wpC_tail hcl
      | exact wpC_tail (by unfold callMarked; exact wpC_keep hcl)
  ·
    first
      | exact wpC_tail (by unfold callMarked; exact wpC_keep hcl)
      | exact wpC_tail hcl
theorem wpC_callWith_type {pos : Pos} {T : String} {first : List Value} {args : List (Bool × Sem Value)} {Q : Value → Shared → Prop} (hplain : args.any (·.1) = false)
    (h : wpC M A (evalArgs (.type T) true args []) (fun a s₁ => wpC M A (call (.type T) (first ++ a.pos) a.kw) Q E s₁) E s) :
    wpC M A (callWith pos (.type T) first args []) Q E s := by
  unfold callWith
  refine wpC_bind (wpC_holding (wpC_mono h (fun a s₁ h₁ => wpC_bind (wpC_standAt ?_)) fun _ _ x => x))
  simp only [hplain, List.any_nil, Bool.or_false]
  refine wpC_bind (m := keeperOf (.type T)) (wpC_pure ?_)
  exact wpC_tail (by first | exact h₁ | (unfold operate; refine wpC_bind (wpC_holding (wpC_mono h₁ (fun r s₂ hr => ?_) fun _ _ x => x)); exact fun Γ p _ _ => by rw [Sem.wp_bind', Sem.wp_release]; exact hr))
theorem wpC_callF {pos : Pos} {f : Addr} {e : Expr} {rest : List Expr} {Q : Value → Shared → Prop}
    (h : wpC M A (spliced (backTo pos (starEach (e :: rest) env))) (fun vs s₁ => (∃ o fd, s₁.heap.get? f = some o ∧ o.data = .func fd) ∧ wpC M A (call (.ref f) vs) Q E s₁) E s)
    (he : starEach (e :: rest) env = (false, eval e env) :: starEach rest env := by rfl) :
    wpC M A (callWith pos (.ref f) [] (backTo pos (starEach (e :: rest) env)) []) Q E s := by
  rw [he] at h ⊢
  exact wpC_callWith_function (wpC_evalArgs_plain h)
theorem wpC_callB {pos : Pos} {id : String} {first : List Value} {e : Expr} {rest : List Expr} {Q : Value → Shared → Prop}
    (h : wpC M A (spliced (backTo pos (starEach (e :: rest) env))) (fun vs s₁ => wpC M A (call (.builtin id) (first ++ vs)) Q E s₁) E s)
    (he : starEach (e :: rest) env = (false, eval e env) :: starEach rest env := by rfl)
    (hplain : (backTo pos (starEach rest env)).any (·.1) = false := by rfl) :
    wpC M A (callWith pos (.builtin id) first (backTo pos (starEach (e :: rest) env)) []) Q E s := by
  rw [he] at h ⊢
  exact wpC_callWith_builtin (by show (false || (backTo pos (starEach rest env)).any (·.1)) = false; rw [hplain]; rfl) (wpC_evalArgs_plain h)
theorem wpC_callT {pos : Pos} {T : String} {e : Expr} {rest : List Expr} {Q : Value → Shared → Prop}
    (h : wpC M A (spliced (backTo pos (starEach (e :: rest) env))) (fun vs s₁ => wpC M A (call (.type T) vs) Q E s₁) E s)
    (he : starEach (e :: rest) env = (false, eval e env) :: starEach rest env := by rfl)
    (hplain : (backTo pos (starEach rest env)).any (·.1) = false := by rfl) :
    wpC M A (callWith pos (.type T) [] (backTo pos (starEach (e :: rest) env)) []) Q E s := by
  rw [he] at h ⊢
  exact wpC_callWith_type (by show (false || (backTo pos (starEach rest env)).any (·.1)) = false; rw [hplain]; rfl) (wpC_evalArgs_plain h)
theorem wpC_Call {func : Expr} {args : List Expr} {pos : Pos} {Q : Value → Shared → Prop}
    (h : wpC M A (eval func env) (fun f s₁ => wpC M A (callWith pos f [] (backTo pos (starEach args env)) []) Q E s₁) E s)
    (he : eval (.Call func args [] pos) env = (do callWith pos (← eval func env) [] (backTo pos (starEach args env)) (backToKw pos (keywordEach [] env))) := by rfl) :
    wpC M A (eval (.Call func args [] pos) env) Q E s := by
  rw [he]; exact wpC_bind h
theorem wpC_MethodCall {o : Expr} {name : Str} {apos pos : Pos} {args : List Expr} {pl : Sem Bool} {Q : Value → Shared → Prop}
    (h : wpC M A (eval o env) (fun ov s₁ => wpC M A (getMethod ov name pl) (fun fx s₂ => wpC M A (callWith pos fx.1 fx.2 (backTo pos (starEach args env)) []) Q E s₂) E s₁) E s)
    (he : eval (.Call (.Attribute o name apos) args [] pos) env = (do
      let ov ← eval o env
      standAt apos.atName
      let (f, first) ← holding [ov] (getMethod ov name pl)
      callWith pos f first (backTo pos (starEach args env)) []) := by rfl) :
    wpC M A (eval (.Call (.Attribute o name apos) args [] pos) env) Q E s := by
  rw [he]
  refine wpC_bind (wpC_mono h (fun ov s₁ h₁ => wpC_bind (wpC_standAt (wpC_bind (wpC_holding (wpC_mono h₁ (fun fx s₂ h₂ => ?_) fun _ _ x => x))))) fun _ _ x => x)
  exact h₂
theorem wpC_List {elts : List Expr} {pos : Pos} {Q : Value → Shared → Prop}
    (h : wpC M A (spliced (backTo pos (starEach elts env))) (fun vs s₁ => wpC M A (newList vs) Q E s₁) E s) : wpC M A (eval (.List elts pos) env) Q E s := by
  rw [arm_eval_List]
  exact wpC_bind (wpC_standAt (wpC_bind h))
theorem wpC_Attribute {value : Expr} {attr : Str} {pos : Pos} {Q : Value → Shared → Prop}
    (h : wpC M A (eval value env) (fun o s₁ => wpC M A (getAttr o attr true) Q E s₁) E s) (hb : attributeBase value attr env (eval value env) = eval value env := by rfl)
    (hg : ∀ o r, letTemporaryGo value o r = pure () := by intro _ _; rfl) : wpC M A (eval (.Attribute value attr pos) env) Q E s := by
  have e : eval (.Attribute value attr pos) env = (do
    let o ← attributeBase value attr env (eval value env)
    standAt pos.atName
    let r ← holding [o] (getAttr o attr true)
    letTemporaryGo value o r
    pure r) := rfl
  rw [e, hb]
  exact wpC_bind (wpC_mono h (fun o s₁ h₁ => wpC_bind (wpC_standAt (wpC_bind (wpC_holding (wpC_mono h₁ (fun r s₂ h₂ => wpC_bind (wpC_of_eq (hg o r) (wpC_pure h₂))) fun _ _ x => x))))) fun _ _ x => x)
end
section
variable {prog : Program} {w : World} {A : Around} {E : Value → Shared → Prop} {R : Result → Shared → Prop} {s : Shared}
theorem codeC_func {body env}
    (h : wpC (model prog w) (A.deeper env) (execs body env) (fun f s' => R (.ok (.ret (match f with | .ret v => v | _ => .none))) s')
      (fun e s' => wpAny (model prog w) (A.deeper env) (leaving env e) (fun _ s'' => R (.error e) s'') (fun e' s'' => R (.error e') s'') s') s) :
    codeC (model prog w) A (.func body env) R s := by
  refine codeC_of_tree ?_
  show wpC _ (A.deeper env) (do point; match ← (execs body env).onRaise (leaving env) with | .ret v => ret v | _ => ret .none) _ _ s
  refine wpC_bind (wpC_point (wpC_bind (wpC_onRaise (wpC_mono h (fun f s' h' => ?_) fun _ _ h' => wpC_of h'))))
  cases f <;> exact wpC_pure h'
theorem codeC_call_function {a : Addr} {args : Args} {o : Obj} {fd : FuncData} {body : List Stmt} (hroom : A.depth < recursionLimit)
    (ho : s.heap.get? a = some o)
    (hd' : o.data = .func fd) (hco : fd.scope.isCoroutine = false) (hgen : fd.scope.isGenerator = false) (hbody : fd.body = .stmts body) (hcd : s.heap.CodeRec fd.code fd.qualname)
    (h : wpAny (model prog w) A.in1 (bindArgs fd args) (fun binds s₁ =>
      wpAny (model prog w) A.in1 (newFunctionEnv fd.scope fd.globals fd.closure binds (fd.qualname ++ ".<locals>.") (some a) fd.code none fd.builtins)
        (fun env s₂ => s₂.heap.NoLimit ∧ codeC (model prog w) A (.func body env) R s₂) (fun e s' => R (.error e) s') s₁) (fun e s' => R (.error e) s') s) :
    codeC (model prog w) A (.call (.ref a) args) R s := by
  refine codeC_of_tree ?_
  show wpC _ A.in1 (callAny (.ref a) args) _ _ s
  refine wpC_of ?_
  simp only [callAny]
  refine wpAny_bind (wpAny_load ho ?_)
  obtain ⟨c, oc, vs, tq, hc, hoc, hdc, hq⟩ := hcd
  simp only [hd', callFunction, hco, hgen, hbody, hc]
  rw [hc] at h
  refine wpAny_bind (m := field (.ref c) 1) (wpAny_field hoc hdc hq (wpAny_bind (wpAny_pure ?_)))
  exact wpAny_bind (wpAny_mono h (fun binds s₁ h₁ => wpAny_bind (wpAny_mono h₁ (fun env s₂ h₂ => wpAny_bind (wpAny_enterFrame h₂.1 hroom
    (wpAny_pure (And.intro rfl h₂.2)))) fun _ _ h' => h')) fun _ _ h' => h')
theorem codeC_call_def {a : Addr} {o : Obj} {fd : FuncData} {body : List Stmt} {args : Args} {binds : List (Str × Value)}
    (hroom : A.depth < recursionLimit) (ho : s.heap.get? a = some o) (hdata : o.data = .func fd) (hlim : s.heap.NoLimit) (hcd : s.heap.CodeRec fd.code fd.qualname)
    (hbody : fd.body = .stmts body) (hbind : BindsTo s fd args binds)
    (hcell : ∀ x ∈ fd.scope.names, x.2 ≠ .cell) (hloc : ∀ x ∈ binds, fd.scope.names.lookup x.1 = some .local)
    (h : ∀ h₀, h₀.Ns s.heap.objs.size (fun x => binds.reverse.lookup x) → (∀ b o, s.heap.get? b = some o → h₀.get? b = some o) →
      wpC (model prog w) (A.deeper (callEnv fd s.heap.objs.size a)) (execs body (callEnv fd s.heap.objs.size a)) (fun f s' => R (.ok (.ret (match f with | .ret v => v | _ => .none))) s')
        (fun e s' => wpAny (model prog w) (A.deeper (callEnv fd s.heap.objs.size a)) (leaving (callEnv fd s.heap.objs.size a) e) (fun _ s'' => R (.error e) s'') (fun e' s'' => R (.error e') s'') s')
        { s with heap := h₀, toks := s.toks + binds.length })
    (hco : fd.scope.isCoroutine = false := by rfl) (hgen : fd.scope.isGenerator = false := by rfl) (hk : fd.scope.kind = .function := by rfl) :
    codeC (model prog w) A (.call (.ref a) args) R s := by
  refine codeC_call_function hroom ho hdata hco hgen hbody hcd (hbind _ _ _ _ ?_)
  refine wpAny_newFunctionEnv hcell hloc (fun h₀ hns₀ hsb₀ => ⟨hlim.fresh _ hsb₀, codeC_func (h h₀ hns₀ fun b o e => ?_)⟩) hk
  exact hsb₀.extBut b o (Nat.ne_of_lt (Heap.lt_size e)) (Heap.get?_push_of_some _ e)
theorem codeC_block {stmts : List Stmt} {env : Env} (h : wpC (model prog w) A (execs stmts env) (fun f s' => R (.ok f) s') (notedBy (model prog w) A env fun e s' => R (.error e) s') s) : codeC (model prog w) A (.block stmts env) R s := by
  refine codeC_of_tree ?_
  show wpC _ _ (do return Fin.done (← (execs stmts env).onRaise (fun x => do noteFrame x env; theTreesLotGoes x))) _ _ s
  refine wpC_bind (wpC_onRaise (wpC_mono h (fun f s' h' => wpC_pure h') fun _ _ hx => wpC_of (wpAny_bind (wpAny_mono hx (fun _ _ e => wpAny_theTreesLotGoes e) fun _ _ e => e))))
theorem codeC_loop' {c : Code} (hq : c.quiet = true) (I : Nat → Shared → Prop)
    (turn : ∀ n s, I n s → wpC (model prog w) (A.under c) ((model prog w).den c)
      (fun fin s' => match fin with
        | .done f => R (.ok f) s'
        | .again c' => (c' = c ∧ ∃ m, m < n ∧ I m s') ∨ (c'.quiet = true ∧ codeC (model prog w) A c' R s')) (fun e s' => R (.error e) s') s)
    (n : Nat) (h : I n s) : codeC (model prog w) A c R s := by
  induction n using Nat.strongRecOn generalizing s with
  | ind n ih =>
    refine codeC_of_tree (wpC_mono (turn n s h) (fun fin s' hf => ?_) fun _ _ h' => h')
    cases fin with
    | done f => exact hf
    | again c' =>
      rcases hf with ⟨rfl, m, hm, hI⟩ | hf
      · exact ⟨hq, ih m hm hI⟩
      · exact hf
theorem codeC_forLoop {target it body orelse env} (I : Nat → Shared → Prop)
    (turn : ∀ n s, I n s → wpC (model prog w) A (pyNext it) (fun r s₁ => match r with
      | none => wpC (model prog w) A (execs orelse env) (fun f s₃ => R (.ok f) s₃) (notedBy (model prog w) A env fun e s' => R (.error e) s') s₁
      | some v => wpC (model prog w) A (letOwnedTupleGo target it v) (fun _ s₁' => wpC (model prog w) A (assign target env v) (fun _ s₂ => wpC (model prog w) A (execs body env) (fun f s₃ => match f with
          | .next | .cont => ∃ m, m < n ∧ I m s₃
          | .brk => R (.ok .next) s₃
          | .ret v => R (.ok (.ret v)) s₃) (notedBy (model prog w) A env fun e s' => R (.error e) s') s₂) (notedBy (model prog w) A env fun e s' => R (.error e) s') s₁') (notedBy (model prog w) A env fun e s' => R (.error e) s') s₁) (notedBy (model prog w) A env fun e s' => R (.error e) s') s)
    (n : Nat) (h : I n s) : codeC (model prog w) A (.forLoop target it body orelse env) R s := by
  refine codeC_loop' rfl I (fun n s hI => ?_) n h
  show wpC _ _ ((forTurn target it body orelse env).onRaise (fun x => do noteFrame x env; theTreesLotGoes x)) _ _ s
  refine wpC_onRaise (wpC_mono (Q := _) (E' := _) (E := notedBy (model prog w) A env fun e s' => R (.error e) s') ?_ (fun _ _ x => x) fun _ _ hx => wpC_of (wpAny_bind (wpAny_mono hx (fun _ _ e => wpAny_theTreesLotGoes e) fun _ _ e => e)))
  simp only [forTurn]
  refine wpC_bind (wpC_standAt (wpC_bind (wpC_onRaise (wpC_mono (turn n s hI) (fun r s₁ h₁ => ?_) fun _ _ h' => wpC_standAt h'))))
  cases r with
  | none => exact wpC_pure (.inr ⟨rfl, codeC_block h₁⟩)
  | some v =>
    refine wpC_bind (wpC_mono h₁ (fun _ s₁' h₁' => ?_) fun _ _ h' => h')
    refine wpC_bind (wpC_mono h₁' (fun _ s₂ h₂ => wpC_bind (wpC_mono h₂ (fun f s₃ h₃ => ?_) fun _ _ h' => h')) fun _ _ h' => h')
    cases f with
    | next => exact wpC_pure (.inl ⟨rfl, h₃⟩)
    | cont => exact wpC_pure (.inl ⟨rfl, h₃⟩)
    | brk => exact wpC_pure h₃
    | ret v => exact wpC_pure h₃
end
end Mine
end

section
open PySem PySem.W PySem.Spec PySem.Calls PyProof.Rows
open Sem (wp)
set_option maxRecDepth 100000
set_option maxHeartbeats 4000000
namespace Mine
open PySem.W.KIN Builtin Builtin.Str
section
variable {prog : Program} {w : World} {A : Around} {E : Value → Shared → Prop} {s : Shared}
theorem len_shown (a : PySem.Str) : (Str.ofString (toString "invalid literal for int() with base " ++ toString 10 ++ toString ": ") ++ (⟨a.cps.extract 0 200⟩ : PySem.Str)).length ≤ 400 := by
  have h1 : (Str.ofString (toString "invalid literal for int() with base " ++ toString 10 ++ toString ": ")).length ≤ 100 := by decide +kernel
  have h2 : (⟨a.cps.extract 0 200⟩ : PySem.Str).length ≤ 200 := by
    show (a.cps.extract 0 200).size ≤ 200
    rw [Array.size_extract]
    omega
  rw [PySem.Str.length_append]
  omega
theorem own_VE (args : List Value) : ownMembersOf (.type "ValueError") args = #[] := by
  unfold ownMembersOf
  split <;> first | rfl | (rename_i h; revert h; decide) | simp_all
theorem int_textC {v : Value} {text : List Nat} {Q : Value → Shared → Prop} {x : Str} {t : Tok} (hv : v = .str x t) (hh : A.handled = none)
    (hs : (text.takeWhile (· != 0)).length ≤ 640) (hr : (int_private% "readNumeral") 0 10 (text.takeWhile (· != 0)) = (int_private% "Numeral.invalid")) (hl : (reprText x).length ≤ 1000)
    (hE : ∀ h' tk e, Heap.NewExc s.heap h' e "ValueError" → E (.ref e) { s with heap := h', toks := tk }) :
    wpC (model prog w) A ((int_private% "intFromText") v text 10) Q E s := by
  subst hv
  obtain ⟨hp, g, d, tk, os⟩ := s
  conv => enter [3]; whnf
  generalize Nat.decLe (List.takeWhile (fun x => x != 0) text).length 640 = dec
  cases dec with
  | isFalse h => exact absurd hs h
  | isTrue h =>
    refine wpC_bind (wpC_pure ?_)
    dsimp only
    rw [hr]
    dsimp only
    repeat (first
      | with_reducible refine wpC_mark ?_
      | (with_reducible refine wpAny_pyRepr_str ?_ (by rw [sizeLine_eq]; omega))
      | (with_reducible refine wpAny_mkStr ?_ (by rw [sizeLine_eq]; exact Nat.le_trans (len_shown _) (by decide)))
      | ((with_reducible show wpAny _ _ _ _ _ _); refine wpAny_of_eq (a := none) (by rfl) ?_)
      | ((with_reducible show wpAny _ _ _ _ _ _); wp_step)
      | with_reducible refine wpC_bind ?_
      | with_reducible refine wpC_rule ?_
      | ((with_reducible show wpC _ _ _ _ _ _); simp only [Option.isSome_none, Bool.false_and, Bool.false_eq_true, if_false])
      | with_reducible refine wpC_of ?_)
    simp only [raiseNew]
    refine wpAny_bind (wpAny_handled ?_)
    rw [hh]
    refine wpAny_bind (wpAny_pure (wpAny_throw ?_))
    refine hE _ _ _ ⟨fun b o e => Heap.get?_push_of_some _ (Heap.get?_push_of_some _ e), ?_, ⟨_, _, Heap.get?_push_size _ rfl, rfl, by dsimp only; rw [own_VE]; rfl⟩⟩
    cases q : Heap.get? hp _ with
    | none => rfl
    | some o => exact absurd (Heap.lt_size (Heap.get?_push_of_some _ q)) (Nat.lt_irrefl _)
end
end Mine
end

section
open PySem PySem.W PySem.Spec PySem.Calls PyProof.Rows
open Sem (wp)
set_option maxRecDepth 100000
set_option maxHeartbeats 4000000
namespace Mine
open PySem.W.KIN Builtin Builtin.Str PySem.NumText
section
variable {prog : Program} {w : World} {A : Around} {E : Value → Shared → Prop} {s : Shared}
theorem wpC_ifF {α : Type} {c : Prop} [Decidable c] {a b : Sem α} {Q : α → Shared → Prop} (hc : ¬ c) (h : wpC (model prog w) A b Q E s) : wpC (model prog w) A (if c then a else b) Q E s := by rw [if_neg hc]; exact h
theorem wpC_ifT {α : Type} {c : Prop} [Decidable c] {a b : Sem α} {Q : α → Shared → Prop} (hc : c) (h : wpC (model prog w) A a Q E s) : wpC (model prog w) A (if c then a else b) Q E s := by rw [if_pos hc]; exact h
theorem wpC_doneRet {m : Sem Value} {Q : Value → Shared → Prop} (h : wpC (model prog w) A m Q E s) : wpC (model prog w) A m Q E s := h
theorem newC_int {x : Str} {u : Tok} {Q : Fin → Shared → Prop} (hh : A.handled = none)
    (hs : (numSeenOf x).length ≤ 640) (hr : (int_private% "readNumeral") 0 10 (numSeenOf x) = (int_private% "Numeral.invalid")) (hl : (reprText x).length ≤ 1000)
    (hE : ∀ h' tk e, Heap.NewExc s.heap h' e "ValueError" → E (.ref e) { s with heap := h', toks := tk }) :
    wpC (model prog w) A (Builtin.«int.__new__» ⟨[.type "int", .str x u], []⟩) Q E s := by
  obtain ⟨hp, g, d, tk, os⟩ := s
  have f1 := F.conv_sub_int
  have f2 := F.madeHere_int
  have f3 := str_int
  have f4 := str_idx
  have f5 := str_trunc
  have f6 : typeOf (.str x u) = pure (.type "str") := rfl
  have hk := Hid.mk (And.intro hs hr)
  have hE' := Hid.mk hE
  clear hs hr hE
  unfold Builtin.«int.__new__»
  repeat (any_goals (first
      | ((with_reducible show wpC _ _ ((int_private% "intFromText") _ _ _) _ _ _); (refine int_textC rfl hh hk.out.1 hk.out.2 hl ?_))
      | ((with_reducible show wpAny _ _ _ _ _ _); wp_step)
      | with_reducible refine wpC_bind ?_
      | with_reducible refine wpC_rule ?_
      | (with_reducible refine wpC_ifF ?hc ?_; (case hc => first | exact Bool.false_ne_true | (simp; done)))
      | (with_reducible refine wpC_ifT ?hc ?_; (case hc => first | rfl | (simp; done)))
      | ((with_reducible show wpC _ _ (isType _) _ _ _); with_reducible refine wpC_of ?_)
      | ((with_reducible show wpC _ _ (isSubtype _ _) _ _ _); with_reducible refine wpC_of ?_)
      | ((with_reducible show wpC _ _ (Bind.madeHere _ _) _ _ _); with_reducible refine wpC_of ?_)
      | ((with_reducible show wpC _ _ (forIn [] _ _) _ _ _); with_reducible refine wpC_of ?_)))
  refine wpC_bind (m := (int_private% "intFromObject") (.str x u)) ?_
  refine wpC_bind (m := callSpecial? (.str x u) "__int__") (wpC_of ?_)
  repeat (any_goals (first | assumption | ((with_reducible show wpAny _ _ _ _ _ _); wp_step)))
  refine wpC_bind (m := specialOf (.str x u) "__index__") (wpC_of ?_)
  repeat (any_goals (first | assumption | ((with_reducible show wpAny _ _ _ _ _ _); wp_step)))
  refine wpC_bind (m := specialOf (.str x u) "__trunc__") (wpC_of ?_)
  repeat (any_goals (first | assumption | ((with_reducible show wpAny _ _ _ _ _ _); wp_step)))
  refine wpC_bind (m := (int_private% "numeralText?") (.str x u)) (wpC_of ?_)
  repeat (any_goals (first | assumption | ((with_reducible show wpAny _ _ _ _ _ _); wp_step)))
  refine int_textC (text := numTextOf x) rfl hh hk.out.1 hk.out.2 hl ?_
  exact hE'.out
end
end Mine
end

section
open PySem PySem.W PySem.Spec PySem.Calls PyProof.Rows
open Sem (wp)
set_option maxRecDepth 100000
set_option maxHeartbeats 4000000
namespace Mine
open PySem.W.KIN Builtin Builtin.Str PySem.NumText
section
variable {prog : Program} {w : World} {A : Around} {E : Value → Shared → Prop} {R : Result → Shared → Prop} {s : Shared}
theorem codeC_builtin {id : String} {args : Args} {b : Builtin} (hb : entryFor table id = some b)
    (h : wpC (model prog w) (A.under (.builtin id args)) (b args)
      (fun fin s' => match fin with | .done f => R (.ok f) s' | .again c' => c'.quiet = true ∧ codeC (model prog w) A c' R s') (fun e s' => R (.error e) s') s) :
    codeC (model prog w) A (.builtin id args) R s := by
  refine codeC_of_tree ?_
  show wpC _ _ (match entryFor table id with | some b => b args | none => unsupported ((withoutEnding? id "#data").getD id)) _ _ s
  rw [hb]; exact h
theorem codeC_call_builtin {id : String} {args : Args} {b : Builtin} (hq : plainId id = true) (hb : entryFor table id = some b)
    (h : wpC (model prog w) A.in1 (checkBuiltinCall id args) (fun _ s₁ => wpC (model prog w) A.in1 (b args)
      (fun fin s' => match fin with | .done f => R (.ok f) s' | .again c' => c'.quiet = true ∧ codeC (model prog w) A c' R s') (fun e s' => R (.error e) s') s₁)
      (fun e s' => R (.error e) s') s) : codeC (model prog w) A (.call (.builtin id) args) R s := by
  refine codeC_of_tree ?_
  show wpC _ A.in1 (do checkBuiltinCall id args; again (.builtin id args)) _ _ s
  refine wpC_bind (wpC_mono h (fun _ s₁ h₁ => wpC_pure (And.intro (plainId_quiet hq args) (codeC_builtin hb ?_))) fun _ _ h' => h')
  rw [Around.under_plainId hq args]; exact h₁
theorem callC_intBad {x : Str} {u : Tok} {Q : Value → Shared → Prop} (hh : A.handled = none)
    (hs : (numSeenOf x).length ≤ 640) (hr : (int_private% "readNumeral") 0 10 (numSeenOf x) = (int_private% "Numeral.invalid")) (hl : (reprText x).length ≤ 1000)
    (hE : ∀ h' tk e, Heap.NewExc s.heap h' e "ValueError" → E (.ref e) { s with heap := h', toks := tk }) :
    wpC (model prog w) A (call (.type "int") [.str x u]) Q E s := by
  refine wpC_call (codeC_of_tree ?_)
  show wpC _ _ (callAny (.type "int") _) _ _ _
  refine wpC_pure ⟨Code.quiet_builtin _ (by decide +kernel), codeC_builtin F.entry_type_call ?_⟩
  rw [Around.under_plain (weight_type_call_type "int" [.str x u] []) (units_type_call_type "int" [.str x u] [])]
  have ft := F.called_int
  obtain ⟨c, tl, hmro⟩ := ft.mro
  have hmade := ft.made
  have h1 := ft.notType
  have h2 := ft.canCreate
  have hct := F.typeCall_int_1 (.str x u)
  unfold Builtin.«type.__call__»
  repeat (first
      | (refine wpC_ifF (c := (Value.type "int" == Value.type "type") = true) (by rw [h1]; exact Bool.false_ne_true) ?_)
      | (with_reducible refine wpC_ifF ?hc ?_; (case hc => first | exact Bool.false_ne_true | (rw [h2]; exact Bool.false_ne_true)))
      | with_reducible refine wpC_rule ?_
      | ((with_reducible show wpC _ _ (checkTypeCall _ _) _ _ _); refine wpC_of_eq hct ?_)
      | ((with_reducible show wpC _ _ (mroOf _) _ _ _); refine wpC_of_eq hmro ?_)
      | ((with_reducible show wpC _ _ (Bind.madeBy _) _ _ _); refine wpC_of_eq hmade ?_)
      | with_reducible refine wpC_holding ?_
      | with_reducible refine wpC_call ?_
      | with_reducible refine wpC_pure ?_
      | with_reducible refine wpC_bind ?_)
  refine codeC_call_builtin ft.plain F.entry_int_new (wpC_of_eq (F.newCall_int_1 (.str x u)) (wpC_mono (newC_int (Q := fun _ _ => False) (E := E) hh hs hr hl hE) (fun _ _ q => q.elim) fun _ _ q => q))
end
end Mine
end

section
open PySem PySem.W PySem.Spec PySem.Calls PyProof.Rows
open Sem (wp)
set_option maxRecDepth 100000
namespace Mine
section
variable {prog : Program} {w : World} {A₀ : Around} {E : Value → Shared → Prop} {s' : Shared} {base g h : Heap} {outer : List Env} {L a e : Addr} {m : Str → Option Value} {name : Str} {scope : Scope} {cd : Value}
  {b₀ : Stmt} {suite : List Stmt} {pos : Pos} {rest : List ExceptHandler} {Q : Flow → Shared → Prop} {news : List (Addr × Obj)} {KF : Frag}
  {p : Program} {loose : List Str} {mean : ExcName → Option Value} {mg mb : Str → Option Value}
/-- a fresh exception is caught by a bare clause of the frame that it came up in -/
theorem catch_bare {cls : String} (K : Below A₀ base outer g) (hx : Heap.NewExc h s'.heap e cls) (F : Fr g L h m) (N : News g L h news) (XB : KF.In base) (TB : Top p loose mean mg mb base)
    (D : KtsDicts (outer.filterMap (·.frame)) g)
    (k : ∀ h' g', KtsTurn (outer.filterMap (·.frame)) g g' → Fr g' L h' m → News g' L h' news → Below A₀ base outer g' → KF.In g' → Top p loose mean mg mb g' → KtsDicts (outer.filterMap (·.frame)) g' →
      wpAny (model prog w) ((A₀.deeper (envOf name scope L a cd)).mark (some (.ref e))) (execs (b₀ :: suite) (envOf name scope L a cd)) Q E { s' with heap := h' })
    (hE : PassesOwnAt (model prog w) ((A₀.deeper (envOf name scope L a cd)).mark (some (.ref e))) (A₀.deeper (envOf name scope L a cd)) (envOf name scope L a cd) E) (hk : scope.kind = .function := by rfl) :
    wpAny (model prog w) (A₀.deeper (envOf name scope L a cd)) (noteFrame (.ref e) (envOf name scope L a cd))
      (fun _ s₂ => wpAny (model prog w) (A₀.deeper (envOf name scope L a cd)) (setFlight (.ref e) none) (fun _ s₃ =>
        wpAny (model prog w) (A₀.deeper (envOf name scope L a cd)) (handleBy (.ref e) (envOf name scope L a cd) (.ExceptHandler none none (b₀ :: suite) pos :: rest)) Q E s₃) E s₂) E s' := by
  have K' := K.push (name := name) (a := a) (cd := cd) F hk
  have hin : ∀ env ∈ (envOf name scope L a cd :: outer), ∀ b, env.frame = some b → b ∈ (envOf name scope L a cd :: outer).filterMap (·.frame) := fun env he b hb => List.mem_filterMap.mpr ⟨env, he, hb⟩
  have hme : envOf name scope L a cd ∈ envOf name scope L a cd :: outer := .head _
  have st : base.StaysIn (hideAll h ((envOf name scope L a cd :: outer).filterMap (·.frame))) := fun b o q => hideAll_get _ (K'.stays b o q) fun hm => by
    rw [(K'.frames.mem hm).1] at q; cases q
  have nm : ∀ b o, g.get? b = some o → b ∉ news.map (·.1) := fun b o e q => by
    obtain ⟨p, hp, rfl⟩ := List.mem_map.mp q
    rw [(N p hp).2.2] at e; cases e
  have nL : L ∉ news.map (·.1) := fun q => by
    obtain ⟨p, hp, e⟩ := List.mem_map.mp q
    exact (N p hp).2.1 e
  obtain ⟨oL, es, ep, hL, hLd, hLk, hLf⟩ := id F.ns
  have hLg := hideAll_get (news.map (·.1)) hL nL
  have FG : Fr g L (hideAll h (news.map (·.1))) m := ⟨⟨oL, es, ep, hLg, hLd, hLk, hLf⟩, fun b o e => hideAll_get _ (F.keep b o e) (nm b o e), by rw [show g.objs.size ≤ L ↔ g.objs.size ≤ L from Iff.rfl]; exact F.above⟩
  have sg : ∀ b o, (hideAll h (news.map (·.1))).get? b = some o → b ∉ (envOf name scope L a cd :: outer).filterMap (·.frame) → (hideAll h ((envOf name scope L a cd :: outer).filterMap (·.frame))).get? b = some o :=
    fun b o q nm => hideAll_get _ (of_hideAll _ q) nm
  have hl : ∀ q ∈ news, (hideAll h ((envOf name scope L a cd :: outer).filterMap (·.frame))).get? q.1 = some q.2 ∧ (hideAll h (news.map (·.1))).get? q.1 = none ∧ base.get? q.1 = none := fun q hq => by
    refine ⟨hideAll_get _ (N q hq).1 fun hm => ?_, hideAll_none _ (List.mem_map_of_mem hq), fresh_of_stays K.stays (N q hq).2.2⟩
    obtain ⟨env, he, hf⟩ := List.mem_filterMap.mp hm
    rcases List.mem_cons.mp he with rfl | he
    · exact (N q hq).2.1 (Option.some.inj hf).symm
    · obtain ⟨o, ho, _⟩ := (K.frames.mem (List.mem_filterMap.mpr ⟨env, he, hf⟩)).2
      rw [(N q hq).2.2] at ho; cases ho
  obtain ⟨ob, tp, he, hcls, hd⟩ := hx.there
  have hen : (hideAll h ((envOf name scope L a cd :: outer).filterMap (·.frame))).get? e = none := by
    cases q : (hideAll h ((envOf name scope L a cd :: outer).filterMap (·.frame))).get? e with
    | none => rfl
    | some o => have := of_hideAll _ q; rw [hx.new] at this; cases this
  have hup : (hideAll h (news.map (·.1))).UpToSlots s'.heap := Heap.UpToSlots.of_keeps fun b o q => hx.keeps b o (of_hideAll _ q)
  unfold noteFrame
  refine wpAny_bind (wpAny_field he hd (x := .none) rfl ?_)
  rw [if_neg (by decide)]
  refine wpAny_entryW (Around.frames_deeper K.stack) ((funFrames_hide K'.frames hin).of_keeps fun b o hb _ => ⟨o, hx.keeps b o hb, rfl⟩) rfl he (fun b o hb => hx.keeps b o (of_hideAll _ hb)) hen hd (by simp) (a0 := tp) rfl fun h₂ hN => ?_
  obtain ⟨n1, n2, n3, n4⟩ := hN
  refine wpAny_landsW ⟨n1, hen, n2, n3⟩ fun h₃ hfl hs₃ => ?_
  exact bare_SN (G := hideAll h (news.map (·.1))) ⟨_, tp, st, sg, hl, hfl⟩ FG K ((hup.trans n4).trans hs₃) XB TB D KtsTurn.refl
    (fun h' g' T' F' N' K' X' P' D' => k h' g' T' F' N' K' X' P' D') hE
end
section
variable {prog : Program} {w : World} {A₀ A : Around} {s : Shared} {base h₀ g₀ : Heap} {outer : List Env} {L a : Addr} {m : Str → Option Value} {cn : Str} {cs : Scope} {ccd : Value} {news : List (Addr × Obj)} {K : Frag} {p : Program} {loose : List Str} {mean : ExcName → Option Value} {mg mb : Str → Option Value}
    {R : Result → Shared → Prop} {name qual : Str} {params : Arguments} {body : List Stmt} {scope : Scope} {dV kV doc pm cdv ct oc : Value} {an od : Option Addr} {osl : Array (Option Value)} {f : Addr} {args : Args} {binds : List (Str × Value)}
theorem code_defS0C (B : Below A₀ base [] h₀) (F : Fr h₀ L s.heap m) (X₀ : K.In h₀) (N : News h₀ L s.heap news) (T : Top p loose mean mg mb h₀) (hA : A.frames = some [envOf cn cs L a ccd])
    (ho : K.lookup f = some ⟨oc, od, .func (fnOf name qual params body scope dV kV doc pm an cdv ct), osl⟩) (hcd : codeIn K cdv qual = true) (hroom : A.depth < recursionLimit)
    (hbind : BindsTo s (fnOf name qual params body scope dV kV doc pm an cdv ct) args binds) (hloc : ∀ y ∈ binds, scope.names.lookup y.1 = some .local)
    (h : ∀ g L' h₁, Fr h₀ L g m → Fr g L' h₁ (fun y => binds.reverse.lookup y) → News g L' h₁ news → Below A base [envOf cn cs L a ccd] g → K.In g → Top p loose mean mg mb g → KtsDicts ([envOf cn cs L a ccd].filterMap (·.frame)) g →
      wpC (model prog w) (A.deeper (envOf qual scope L' f cdv)) (execs body (envOf qual scope L' f cdv))
        (fun fl s' => LeaveS0 ([envOf cn cs L a ccd].filterMap (·.frame)) h₀ L m g R (match fl with | .ret v => v | _ => .none) s')
        (fun e s' => wpAny (model prog w) (A.deeper (envOf qual scope L' f cdv)) (leaving (envOf qual scope L' f cdv) e) (fun _ s'' => R (.error e) s'') (fun e' s'' => R (.error e') s'') s')
        { s with heap := h₁, toks := s.toks + binds.length })
    (hck : cs.kind = .function) (hco : scope.isCoroutine = false) (hgen : scope.isGenerator = false) (hk : scope.kind = .function)
    (hcell : ∀ x ∈ scope.names, x.2 ≠ .cell) : codeC (model prog w) A (.call (.ref f) args) R s := by
  have X := X₀.keeps F.keep
  refine codeC_call_def (fd := fnOf name qual params body scope dV kV doc pm an cdv ct) (body := body) (binds := binds) hroom (X _ _ ho) rfl (T.nolimit.keeps F.keep) (codeRec_of X hcd) rfl hbind hcell hloc (fun h₁ hns hk₁ => ?_) hco hgen hk
  obtain ⟨oL, es, ep, hLg, hLd, hN, hNs, st, B₂⟩ := kts_enter B F N hA hck
  refine wpC_mono (h _ s.heap.objs.size h₁ ⟨hN _ hLg, st, F.above⟩ ⟨hns, fun b o e => hk₁ b o (of_hideAll _ e), Nat.le_of_eq (hideAll_size _ _)⟩
    (fun p hp => ⟨hk₁ _ _ (N p hp).1, Nat.ne_of_lt (Heap.lt_size (N p hp).1), hideAll_none _ (List.mem_map_of_mem hp)⟩) B₂ (X₀.keeps st) (T.keeps st) (fun b hb => by
      rcases kts_mem hb with rfl | z
      · exact ⟨oL, es, ep, hLg, hLd⟩
      · simp at z)) (fun fl s' hl => ?_) fun _ _ y => y
  obtain ⟨g', L', m', news', T', F', N', k⟩ := hl
  have nL₀ : h₀.get? L = none := kts_self F
  obtain ⟨sl, hs⟩ := T'.up hLg
  refine k ⟨hNs sl _ (F'.keep _ _ hs), fun b o e => F'.keep b o (T'.other b o (st b o e) (fun q => by
    rcases kts_mem q with z | z
    · rw [z, nL₀] at e
      cases e
    · simp at z)), F.above⟩ fun p hp => ⟨(N' p hp).1, fun q => ?_, ?_⟩
  · have := (N' p hp).2.2; rw [q, hs] at this; cases this
  · cases q : h₀.get? p.1 with
    | none => rfl
    | some o =>
      obtain ⟨sl', hs'⟩ := T'.up (st _ _ q)
      have := (N' p hp).2.2
      rw [hs'] at this
      cases this
theorem code_defSC (B : Below A₀ base outer h₀) (F : Fr h₀ L s.heap m) (X₀ : K.In h₀) (N : News h₀ L s.heap news) (T : Top p loose mean mg mb h₀) (XB : K.In base) (TB : Top p loose mean mg mb base) (D : KtsDicts (outer.filterMap (·.frame)) h₀)
    (T0 : KtsTurn (outer.filterMap (·.frame)) g₀ h₀) (hA : A.frames = some (envOf cn cs L a ccd :: outer))
    (ho : K.lookup f = some ⟨oc, od, .func (fnOf name qual params body scope dV kV doc pm an cdv ct), osl⟩) (hcd : codeIn K cdv qual = true) (hroom : A.depth < recursionLimit)
    (hbind : BindsTo s (fnOf name qual params body scope dV kV doc pm an cdv ct) args binds) (hloc : ∀ y ∈ binds, scope.names.lookup y.1 = some .local)
    (h : ∀ g L' h₁, Fr h₀ L g m → Fr g L' h₁ (fun y => binds.reverse.lookup y) → News g L' h₁ news → Below A base (envOf cn cs L a ccd :: outer) g → K.In g → Top p loose mean mg mb g → KtsDicts ((envOf cn cs L a ccd :: outer).filterMap (·.frame)) g →
      wpC (model prog w) (A.deeper (envOf qual scope L' f cdv)) (execs body (envOf qual scope L' f cdv))
        (fun fl s' => LeaveS ((envOf cn cs L a ccd :: outer).filterMap (·.frame)) A₀ base outer K p loose mean mg mb g₀ h₀ L m g R (match fl with | .ret v => v | _ => .none) s')
        (fun e s' => wpAny (model prog w) (A.deeper (envOf qual scope L' f cdv)) (leaving (envOf qual scope L' f cdv) e) (fun _ s'' => R (.error e) s'') (fun e' s'' => R (.error e') s'') s')
        { s with heap := h₁, toks := s.toks + binds.length })
    (hck : cs.kind = .function) (hco : scope.isCoroutine = false) (hgen : scope.isGenerator = false) (hk : scope.kind = .function)
    (hcell : ∀ x ∈ scope.names, x.2 ≠ .cell) : codeC (model prog w) A (.call (.ref f) args) R s := by
  have X := X₀.keeps F.keep
  refine codeC_call_def (fd := fnOf name qual params body scope dV kV doc pm an cdv ct) (body := body) (binds := binds) hroom (X _ _ ho) rfl (T.nolimit.keeps F.keep) (codeRec_of X hcd) rfl hbind hcell hloc (fun h₁ hns hk₁ => ?_) hco hgen hk
  obtain ⟨oL, es, ep, hLg, hLd, hN, hNs, st, B₂⟩ := kts_enter B F N hA hck
  refine wpC_mono (h _ s.heap.objs.size h₁ ⟨hN _ hLg, st, F.above⟩ ⟨hns, fun b o e => hk₁ b o (of_hideAll _ e), Nat.le_of_eq (hideAll_size _ _)⟩
    (fun p hp => ⟨hk₁ _ _ (N p hp).1, Nat.ne_of_lt (Heap.lt_size (N p hp).1), hideAll_none _ (List.mem_map_of_mem hp)⟩) B₂ (X₀.keeps st) (T.keeps st) (fun b hb => by
      rcases kts_mem hb with rfl | hb
      · exact ⟨oL, es, ep, hLg, hLd⟩
      · obtain ⟨o, es', n', ho', hd'⟩ := D b hb
        exact ⟨o, es', n', st b o ho', hd'⟩)) (fun fl s' hl => ?_) fun _ _ y => y
  have nL₀ : h₀.get? L = none := kts_self F
  rcases hl with ⟨L', m', news', F', N', k⟩ | ⟨g', L', m', news', T', F', N', k⟩
  · refine k ⟨hN _ (F'.keep _ _ hLg), fun b o e => F'.keep b o (st b o e), F.above⟩ fun p hp => ⟨(N' p hp).1, fun q => ?_, ?_⟩
    · have := (N' p hp).2.2; rw [q, hLg] at this; cases this
    · cases q : h₀.get? p.1 with
      | none => rfl
      | some o => have := (N' p hp).2.2; rw [st _ _ q] at this; cases this
  obtain ⟨sl, hs⟩ := T'.up hLg
  obtain ⟨T₁, S₁⟩ := kts_turn_at (h := s'.heap) (fs := outer.filterMap (·.frame)) (g := h₀)
    (fun b hb => by
      obtain ⟨_, o, ho', _⟩ := B.frames.mem hb
      exact ⟨o, ho'⟩)
    (fun b o e nmem => F'.keep b o (T'.other b o (st b o e) (fun q => by
      rcases kts_mem q with z | z
      · rw [z, nL₀] at e
        cases e
      · exact nmem z)))
    (fun b o e hm => by
      obtain ⟨sl', hs'⟩ := T'.up (st b o e)
      exact ⟨sl', F'.keep _ _ hs'⟩)
  have B₃ : Below A₀ base outer (ktsHeap s'.heap (outer.filterMap (·.frame)) h₀) := ⟨B.stack, fun b o e => T₁.other b o (B.stays b o e) (fun hm => by
    rw [(B.frames.mem hm).1] at e
    cases e), B.frames.of_keeps fun b o e _ => by
    obtain ⟨sl', hs'⟩ := T₁.up e
    exact ⟨_, hs', rfl⟩⟩
  refine k _ (T0.trans T₁) ⟨hNs sl _ (F'.keep _ _ hs), S₁, by rw [T₁.size]; exact F.above⟩ (fun p hp => ⟨(N' p hp).1, fun q => ?_, ?_⟩) B₃ (XB.keeps B₃.stays) (TB.keeps B₃.stays) (D.turn T₁)
  · have := (N' p hp).2.2; rw [q, hs] at this; cases this
  · refine T₁.none_ _ ?_
    cases q : h₀.get? p.1 with
    | none => rfl
    | some o =>
      obtain ⟨sl', hs'⟩ := T'.up (st _ _ q)
      have := (N' p hp).2.2
      rw [hs'] at this
      cases this
end
end Mine
end

section
open PySem PySem.W PySem.W.X PySem.Spec PySem.Calls PyProof.Rows
namespace Mine
local macro_rules | `(tactic| walk_at "no such key") => `(tactic| fail "none")
local macro_rules | `(tactic| k_room) => `(tactic| ktr_room)
local macro_rules | `(tactic| units_room) => `(tactic| ktr_units)
local macro_rules | `(tactic| k_units) => `(tactic| ktr_units)
local macro_rules | `(tactic| walk_at "call builtin:len") => `(tactic| (k_here; (with_reducible show wpAny _ _ (call (Value.builtin "len") [Value.ref _]) _ _ _); k_dflt (refine' len_txt ?k1 ?k2 ?k3 ?_; (case k1 => first | is_list | exact News.isList (by k_asm) (by k_mem)); (case k2 => with_reducible assumption); (case k3 => omega); k_whole)))
local macro_rules | `(tactic| walk_at "subscriptTail") => `(tactic| (k_here; (with_reducible show wpAny _ _ (subscriptTail _ _ (Value.ref _) (Value.int _ _)) _ _ _); (with_unfolding_all refine' item_txt ?k1 ?k2 ?k3 ?k4 ?k5 ?_ ?k6 ?k7; (case k1 => first | is_list | exact News.isList (by k_asm) (by k_mem)); (case k2 => with_reducible assumption); (case k3 => omega); (case k4 => first | decide | omega); (case k5 => omega); (case k6 => with_unfolding_all rfl); (case k7 => intro _; with_unfolding_all rfl); k_whole); intro _))
variable {w : World} {mean : ExcName → Option Value} {mg mb : Str → Option Value} {A A₀ : Around} {cn : Str} {cs : Scope} {a : Addr} {ccd : Value} {cl : List (Str × Addr)} {outer : List Env} {base h₀ : Heap} {L : Addr} {m : Str → Option Value} {news : List (Addr × Obj)} {s : Shared} {Q E : Value → Shared → Prop}
local macro_rules | `(tactic| walk_at "m mem") => `(tactic| first | exact List.mem_cons_self | (refine List.mem_cons_of_mem _ ?_; walk_at "m mem") | (refine List.mem_append_right _ ?_; walk_at "m mem") | assumption)
local macro_rules | `(tactic| walk_at "getAttr ref") => `(tactic| (k_here; k_dflt (refine' get_own2 ?k1 ?k2 ?k3 ?k4 ?k5 ?k6 ?k7 ?k8 ?_; (case k1 => k_asm); (case k2 => k_asm); (case k3 => k_inst); (case k4 => exact GetF.ga (by assumption)); (case k5 => exact GetF.dict (by assumption)); (case k6 => first | exact GetF.m3 (by assumption) | exact GetF.m1 (by assumption) | exact GetF.m2 (by assumption)); (case k7 => assumption); (case k8 => k_handed); k_whole)))
local macro_rules | `(tactic| walk_at "getAttr ref") => `(tactic| (k_here; (with_reducible show wpAny _ _ (getAttr (Value.ref _) (Str.ofString "fields") _) _ _ _); k_dflt (refine' cls_val (mc := .type "type") (a := .ref _) ?k1 ?k2 ?k3 ?k4 ?k5 ?k6 ?_; (case k1 => k_asm); (case k2 => k_asm); (case k3 => exact ClsF.mt (by assumption)); (case k4 => exact ClsF.reads (by assumption)); (case k5 => exact ClsF.fld (by assumption)); (case k6 => exact rfl); k_whole)))
local macro_rules | `(tactic| walk_at "eval DictComp") => `(tactic| (k_here; k_dflt (refine' m_comp ?hh ?W ?c1 ?c2 ?c3 ?c4 ?c5 ?c6 ?_ ?hs; (case hh => rfl); (case W => assumption); (case c1 => rfl); (case c2 => decide); (case c3 => rfl); (case c4 => decide); (case c5 => rfl); (case c6 => rfl); (case hs => (intro _; rfl)); k_whole)))
local macro_rules | `(tactic| walk_at "call type:enumerate") => `(tactic| (k_here; k_dflt (refine' compAt_enum ?k1 ?k2 ?k3 ?F ?N ?W ?_; (case F => k_asm); (case N => k_asm); (case W => assumption); (case k1 => rfl); (case k2 => rfl); (case k3 => rfl); k_whole; intro D' o' h' tk' kvs' F' N' hd' hv'; (try k_sweep))))
local macro_rules | `(tactic| walk_at "getItem ref str") => `(tactic| (k_here; k_dflt (refine m_item (by k_asm) (by k_mem) (by assumption) (by assumption) (by assumption) ?_); intro _))
local macro_rules | `(tactic| walk_at "subscriptTail") => `(tactic| (k_here; (with_reducible show wpAny _ _ (subscriptTail _ _ (Value.ref _) (Value.int _ _)) _ _ _); k_dflt (refine m_field (by k_asm) (by assumption) (by assumption) (by assumption) ?_ (by with_unfolding_all rfl) (by intro _; with_unfolding_all rfl))))
local macro_rules | `(tactic| walk_at "call builtin:len") => `(tactic| (k_here; k_dflt (first | refine m_len2 (by k_asm) (by assumption) ?_ | refine m_len3 (by k_asm) (by assumption) ?_)))
local macro_rules | `(tactic| walk_at "subscriptTail") => `(tactic| (k_here; (with_reducible show wpAny _ _ (subscriptTail _ _ (Value.ref _) (Value.int 2 _)) _ _ _); k_dflt (refine m_at2 (by k_asm) (by assumption) ?_ (by with_unfolding_all rfl) (by intro _; with_unfolding_all rfl))))
open PySem.W.KIN Builtin Builtin.Str PySem.NumText
/-- the caller goes on with a datum; the frames beneath may have been shown to a traceback -/
abbrev RetT (w : World) (mean : ExcName → Option Value) (mg mb : Str → Option Value) (A₀ : Around) (base : Heap) (outer : List Env) (h₀ : Heap) (L : Addr) (m : Str → Option Value) (news : List (Addr × Obj)) (s : Shared) (Q : Value → Shared → Prop) (d : Dat) : Prop :=
  ∀ r h' tk' h₁, KtsTurn (outer.filterMap (·.frame)) h₀ h₁ → Fr h₁ L h' m → News h₁ L h' news → Below A₀ base outer h₁ → (hd.heap_39 w.params).In h₁ → Top hd.view_39 LL mean mg mb h₁ → KtsDicts (outer.filterMap (·.frame)) h₁ → RdIn [] r d → Q r { s with heap := h', toks := tk' }
def BadW (x : Str) : Prop := (int_private% "readNumeral") 0 10 (numSeenOf x) = (int_private% "Numeral.invalid") ∧ (numSeenOf x).length ≤ 640 ∧ (reprText x).length ≤ 1000
/-- a word that int() reads as the law's table says, or refuses -/
def WordOk (x : Str) : Prop := x = Str.ofString "" ∨ (∃ n : Int, PySem.intText? x = some n ∧ x.length ≤ 640 ∧ wholeP x = .int n) ∨ (BadW x ∧ wholeP x = .str x)
theorem retT_end {A₀ : Around} {outer : List Env} {base h₀ h₁ : Heap} {L : Addr} {m : Str → Option Value} {news : List (Addr × Obj)} {p : Addr × Obj} {s : Shared} {Q : Value → Shared → Prop} {d : Dat} {r : Value} {h' : Heap} {tk' : Nat} (ret : RetT w mean mg mb A₀ base outer h₀ L m news s Q d) (T0 : KtsTurn (outer.filterMap (·.frame)) h₀ h₁) (F : Fr h₁ L h' m) (N : News h₁ L h' (p :: news))
    (B : Below A₀ base outer h₁) (X : (hd.heap_39 w.params).In h₁) (T : Top hd.view_39 LL mean mg mb h₁) (D : KtsDicts (outer.filterMap (·.frame)) h₁) (e : RdIn [] r d) : Q r { s with heap := h', toks := tk' } := ret _ _ _ _ T0 F (news_1 N) B X T D e
section
variable {ws : List Str} {i : Nat} {t : Tok}
theorem gi_none {x : Str} (h : (i : Int) < ws.length) (hx : x = ws.getD (i : Int).toNat Str.empty) (e : (x == Str.ofString "") = true) : RdIn [] .none (readD ws true i) := by
  unfold readD; rw [if_pos h, if_pos rfl, ← hx]; exact rd_flat (n := []) (whole_none e) (by unfold wholeD wholeP; rw [if_pos (by simpa using e)]; rfl)
theorem gi_miss (h : ¬ (i : Int) < ws.length) : RdIn [] .none (readD ws true i) := by
  unfold readD; rw [if_neg h, if_pos rfl]; exact rd_flat (n := []) (whole_none (by decide +kernel)) (by decide +kernel)
theorem gi_int {n : Int} (h : (i : Int) < ws.length) (e : wholeP (ws.getD (i : Int).toNat Str.empty) = .int n) : RdIn [] (.int n t) (readD ws true i) := by
  unfold readD; rw [if_pos h, if_pos rfl]; unfold wholeD; rw [e]; exact .int _ _
theorem gi_str (h : (i : Int) < ws.length) (e : wholeP (ws.getD (i : Int).toNat Str.empty) = .str (ws.getD (i : Int).toNat Str.empty)) : RdIn [] (.str (ws.getD (i : Int).toNat Str.empty) t) (readD ws true i) := by
  unfold readD; rw [if_pos h, if_pos rfl]; unfold wholeD; rw [e]; exact .str _ _
theorem word_at (hw : ∀ x ∈ ws, WordOk x) (h : (i : Int) < ws.length) (e : (ws.getD (i : Int).toNat Str.empty == Str.ofString "") = false) :
    (∃ n : Int, PySem.intText? (ws.getD (i : Int).toNat Str.empty) = some n ∧ (ws.getD (i : Int).toNat Str.empty).length ≤ 640 ∧ wholeP (ws.getD (i : Int).toNat Str.empty) = .int n) ∨
    (BadW (ws.getD (i : Int).toNat Str.empty) ∧ wholeP (ws.getD (i : Int).toNat Str.empty) = .str (ws.getD (i : Int).toNat Str.empty)) := by
  have hm : ws.getD (i : Int).toNat Str.empty ∈ ws := by
    have hl : (i : Int).toNat < ws.length := by omega
    rw [List.getD_eq_getElem?_getD, List.getElem?_eq_getElem hl]
    exact List.getElem_mem hl
  rcases hw _ hm with h' | h' | h'
  · rw [h'] at e; exact absurd e (by decide +kernel)
  · exact .inl h'
  · exact .inr h'
end
local macro_rules | `(tactic| walk_at "m endT") => `(tactic| ((with_reducible rename RetT _ _ _ _ _ _ _ _ _ _ _ _ _ _ => kret); (refine' retT_end kret ?t ?f ?n ?b ?x ?tp ?d ?e; (case t => first | assumption | exact KtsTurn.refl); (case f => k_asm); (case n => k_asm); (case b => k_asm); (case x => k_asm); (case tp => k_asm); (case d => k_asm); (case e => first | exact gi_none (by assumption) rfl (by assumption) | exact gi_miss (by assumption) | exact gi_int (by assumption) (by assumption) | exact gi_str (by assumption) (by assumption)))))
set_option maxRecDepth 100000 in
set_option maxHeartbeats 8000000 in
theorem c_gaI {es : List DictEntry} {x dx l Kl Tf fa : Addr} {vs : List Value} {n nd i : Nat} {t3 : Tok} {ws : List Str} {fs : List Value} {nm : Nat → Str} {u1 u2 : Value} (C : Cx w mean mg mb A A₀ base h₀ outer cn cs a ccd [] L m ((x, instObj Kl dx) :: (dx, dictOf es nd) :: (l, listOf vs.toArray n) :: news) s.heap 10) (XB : (hd.heap_39 w.params).In base) (TB : Top hd.view_39 LL mean mg mb base) (D : KtsDicts (outer.filterMap (·.frame)) h₀) (hD : getL (Str.ofString "data") es = some (some (.ref l))) (GF : GetF w Kl) (CF : ClsF w Kl Tf) (W : FieldT h₀ Tf fs nm) (hS : StrsAre vs ws) (hb : ws.length ≤ 10) (hi : i < fs.length) (hf : fs[i]? = some (.ref fa)) (hw : ∀ x ∈ ws, WordOk x) (hI : IsTup h₀ fa #[u1, u2, .type "int"])
    (ret : RetT w mean mg mb A₀ base outer h₀ L m ((x, instObj Kl dx) :: (dx, dictOf es nd) :: (l, listOf vs.toArray n) :: news) s Q (readD ws true i)) :
    wpC (model PySem.Challenge.rw_ez0290_01.row.prog w) A (call (.ref 132) [.ref x, .str (nm i) t3]) Q E s := by
  w_top off
  k_with_none
  obtain ⟨B, F, X, N, T, hk, hA, hh, hdp, hun⟩ := C
  obtain ⟨hd, dp, fr, gd, un⟩ := A
  dsimp only at hA hh hdp hun
  subst hA hh
  revert X; k_fill; intro X
  refine wpC_call ?_
  k_dflt (refine' code_defSC (binds := [(Str.ofString "self", .ref x), (Str.ofString "name", .str (nm i) t3)]) ?k1 ?k2 ?k3 ?k4 ?k5 ?kXB ?kTB ?kD ?kT0 ?kA ?k6 ?k7 ?k8 ?k9 ?kB ?_ ?kK ?c2 ?c3 ?c4 ?c5; (case kA => exact rfl); (case kK => assumption); (case k1 => k_asm); (case k2 => k_asm); (case k3 => k_asm); (case k4 => k_asm); (case k5 => k_asm); (case kXB => assumption); (case kTB => assumption); (case kD => assumption); (case kT0 => exact KtsTurn.refl); (case k6 => k_is); (case k7 => k_is); (case k8 => ktr_room); (case k9 => exact BindsTo.of_eq rfl); (case c5 => decide); (case kB => exact locs rfl); (case c2 => exact rfl); (case c3 => exact rfl); (case c4 => exact rfl); k_whole; intro g' L' h' FG' F' N' B' X' T' D'; (try dsimp only); (try k_fold))
  have W' := FieldT.keeps W FG'.keep
  have hI' := IsTup.keeps hI FG'.keep
  clear W hI
  refine wpC_execs_app (l₁ := [_, _, _, _]) (l₂ := [_]) ?_
  k_steps
  all_goals dsimp only
  all_goals refine wpC_execs_cons (wpC_If (wpC_of ?_))
  all_goals k_steps
  all_goals refine wpC_execs_cons (wpC_of ?_)
  all_goals k_steps
  all_goals (try (walk_at "m endT"))
  dsimp only
  refine wpC_execs_cons (wpC_Try ?_)
  refine wpC_execs_cons (wpC_Return (wpC_Call (wpC_of ?_)))
  k_steps
  refine wpC_callT ?_
  refine wpC_args_cons (wpC_of ?_)
  k_steps
  refine wpC_args_nil ?_
  rcases word_at hw (by assumption) (by assumption) with ⟨nn, hn, hl, hp⟩ | ⟨⟨hb1, hb2, hb3⟩, hp⟩
  · refine wpC_of (KIN.call_text hn hl ?_)
    dsimp only
    k_steps
    all_goals walk_at "m endT"
  · refine callC_intBad rfl hb2 hb1 hb3 (fun h'' tk'' e hx => ?_)
    dsimp only
    refine catch_bare (by k_asm) hx (by k_asm) (by k_asm) XB TB (by k_asm) (fun h3 g3 T3 F3 N3 B3 X3 P3 D3 => ?_) (by passes_own)
    k_steps
    all_goals walk_at "m endT"
end Mine
end

section
open PySem PySem.W PySem.W.X PySem.Spec PySem.Calls PyProof.Rows
namespace Mine
local macro_rules | `(tactic| k_room) => `(tactic| ktr_room)
local macro_rules | `(tactic| units_room) => `(tactic| ktr_units)
local macro_rules | `(tactic| k_units) => `(tactic| ktr_units)
local macro_rules | `(tactic| walk_at "call builtin:len") => `(tactic| (k_here; (with_reducible show wpAny _ _ (call (Value.builtin "len") [Value.ref _]) _ _ _); k_dflt (refine' len_txt ?k1 ?k2 ?k3 ?_; (case k1 => first | is_list | exact News.isList (by k_asm) (by k_mem)); (case k2 => with_reducible assumption); (case k3 => omega); k_whole)))
local macro_rules | `(tactic| walk_at "subscriptTail") => `(tactic| (k_here; (with_reducible show wpAny _ _ (subscriptTail _ _ (Value.ref _) (Value.int _ _)) _ _ _); (with_unfolding_all refine' item_txt ?k1 ?k2 ?k3 ?k4 ?k5 ?_ ?k6 ?k7; (case k1 => first | is_list | exact News.isList (by k_asm) (by k_mem)); (case k2 => with_reducible assumption); (case k3 => omega); (case k4 => first | decide | omega); (case k5 => omega); (case k6 => with_unfolding_all rfl); (case k7 => intro _; with_unfolding_all rfl); k_whole); intro _))
variable {w : World} {mean : ExcName → Option Value} {mg mb : Str → Option Value} {A A₀ : Around} {cn : Str} {cs : Scope} {a : Addr} {ccd : Value} {cl : List (Str × Addr)} {outer : List Env} {base h₀ : Heap} {L : Addr} {m : Str → Option Value} {news : List (Addr × Obj)} {s : Shared} {Q E : Value → Shared → Prop}
local macro_rules | `(tactic| walk_at "m mem") => `(tactic| first | exact List.mem_cons_self | (refine List.mem_cons_of_mem _ ?_; walk_at "m mem") | (refine List.mem_append_right _ ?_; walk_at "m mem") | assumption)
local macro_rules | `(tactic| walk_at "getAttr ref") => `(tactic| (k_here; k_dflt (refine' get_own2 ?k1 ?k2 ?k3 ?k4 ?k5 ?k6 ?k7 ?k8 ?_; (case k1 => k_asm); (case k2 => k_asm); (case k3 => k_inst); (case k4 => exact GetF.ga (by assumption)); (case k5 => exact GetF.dict (by assumption)); (case k6 => first | exact GetF.m3 (by assumption) | exact GetF.m1 (by assumption) | exact GetF.m2 (by assumption)); (case k7 => assumption); (case k8 => k_handed); k_whole)))
local macro_rules | `(tactic| walk_at "getAttr ref") => `(tactic| (k_here; (with_reducible show wpAny _ _ (getAttr (Value.ref _) (Str.ofString "fields") _) _ _ _); k_dflt (refine' cls_val (mc := .type "type") (a := .ref _) ?k1 ?k2 ?k3 ?k4 ?k5 ?k6 ?_; (case k1 => k_asm); (case k2 => k_asm); (case k3 => exact ClsF.mt (by assumption)); (case k4 => exact ClsF.reads (by assumption)); (case k5 => exact ClsF.fld (by assumption)); (case k6 => exact rfl); k_whole)))
local macro_rules | `(tactic| walk_at "eval DictComp") => `(tactic| (k_here; k_dflt (refine' m_comp ?hh ?W ?c1 ?c2 ?c3 ?c4 ?c5 ?c6 ?_ ?hs; (case hh => rfl); (case W => assumption); (case c1 => rfl); (case c2 => decide); (case c3 => rfl); (case c4 => decide); (case c5 => rfl); (case c6 => rfl); (case hs => (intro _; rfl)); k_whole)))
local macro_rules | `(tactic| walk_at "call type:enumerate") => `(tactic| (k_here; k_dflt (refine' compAt_enum ?k1 ?k2 ?k3 ?F ?N ?W ?_; (case F => k_asm); (case N => k_asm); (case W => assumption); (case k1 => rfl); (case k2 => rfl); (case k3 => rfl); k_whole; intro D' o' h' tk' kvs' F' N' hd' hv'; (try k_sweep))))
local macro_rules | `(tactic| walk_at "getItem ref str") => `(tactic| (k_here; k_dflt (refine m_item (by k_asm) (by k_mem) (by assumption) (by assumption) (by assumption) ?_); intro _))
local macro_rules | `(tactic| walk_at "subscriptTail") => `(tactic| (k_here; (with_reducible show wpAny _ _ (subscriptTail _ _ (Value.ref _) (Value.int _ _)) _ _ _); k_dflt (refine m_field (by k_asm) (by assumption) (by assumption) (by assumption) ?_ (by with_unfolding_all rfl) (by intro _; with_unfolding_all rfl))))
local macro_rules | `(tactic| walk_at "call builtin:len") => `(tactic| (k_here; k_dflt (first | refine m_len2 (by k_asm) (by assumption) ?_ | refine m_len3 (by k_asm) (by assumption) ?_)))
local macro_rules | `(tactic| walk_at "subscriptTail") => `(tactic| (k_here; (with_reducible show wpAny _ _ (subscriptTail _ _ (Value.ref _) (Value.int 2 _)) _ _ _); k_dflt (refine m_at2 (by k_asm) (by assumption) ?_ (by with_unfolding_all rfl) (by intro _; with_unfolding_all rfl))))
section
variable {ws : List Str} {i : Nat} {t : Tok}
theorem gs_1 (h6 : i = 6) (h : (i : Int) < ws.length) (e : (ws.getD (i : Int).toNat Str.empty == Str.ofString "") = true) : DatIn [] .none (frameD ws) := by
  subst h6
  have e' : ws.getD 6 Str.empty = Str.ofString "" := by simpa using e
  unfold frameD; rw [if_neg (fun q => q.2 e')]; exact .none
theorem gs_2 (h6 : i = 6) (h : (i : Int) < ws.length) (e : (ws.getD (i : Int).toNat Str.empty == Str.ofString "") = false) : DatIn [] (.str (ws.getD (i : Int).toNat Str.empty) t) (frameD ws) := by
  subst h6
  have e' : ¬ ws.getD 6 Str.empty = Str.ofString "" := by simpa using e
  unfold frameD; rw [if_pos ⟨by omega, e'⟩]; exact .str _ _
theorem gs_3 (h6 : i = 6) (h : ¬ (i : Int) < ws.length) : DatIn [] .none (frameD ws) := by
  subst h6
  unfold frameD; rw [if_neg (fun q => h (by have := q.1; omega))]; exact .none
end
local macro_rules | `(tactic| walk_at "m endS") => `(tactic| ((with_reducible rename RetV _ _ _ _ _ _ _ => kret); (refine' retV_end kret ?f ?n ?e; (case f => k_asm); (case n => k_asm); (case e => first | exact gs_1 (by assumption) (by assumption) (by assumption) | exact gs_2 (by assumption) (by assumption) (by assumption) | exact gs_3 (by assumption) (by assumption)))))
set_option maxRecDepth 100000 in
set_option maxHeartbeats 8000000 in
theorem c_gaS3 {es : List DictEntry} {x dx l Kl Tf fa : Addr} {vs : List Value} {n nd i : Nat} {t3 : Tok} {ws : List Str} {fs : List Value} {nm : Nat → Str} {u1 u2 : Value} (C : Cx w mean mg mb A A₀ base h₀ outer cn cs a ccd cl L m ((x, instObj Kl dx) :: (dx, dictOf es nd) :: (l, listOf vs.toArray n) :: news) s.heap 10) (hD : getL (Str.ofString "data") es = some (some (.ref l))) (GF : GetF w Kl) (CF : ClsF w Kl Tf) (W : FieldT h₀ Tf fs nm) (hS : StrsAre vs ws) (hb : ws.length ≤ 10) (hi : i < fs.length) (hf : fs[i]? = some (.ref fa)) (h6 : i = 6) (hI : IsTup h₀ fa #[u1, u2, .type "str"])
    (ret : RetV h₀ L m ((x, instObj Kl dx) :: (dx, dictOf es nd) :: (l, listOf vs.toArray n) :: news) s Q (frameD ws)) :
    wpAny (model PySem.Challenge.rw_ez0290_01.row.prog w) A (call (.ref 132) [.ref x, .str (nm i) t3]) Q E s := by
  w_top off
  k_with_none
  obtain ⟨B, F, X, N, T, hk, hA, hh, hdp, hun⟩ := C
  obtain ⟨hd, dp, fr, gd, un⟩ := A
  dsimp only at hA hh hdp hun
  subst hA hh
  revert X; k_fill; intro X
  refine wpAny_call ?_
  k_dflt (refine' code_def (binds := [(Str.ofString "self", .ref x), (Str.ofString "name", .str (nm i) t3)]) ?k1 ?k2 ?k3 ?k4 ?k5 ?kA ?kF ?kK ?k6 ?k7 ?k8 ?k9 ?kB ?_ ?c2 ?c3 ?c4 ?c5; (case kA => exact rfl); (case kF => exact rfl); (case kK => assumption); (case k1 => k_asm); (case k2 => k_asm); (case k3 => k_asm); (case k4 => k_asm); (case k5 => k_asm); (case k6 => k_is); (case k7 => k_is); (case k8 => ktr_room); (case k9 => exact BindsTo.of_eq rfl); (case c5 => decide); (case kB => exact locs rfl); (case c2 => exact rfl); (case c3 => exact rfl); (case c4 => exact rfl); k_whole; intro g' L' h' FG' F' N' B' X' T'; (try dsimp only); (try k_fold))
  have W' := FieldT.keeps W FG'.keep
  have hI' := IsTup.keeps hI FG'.keep
  clear W hI
  k_steps
  all_goals walk_at "m endS"
end Mine
end

section
open PySem PySem.W PySem.Spec PySem.Calls PyProof.Rows Builtin
set_option maxRecDepth 100000
namespace Mine
section
variable {K : Frag} {x D : Addr} {ox od : Obj} {fG : Addr}
theorem kitx_hooked (hga : findIn K (.ref D) "__getattribute__" = some (some (.builtin "object.__getattribute__"))) (hk : findIn K (.ref D) "__getattr__" = some (some (.ref fG))) (hdct : hasDictIn K D = true) (ha : findIn K (.ref D) "__class__" = some (some (.builtin "object.__class__")))
    (hn : specialIn K (.builtin "object.__class__") "__get__" = some (some (.builtin "getset_descriptor.__get__"))) (htk : takesIn K (.builtin "object.__class__") = some true) (hm : mroIn K D (.type "object") = some true) (hc : ∃ o, K.lookup D = some o ∧ o.cls = .type "type") :
    KitX K (.ref x) (.ref D) (fun h => InstAt h x ox D (some od)) where
  ty := fun M h X I => I.type
  it := fun M h X I => by
    obtain ⟨cdD, hcD, _⟩ := any_some hdct
    unfold clsIn at hcD
    split at hcD
    · rename_i c' d' cd' sl' ho
      intro A' Q' E' s' k q
      unfold isType loadHead
      exact wpAny_bind (wpAny_loadPart (k _ _ (X _ _ ho)) (wpAny_pure q))
    · cases hcD
  ne := fun h tp dd its n sl X ht => by
    obtain ⟨o, ho, hcl⟩ := hc
    refine Bool.eq_false_iff.mpr fun q => ?_
    obtain rfl : D = tp := Value.ref.inj (beq_iff_eq.mp q)
    have := X _ _ ho
    rw [ht] at this
    cases this
    exact absurd hcl (by intro q; injection q with q; revert q; decide)
  ca := fun {prog w A E Q s} X I h => by
    have hf : findObj K D (some od) "__class__" = some (.bind (.builtin "getset_descriptor.__get__") (.builtin "object.__class__")) := findObj_data (by obtain ⟨cd, hc, _⟩ := any_some hdct; rw [hc]; rfl) ha hn htk
    refine kin_open X I hga ?_
    obtain ⟨hh, gg, d, t, os⟩ := s
    have L0 := I.type (M := model prog w)
    have L1 := looks_find (M := model prog w) X I hf
    have L2 := looks_findIn (M := model prog w) X hk
    refine wpAny_bind (wpAny_pure (wpAny_bind (L0.at (wpAny_bind (L1.at (wpAny_bind (L2.at ?_)))))))
    show wpAny _ _ (Builtin.ObjectAttr.bindOrHook _ _ _ _ _ _) _ _ _
    unfold Builtin.ObjectAttr.bindOrHook
    refine wpAny_bind (wpAny_attempt (wpAny_holding ?_))
    show wpAny _ _ (holding [Value.builtin "object.__class__"] (call (Value.builtin "getset_descriptor.__get__") [Value.builtin "object.__class__", .ref x, .ref D]) >>= ret) _ _ _
    refine wpAny_bind (wpAny_holding (wpAny_call (class_get (ox := ox) (od := some od) X I hm ?_)))
    exact wpAny_pure (wpAny_pure (handed_on rfl h))
end
structure HookF (w : World) (D : Addr) : Prop where
  ga : findIn (hd.heap_39 w.params) (.ref D) "__getattribute__" = some (some (.builtin "object.__getattribute__"))
  hk : findIn (hd.heap_39 w.params) (.ref D) "__getattr__" = some (some (.ref 132))
  dct : hasDictIn (hd.heap_39 w.params) D = true
  cls : findIn (hd.heap_39 w.params) (.ref D) "__class__" = some (some (.builtin "object.__class__"))
  get : specialIn (hd.heap_39 w.params) (.builtin "object.__class__") "__get__" = some (some (.builtin "getset_descriptor.__get__"))
  tk : takesIn (hd.heap_39 w.params) (.builtin "object.__class__") = some true
  mro : mroIn (hd.heap_39 w.params) D (.type "object") = some true
  is : ((hd.heap_39 w.params).lookup D).map (·.cls) = some (.type "type")
theorem HookF.kit {w : World} {D x : Addr} {ox od : Obj} (F : HookF w D) : KitX (hd.heap_39 w.params) (.ref x) (.ref D) (fun h => InstAt h x ox D (some od)) :=
  kitx_hooked F.ga F.hk F.dct F.cls F.get F.tk F.mro (by
    have h := F.is
    cases q : (hd.heap_39 w.params).lookup D with
    | none => rw [q] at h; cases h
    | some o => rw [q] at h; exact ⟨o, rfl, Option.some.inj h⟩)
section
variable {prog : Program} {w : World} {A : Around} {E : Value → Shared → Prop} {s : Shared} {Q : Value → Shared → Prop} {b : Bool} {x D : Addr} {ox od : Obj} {c : Value}
theorem hk_one (I : InstAt s.heap x ox D (some od)) (F : HookF w D) (X : (hd.heap_39 w.params).In s.heap) (e : kitOne (hd.heap_39 w.params) (.ref D) c = some b) (h : ∀ tk, Q (.bool b) { s with toks := tk }) :
    wpAny (model prog w) A (call (.builtin "isinstance") [.ref x, c]) Q E s := kia_one F.kit X I e (by intro q; cases q) h
theorem hk_tup {tp : Addr} {dd : Option Addr} {its : List Value} {n : Nat} {sl : Array (Option Value)} (I : InstAt s.heap x ox D (some od)) (F : HookF w D) (X : (hd.heap_39 w.params).In s.heap) (htp : s.heap.get? tp = some ⟨.type "tuple", dd, .seq its.toArray n, sl⟩)
    (e : kitAny (hd.heap_39 w.params) (.ref D) its = some b) (h : ∀ tk, Q (.bool b) { s with toks := tk }) : wpAny (model prog w) A (call (.builtin "isinstance") [.ref x, .ref tp]) Q E s := kia_tup F.kit X I htp e (by intro q; cases q) h
end
theorem hf_342 {w : World} : HookF w 342 := ⟨by kernel_rfl, by kernel_rfl, by kernel_rfl, by kernel_rfl, by kernel_rfl, by kernel_rfl, by kernel_rfl, by kernel_rfl⟩
theorem hf_361 {w : World} : HookF w 361 := ⟨by kernel_rfl, by kernel_rfl, by kernel_rfl, by kernel_rfl, by kernel_rfl, by kernel_rfl, by kernel_rfl, by kernel_rfl⟩
theorem hf_323 {w : World} : HookF w 323 := ⟨by kernel_rfl, by kernel_rfl, by kernel_rfl, by kernel_rfl, by kernel_rfl, by kernel_rfl, by kernel_rfl, by kernel_rfl⟩
theorem hf_274 {w : World} : HookF w 274 := ⟨by kernel_rfl, by kernel_rfl, by kernel_rfl, by kernel_rfl, by kernel_rfl, by kernel_rfl, by kernel_rfl, by kernel_rfl⟩
theorem hf_294 {w : World} : HookF w 294 := ⟨by kernel_rfl, by kernel_rfl, by kernel_rfl, by kernel_rfl, by kernel_rfl, by kernel_rfl, by kernel_rfl, by kernel_rfl⟩
theorem hf_254 {w : World} : HookF w 254 := ⟨by kernel_rfl, by kernel_rfl, by kernel_rfl, by kernel_rfl, by kernel_rfl, by kernel_rfl, by kernel_rfl, by kernel_rfl⟩
theorem hf_402 {w : World} : HookF w 402 := ⟨by kernel_rfl, by kernel_rfl, by kernel_rfl, by kernel_rfl, by kernel_rfl, by kernel_rfl, by kernel_rfl, by kernel_rfl⟩
theorem hf_418 {w : World} : HookF w 418 := ⟨by kernel_rfl, by kernel_rfl, by kernel_rfl, by kernel_rfl, by kernel_rfl, by kernel_rfl, by kernel_rfl, by kernel_rfl⟩
theorem hf_382 {w : World} : HookF w 382 := ⟨by kernel_rfl, by kernel_rfl, by kernel_rfl, by kernel_rfl, by kernel_rfl, by kernel_rfl, by kernel_rfl, by kernel_rfl⟩
theorem hf_218 {w : World} : HookF w 218 := ⟨by kernel_rfl, by kernel_rfl, by kernel_rfl, by kernel_rfl, by kernel_rfl, by kernel_rfl, by kernel_rfl, by kernel_rfl⟩
end Mine
end

section
open PySem PySem.W PySem.Spec PySem.Calls PyProof.Rows Builtin
set_option maxRecDepth 100000
namespace Mine
/-- the fields of a class in the written part: the inner tuple's address, its name, its third -/
abbrev FL : Type := List (Addr × Str × Option Value)
def fieldIs (K : Frag) (p : Addr × Str × Option Value) : Bool := match K.lookup p.1 with
  | some ⟨.type "tuple", _, .seq items _, _⟩ => match items.toList, p.2.2 with
    | [_, .str y _], none => y == p.2.1
    | [_, .str y _, z], some z' => y == p.2.1 && z == z'
    | _, _ => false
  | _ => false
def tupIs (K : Frag) (a : Addr) (vs : List Value) : Bool := match K.lookup a with
  | some ⟨.type "tuple", _, .seq items _, _⟩ => items.toList == vs
  | _ => false
def fieldsAre (K : Frag) (T : Addr) (l : FL) : Bool := tupIs K T (l.map fun p => .ref p.1) && l.all (fieldIs K)
theorem tup_of {K : Frag} {a : Addr} {vs : List Value} {h : Heap} (X : K.In h) (e : tupIs K a vs = true) : h.IsTuple a vs.toArray := by
  unfold tupIs at e
  split at e
  · rename_i d items n sl ho
    refine ⟨_, X _ _ ho, rfl, n, ?_⟩
    rw [← eq_of_beq e]
  · cases e
theorem field_of {K : Frag} {a : Addr} {y : Str} {z : Option Value} {h : Heap} (X : K.In h) (e : fieldIs K (a, y, z) = true) :
    ∃ its t, IsTup h a (List.toArray its) ∧ seqIndex? 1 its.length = some 1 ∧ its[1]? = some (.str y t) ∧ (z = none → ∃ u v, its = [u, v]) ∧ (∀ z', z = some z' → ∃ u v, its = [u, v, z']) := by
  unfold fieldIs at e
  split at e
  · rename_i d items n sl ho
    split at e
    · rename_i v1 v2 u y' t' he hz
      refine ⟨[u, .str y' t'], t', ⟨_, X _ _ ho, rfl, n, ?_⟩, (by show seqIndex? 1 2 = some 1; decide), ?_, fun _ => ⟨_, _, rfl⟩, fun z' q => ?_⟩
      · rw [← he]
      · rw [eq_of_beq e]; rfl
      · simp_all
    · rename_i u y' t' z1 z2 he hz
      rw [Bool.and_eq_true] at e
      refine ⟨[u, .str y' t', z1], t', ⟨_, X _ _ ho, rfl, n, ?_⟩, (by show seqIndex? 1 3 = some 1; decide), ?_, fun q => ?_, fun z' q => ?_⟩
      · rw [← he]
      · rw [eq_of_beq e.1]; rfl
      · simp_all
      · have e2 := eq_of_beq e.2
        refine ⟨u, .str y' t', ?_⟩
        simp_all
    · cases e
  · cases e
def nmOf (l : FL) (i : Nat) : Str := ((l[i]?).map (·.2.1)).getD Str.empty
theorem fieldT_of {K : Frag} {T : Addr} {l : FL} {h : Heap} (X : K.In h) (e : fieldsAre K T l = true) (nd : ∀ i, i < l.length → ∀ j, j < l.length → nmOf l i = nmOf l j → i = j) (sh : l.length ≤ 1000) : FieldT h T (l.map fun p => .ref p.1) (nmOf l) := by
  unfold fieldsAre at e
  rw [Bool.and_eq_true] at e
  refine ⟨tup_of X e.1, fun i v hv => ?_, fun i j hi hj q => ?_, by simpa using sh⟩
  · rw [List.getElem?_map] at hv
    cases q : l[i]? with
    | none => rw [q] at hv; cases hv
    | some p =>
      rw [q] at hv
      cases hv
      obtain ⟨a, y, z⟩ := p
      obtain ⟨its, t, h1, h2, h3, _⟩ := field_of X (List.all_eq_true.mp e.2 _ (List.mem_of_getElem? q))
      refine ⟨a, its, t, rfl, h1, h2, ?_⟩
      unfold nmOf
      rw [q]; exact h3
  · rw [List.length_map] at hi hj
    exact nd i hi j hj q
theorem field_at {K : Frag} {T a : Addr} {l : FL} {h : Heap} {i : Nat} {y : Str} {z : Option Value} (X : K.In h) (e : fieldsAre K T l = true) (hi : l[i]? = some (a, y, z)) :
    (z = none → ∃ u v, IsTup h a #[u, v]) ∧ (∀ z', z = some z' → ∃ u v, IsTup h a #[u, v, z']) := by
  unfold fieldsAre at e
  rw [Bool.and_eq_true] at e
  obtain ⟨its, t, h1, h2, h3, h4, h5⟩ := field_of X (List.all_eq_true.mp e.2 _ (List.mem_of_getElem? hi))
  refine ⟨fun q => ?_, fun z' q => ?_⟩
  · obtain ⟨u, v, rfl⟩ := h4 q
    exact ⟨u, v, h1⟩
  · obtain ⟨u, v, rfl⟩ := h5 z' q
    exact ⟨u, v, h1⟩
def fl_342 : FL := [(334, Str.ofString "subtype", none), (335, Str.ofString "sentence", none), (336, Str.ofString "command", none), (337, Str.ofString "rate", none), (338, Str.ofString "checksum", none)]
theorem fa_342 {w : World} : fieldsAre (hd.heap_39 w.params) 339 fl_342 = true := by kernel_rfl
theorem fj_342 : ∀ i, i < fl_342.length → ∀ j, j < fl_342.length → nmOf fl_342 i = nmOf fl_342 j → i = j := by decide +kernel
def fl_361 : FL := [(352, Str.ofString "subtype", none), (353, Str.ofString "protocol", none), (354, Str.ofString "baud", none), (355, Str.ofString "databits", none), (356, Str.ofString "stopbits", none), (357, Str.ofString "parity", none)]
theorem fa_361 {w : World} : fieldsAre (hd.heap_39 w.params) 358 fl_361 = true := by kernel_rfl
theorem fj_361 : ∀ i, i < fl_361.length → ∀ j, j < fl_361.length → nmOf fl_361 i = nmOf fl_361 j → i = j := by decide +kernel
def fl_402 : FL := [(393, Str.ofString "_blank", none), (394, Str.ofString "message_type", some (.type "int")), (395, Str.ofString "horiz_qual", some (.type "int")), (396, Str.ofString "hgt_qual", some (.type "int")), (397, Str.ofString "head_qual", some (.type "int")), (398, Str.ofString "rp_qual", some (.type "int"))]
theorem fa_402 {w : World} : fieldsAre (hd.heap_39 w.params) 399 fl_402 = true := by kernel_rfl
theorem fj_402 : ∀ i, i < fl_402.length → ∀ j, j < fl_402.length → nmOf fl_402 i = nmOf fl_402 j → i = j := by decide +kernel
def fl_418 : FL := [(412, Str.ofString "_blank", none), (413, Str.ofString "message_type", some (.type "int")), (414, Str.ofString "event", some (.type "int"))]
theorem fa_418 {w : World} : fieldsAre (hd.heap_39 w.params) 415 fl_418 = true := by kernel_rfl
theorem fj_418 : ∀ i, i < fl_418.length → ∀ j, j < fl_418.length → nmOf fl_418 i = nmOf fl_418 j → i = j := by decide +kernel
def fl_294 : FL := [(284, Str.ofString "it", some (.type "int")), (285, Str.ofString "sn", some (.type "int")), (286, Str.ofString "nb", some (.type "int")), (287, Str.ofString "nc", some (.type "int")), (288, Str.ofString "bd", some (.type "float")), (289, Str.ofString "cs", some (.type "float")), (290, Str.ofString "cy", some (.type "str"))]
theorem fa_294 {w : World} : fieldsAre (hd.heap_39 w.params) 291 fl_294 = true := by kernel_rfl
theorem fj_294 : ∀ i, i < fl_294.length → ∀ j, j < fl_294.length → nmOf fl_294 i = nmOf fl_294 j → i = j := by decide +kernel
end Mine
end

section
open PySem PySem.W PySem.Spec PySem.Calls PyProof.Rows Builtin
set_option maxRecDepth 100000
namespace Mine
section
variable {prog : Program} {w : World} {A : Around} {E : Value → Shared → Prop} {s : Shared} {K : Frag} {x C : Addr} {ox : Obj} {od : Option Obj} {name : Str} {expr : Bool} {Q : Value → Shared → Prop} {h₀ : Heap} {L : Addr} {m : Str → Option Value}
theorem get_openC (X : K.In s.heap) (I : InstAt s.heap x ox C od) (hga : findIn K (.ref C) "__getattribute__" = some (some (.builtin "object.__getattribute__")))
    (h : wpC (model prog w) A.in1 (Builtin.«proto.getattr_hooked» ⟨[.ref x, .str name s.toks], []⟩)
      (fun fin s' => match fin with | .done (.ret v) => wpAny (model prog w) A (handedOut v) Q E s' | _ => False) (fun e s' => wpAny (model prog w) A (noteIf true (.ref x) (.str name s.toks) e) (fun _ s'' => E e s'') E s') { s with toks := s.toks + 1 }) :
    wpC (model prog w) A (getAttr (.ref x) name expr) Q E s := by
  obtain ⟨hh, g, d, t, os⟩ := s
  have L0 := I.type (M := model prog w)
  have L1 := looks_findIn (M := model prog w) X hga
  unfold getAttr getAttrBy
  refine wpC_bind (wpC_of (wpAny_mkText (wpC_holding (wpC_bind (wpC_of (L0.at (wpC_bind (wpC_of (L1.at ?_)))))))))
  show wpC _ _ (getAttrEveryday _ _ _) _ _ _
  refine wpC_bind (wpC_onRaise (wpC_mono (wpC_runValue (codeC_builtin F.plainObj_entry_getattr_hooked (wpC_mono h (fun fin s' z => ?_) fun _ _ z => wpC_of z))) (fun _ _ z => z) fun _ _ z => z))
  rcases fin with (_ | _ | _ | _) | _ <;> first | exact wpC_of z | exact z.elim
theorem get_hookC {fG : Addr} {od : Obj} (F : Fr h₀ L s.heap m) (X₀ : K.In h₀) (I : InstAt s.heap x ox C (some od)) (hga : findIn K (.ref C) "__getattribute__" = some (some (.builtin "object.__getattribute__")))
    (hf : findObj K C (some od) name = some .missing) (hk : findIn K (.ref C) "__getattr__" = some (some (.ref fG))) (hfn : typeIn K (.ref fG) = some (.type "function"))
    (h : wpC (model prog w) A.in1 (call (.ref fG) [.ref x, .str name s.toks]) (fun v s' => handedIn v = true ∧ Q v s') (fun e s' => wpAny (model prog w) A (noteIf true (.ref x) (.str name s.toks) e) (fun _ s'' => E e s'') E s') { s with toks := s.toks + 1 }) :
    wpC (model prog w) A (getAttr (.ref x) name expr) Q E s := by
  have X : K.In s.heap := X₀.keeps F.keep
  refine get_openC X I hga ?_
  obtain ⟨hh', g, d, t, os⟩ := s
  have L0 := I.type (M := model prog w)
  have L1 := looks_find (M := model prog w) X I hf
  have L2 := looks_findIn (M := model prog w) X hk
  refine wpC_bind (wpC_pure (wpC_bind (wpC_of (L0.at (wpC_bind (wpC_of (L1.at (wpC_bind (wpC_of (L2.at ?_))))))))))
  show wpC _ _ (Builtin.ObjectAttr.byHook (.ref x) (.str name t) (.ref fG)) _ _ _
  unfold Builtin.ObjectAttr.byHook
  refine wpC_bind (wpC_of ((bind_fn (M := model prog w) X (.ref x) hfn).at (wpC_bind (wpC_mono h (fun v s' z => ?_) fun _ _ z => z))))
  refine wpC_bind (wpC_rule (wpC_pure ?_))
  exact handed_on z.1 z.2
end
def fnIn (K : Frag) (f : Addr) : Bool := match K.lookup f with
  | some ⟨_, _, .func _, _⟩ => true
  | _ => false
theorem fn_obj {K : Frag} {f : Addr} {h : Heap} (X : K.In h) (e : fnIn K f = true) : ∃ o fd, h.get? f = some o ∧ o.data = .func fd := by
  unfold fnIn at e
  split at e
  · rename_i a b fd d ho
    exact ⟨_, fd, X _ _ ho, rfl⟩
  · cases e
theorem fn_514 {w : World} : fnIn (hd.heap_39 w.params) 514 = true := by kernel_rfl
theorem fn_521 {w : World} : fnIn (hd.heap_39 w.params) 521 = true := by kernel_rfl
theorem Cx.in1 {w : World} {mean : ExcName → Option Value} {mg mb : Str → Option Value} {A A₀ : Around} {base h₀ : Heap} {outer : List Env} {cn : Str} {cs : Scope} {a : Addr} {ccd : Value} {cl : List (Str × Addr)} {L : Addr} {m : Str → Option Value} {news : List (Addr × Obj)} {h : Heap} {k : Nat}
    (C : Cx w mean mg mb A A₀ base h₀ outer cn cs a ccd cl L m news h (k + 1)) : Cx w mean mg mb A.in1 A₀ base h₀ outer cn cs a ccd cl L m news h k :=
  ⟨C.B, C.F, C.X, C.N, C.T, C.hk, C.hA, C.hh, by have := C.hdp; show A.depth + k < recursionLimit; omega, by have := C.hun; show A.units + 1 + 100 * k < cLine; omega⟩
theorem handed_dat {n : List (Addr × Obj)} {r : Value} {d : Dat} (h : DatIn n r d) (hf : flatD d = true) : handedIn r = true := by cases h <;> first | rfl | cases hf
theorem handed_rd {n : List (Addr × Obj)} {r : Value} {d : Dat} (h : RdIn n r d) (hf : flatD d = true) : handedIn r = true := by cases h <;> first | rfl | cases hf
theorem rd_nil {led : List (Addr × Obj)} {v : Value} {d : Dat} (h : RdIn [] v d) : RdIn led v d := h.mono (fun p hp => absurd hp (List.not_mem_nil))
theorem kinds_nil : ∀ d ∈ ([] : List Dat), kindsD d = true := fun _ h => nomatch h
theorem kinds_cons {d₀ : Dat} {l : List Dat} (h : kindsD d₀ = true) (r : ∀ d ∈ l, kindsD d = true) : ∀ d ∈ d₀ :: l, kindsD d = true := fun d hd => (List.mem_cons.mp hd).elim (fun e => e ▸ h) (r d)
theorem at_0 {α : Type} {p0 : α} {l : List α} : (p0 :: l)[0]? = some p0 := rfl
theorem at_1 {α : Type} {p0 p1 : α} {l : List α} : (p0 :: p1 :: l)[1]? = some p1 := rfl
theorem at_2 {α : Type} {p0 p1 p2 : α} {l : List α} : (p0 :: p1 :: p2 :: l)[2]? = some p2 := rfl
theorem at_3 {α : Type} {p0 p1 p2 p3 : α} {l : List α} : (p0 :: p1 :: p2 :: p3 :: l)[3]? = some p3 := rfl
theorem at_4 {α : Type} {p0 p1 p2 p3 p4 : α} {l : List α} : (p0 :: p1 :: p2 :: p3 :: p4 :: l)[4]? = some p4 := rfl
theorem at_5 {α : Type} {p0 p1 p2 p3 p4 p5 : α} {l : List α} : (p0 :: p1 :: p2 :: p3 :: p4 :: p5 :: l)[5]? = some p5 := rfl
theorem at_6 {α : Type} {p0 p1 p2 p3 p4 p5 p6 : α} {l : List α} : (p0 :: p1 :: p2 :: p3 :: p4 :: p5 :: p6 :: l)[6]? = some p6 := rfl
theorem nmOf_at {fl : FL} {i : Nat} {fa : Addr} {name : Str} {z : Option Value} (hi : fl[i]? = some (fa, name, z)) : nmOf fl i = name := by unfold nmOf; rw [hi]; rfl
theorem fl_get {fl : FL} {i : Nat} {fa : Addr} {name : Str} {z : Option Value} (hi : fl[i]? = some (fa, name, z)) : (fl.map fun p => Value.ref p.1)[i]? = some (.ref fa) := by rw [List.getElem?_map, hi]; rfl
theorem fl_lt {fl : FL} {i : Nat} {y : Addr × Str × Option Value} (hi : fl[i]? = some y) : i < (fl.map fun p => Value.ref p.1).length := by rw [List.length_map]; exact (List.getElem?_eq_some_iff.mp hi).1
section
variable {w : World} {mean : ExcName → Option Value} {mg mb : Str → Option Value} {A A₀ : Around} {cn : Str} {cs : Scope} {a : Addr} {ccd : Value} {cl : List (Str × Addr)} {outer : List Env} {base h₀ : Heap} {L : Addr} {m : Str → Option Value} {news : List (Addr × Obj)} {s : Shared} {Q E : Value → Shared → Prop}
  {es : List DictEntry} {x dx l Kl Tf fa : Addr} {vs : List Value} {n nd i : Nat} {ws : List Str} {name : Str} {fl : FL} {expr : Bool}
theorem attr_plain (C : Cx w mean mg mb A A₀ base h₀ outer cn cs a ccd cl L m ((x, instObj Kl dx) :: (dx, dictOf es nd) :: (l, listOf vs.toArray n) :: news) s.heap 11) (GF : GetF w Kl) (CF : ClsF w Kl Tf) (e : fieldsAre (hd.heap_39 w.params) Tf fl = true)
    (fj : ∀ i, i < fl.length → ∀ j, j < fl.length → nmOf fl i = nmOf fl j → i = j) (sh : fl.length ≤ 1000) (hi : fl[i]? = some (fa, name, none)) (hS : StrsAre vs ws) (hb : ws.length ≤ 10) (hD : getL (Str.ofString "data") es = some (some (.ref l))) (hM : getL name es = some none)
    (hc : copiedNames.contains name = false) (ha : findIn (hd.heap_39 w.params) (.ref Kl) name = some none)
    (ret : RetV h₀ L m ((x, instObj Kl dx) :: (dx, dictOf es nd) :: (l, listOf vs.toArray n) :: news) s Q (readD ws false i)) :
    wpAny (model PySem.Challenge.rw_ez0290_01.row.prog w) A (getAttr (.ref x) name expr) Q E s := by
  obtain ⟨u, v, hI⟩ := (field_at C.X e hi).1 rfl
  refine get_hook C.F C.X (InstAt.of_news C.N (.head _) (.tail _ (.head _))) GF.ga (findObj_miss GF.dict ha hc (by show getL name _ = _; exact hM)) GF.hook fn_132 ?_
  rw [← nmOf_at hi]
  exact c_gaS2 (s := { s with toks := s.toks + 1 }) C.in1 hD GF CF (fieldT_of C.X e fj sh) hS hb (fl_lt hi) (fl_get hi) hI fun r h' tk' F' N' d => ⟨handed_dat d (flatD_read ws false i), ret r h' tk' F' N' d⟩
theorem attr_str (C : Cx w mean mg mb A A₀ base h₀ outer cn cs a ccd cl L m ((x, instObj Kl dx) :: (dx, dictOf es nd) :: (l, listOf vs.toArray n) :: news) s.heap 11) (GF : GetF w Kl) (CF : ClsF w Kl Tf) (e : fieldsAre (hd.heap_39 w.params) Tf fl = true)
    (fj : ∀ i, i < fl.length → ∀ j, j < fl.length → nmOf fl i = nmOf fl j → i = j) (sh : fl.length ≤ 1000) (hi : fl[i]? = some (fa, name, some (.type "str"))) (h6 : i = 6) (hS : StrsAre vs ws) (hb : ws.length ≤ 10) (hD : getL (Str.ofString "data") es = some (some (.ref l))) (hM : getL name es = some none)
    (hc : copiedNames.contains name = false) (ha : findIn (hd.heap_39 w.params) (.ref Kl) name = some none)
    (ret : RetV h₀ L m ((x, instObj Kl dx) :: (dx, dictOf es nd) :: (l, listOf vs.toArray n) :: news) s Q (frameD ws)) :
    wpAny (model PySem.Challenge.rw_ez0290_01.row.prog w) A (getAttr (.ref x) name expr) Q E s := by
  obtain ⟨u, v, hI⟩ := (field_at C.X e hi).2 _ rfl
  refine get_hook C.F C.X (InstAt.of_news C.N (.head _) (.tail _ (.head _))) GF.ga (findObj_miss GF.dict ha hc (by show getL name _ = _; exact hM)) GF.hook fn_132 ?_
  rw [← nmOf_at hi]
  exact c_gaS3 (s := { s with toks := s.toks + 1 }) C.in1 hD GF CF (fieldT_of C.X e fj sh) hS hb (fl_lt hi) (fl_get hi) h6 hI fun r h' tk' F' N' d => ⟨handed_dat d (by unfold frameD; split <;> rfl), ret r h' tk' F' N' d⟩
theorem attr_int (C : Cx w mean mg mb A A₀ base h₀ outer cn cs a ccd [] L m ((x, instObj Kl dx) :: (dx, dictOf es nd) :: (l, listOf vs.toArray n) :: news) s.heap 11) (XB : (hd.heap_39 w.params).In base) (TB : Top hd.view_39 LL mean mg mb base) (D : KtsDicts (outer.filterMap (·.frame)) h₀)
    (GF : GetF w Kl) (CF : ClsF w Kl Tf) (e : fieldsAre (hd.heap_39 w.params) Tf fl = true)
    (fj : ∀ i, i < fl.length → ∀ j, j < fl.length → nmOf fl i = nmOf fl j → i = j) (sh : fl.length ≤ 1000) (hi : fl[i]? = some (fa, name, some (.type "int"))) (hS : StrsAre vs ws) (hb : ws.length ≤ 10) (hw : ∀ x ∈ ws, WordOk x) (hD : getL (Str.ofString "data") es = some (some (.ref l))) (hM : getL name es = some none)
    (hc : copiedNames.contains name = false) (ha : findIn (hd.heap_39 w.params) (.ref Kl) name = some none)
    (ret : RetT w mean mg mb A₀ base outer h₀ L m ((x, instObj Kl dx) :: (dx, dictOf es nd) :: (l, listOf vs.toArray n) :: news) s Q (readD ws true i)) :
    wpC (model PySem.Challenge.rw_ez0290_01.row.prog w) A (getAttr (.ref x) name expr) Q E s := by
  obtain ⟨u, v, hI⟩ := (field_at C.X e hi).2 _ rfl
  refine get_hookC C.F C.X (InstAt.of_news C.N (.head _) (.tail _ (.head _))) GF.ga (findObj_miss GF.dict ha hc (by show getL name _ = _; exact hM)) GF.hook fn_132 ?_
  rw [← nmOf_at hi]
  exact c_gaI (s := { s with toks := s.toks + 1 }) C.in1 XB TB D hD GF CF (fieldT_of C.X e fj sh) hS hb (fl_lt hi) (fl_get hi) hw hI fun r h' tk' h₁ T0 F' N' B' X' T' D' d => ⟨handed_rd d (flatD_read ws true i), ret r h' tk' h₁ T0 F' N' B' X' T' D' d⟩
end
end Mine
end

section
open PySem PySem.W PySem.W.X PySem.Spec PySem.Calls PyProof.Rows
namespace Mine
local macro_rules | `(tactic| k_room) => `(tactic| ktr_room)
local macro_rules | `(tactic| units_room) => `(tactic| ktr_units)
local macro_rules | `(tactic| k_units) => `(tactic| ktr_units)
variable {w : World} {mean : ExcName → Option Value} {mg mb : Str → Option Value} {A A₀ : Around} {cn : Str} {cs : Scope} {a : Addr} {ccd : Value} {cl : List (Str × Addr)} {outer : List Env} {base h₀ : Heap} {L : Addr} {m : Str → Option Value} {news : List (Addr × Obj)} {s : Shared} {Q E : Value → Shared → Prop}
set_option maxRecDepth 100000 in
set_option maxHeartbeats 8000000 in
theorem c_whole {x : Str} {t : Tok} (C : Cx w mean mg mb A A₀ base h₀ outer cn cs a ccd cl L m news s.heap 3) (ret : RetV h₀ L m news s Q (wholeD x)) :
    wpAny (model PySem.Challenge.rw_ez0290_01.row.prog w) A (call (.ref 502) [.str x t]) Q E s := by
  w_top off
  k_with_none
  obtain ⟨B, F, X, N, T, hk, hA, hh, hdp, hun⟩ := C
  obtain ⟨hd, dp, fr, gd, un⟩ := A
  dsimp only at hA hh hdp hun
  subst hA hh
  revert X; k_fill; intro X
  refine wpAny_call ?_
  k_dflt ktr_enter
  k_steps
  all_goals (try dsimp only)
  · exact ret _ _ _ (by k_asm) (by k_asm) (whole_none (by assumption))
  · exact ret _ _ _ (by k_asm) (by k_asm) (whole_m3 (by assumption) (by assumption))
  · exact ret _ _ _ (by k_asm) (news_1 (by k_asm)) (whole_tab (by assumption) (by assumption) (by assumption))
end Mine
end

section
open PySem PySem.W PySem.W.X PySem.Spec PySem.Calls PyProof.Rows
namespace Mine
local macro_rules | `(tactic| k_room) => `(tactic| ktr_room)
local macro_rules | `(tactic| units_room) => `(tactic| ktr_units)
local macro_rules | `(tactic| k_units) => `(tactic| ktr_units)
local macro_rules | `(tactic| walk_at "call builtin:len") => `(tactic| (k_here; (with_reducible show wpAny _ _ (call (Value.builtin "len") [Value.ref _]) _ _ _); k_dflt (refine' len_txt ?k1 ?k2 ?k3 ?_; (case k1 => first | is_list | exact News.isList (by k_asm) (by k_mem)); (case k2 => with_reducible assumption); (case k3 => omega); k_whole)))
local macro_rules | `(tactic| walk_at "subscriptTail") => `(tactic| (k_here; (with_reducible show wpAny _ _ (subscriptTail _ _ (Value.ref _) (Value.int _ _)) _ _ _); (with_unfolding_all refine' item_txt ?k1 ?k2 ?k3 ?k4 ?k5 ?_ ?k6 ?k7; (case k1 => first | is_list | exact News.isList (by k_asm) (by k_mem)); (case k2 => with_reducible assumption); (case k3 => omega); (case k4 => first | decide | omega); (case k5 => omega); (case k6 => with_unfolding_all rfl); (case k7 => intro _; with_unfolding_all rfl); k_whole); intro _))
variable {w : World} {mean : ExcName → Option Value} {mg mb : Str → Option Value} {A A₀ : Around} {cn : Str} {cs : Scope} {a : Addr} {ccd : Value} {cl : List (Str × Addr)} {outer : List Env} {base h₀ : Heap} {L : Addr} {m : Str → Option Value} {news : List (Addr × Obj)} {s : Shared} {Q E : Value → Shared → Prop}
def vInt : Value → Bool
  | .int .. => true
  | _ => false
def vStr : Value → Bool
  | .str .. => true
  | _ => false
def vFlat (v : Value) : Prop := v = .none ∨ (∃ i t, v = .int i t) ∨ ∃ x t, v = .str x t
theorem isi_1 {v : Value} {Q : Value → Shared → Prop} (hv : vFlat v) (X : (hd.heap_39 w.params).In s.heap) (h : ∀ tk, Q (.bool (vInt v)) { s with toks := tk }) :
    wpAny (model PySem.Challenge.rw_ez0290_01.row.prog w) A (call (.builtin "isinstance") [v, .type "int"]) Q E s := by
  w_top off
  k_with_none
  revert X; k_fill; intro X
  rcases hv with rfl | ⟨i, t, rfl⟩ | ⟨x, t, rfl⟩
  all_goals (k_steps; exact h _)
theorem isi_2 {v : Value} {Q : Value → Shared → Prop} (hv : vFlat v) (X : (hd.heap_39 w.params).In s.heap) (h : ∀ tk, Q (.bool (vStr v)) { s with toks := tk }) :
    wpAny (model PySem.Challenge.rw_ez0290_01.row.prog w) A (call (.builtin "isinstance") [v, .type "str"]) Q E s := by
  w_top off
  k_with_none
  revert X; k_fill; intro X
  rcases hv with rfl | ⟨i, t, rfl⟩ | ⟨x, t, rfl⟩
  all_goals (k_steps; exact h _)
section
variable {M : Model} {env : Env} {pos : Pos} {m₂ : Str → Option Value}
theorem nm_local {x : Str} {v : Value} (hk : env.scope.kind = .function) (k1 : env.kindOf x = some .local) (hn : s.heap.Ns env.locals m₂) (hm : m₂ x = some v) (h : Q v s) (hd : (x == ("__debug__" : Str)) = false) :
    wpAny M A (eval (.Name x pos) env) Q E s := wpAny_Name (wpAny_loadName_local hk k1 hn hm h) hd
theorem nm_boot {x : Str} {v : Value} (hk : env.scope.kind = .function) (k1 : env.kindOf x = some .globalImplicit) (hg : env.globals = mainGlobals) (hb : env.builtins = builtinsNs) (kp : ∀ b o, h₀.get? b = some o → s.heap.get? b = some o)
    (T : Top hd.view_39 LL mean mg mb h₀) (hmiss : mg x = none) (hv : bootBuiltins x = some v) (hne : x ≠ "__name__") (h : Q v s) (hd : (x == ("__debug__" : Str)) = false) : wpAny M A (eval (.Name x pos) env) Q E s :=
  Calls.Name_function_global hk k1 (Calls.loadGlobal_builtin (env := env) (by rw [hg]; exact T.g.keeps kp) hmiss (by rw [hb]; exact T.b.keeps kp) ((T.builtins x hne).trans hv) h) hd
theorem newList_raw {vs : List Value} (h : Q (.ref s.heap.objs.size) { s with heap := s.heap.push (listOf vs.toArray 0) }) (hz : vs.length ≤ sizeLine) : wpAny M A (newList vs) Q E s :=
  wpAny_newObj_type h (by show vs.toArray.size ≤ sizeLine; rw [List.size_toArray]; exact hz)
end
def kindG (v : Value) (its : Array Value) : Prop := its = #[v, .bool (vInt v), .bool (vStr v)]
section
local macro_rules | `(tactic| walk_at "eval Name") => `(tactic| first
  | (refine nm_local (by assumption) (by assumption) (by assumption) (by assumption) ?_ (by decide))
  | (refine nm_boot (by assumption) (by assumption) (by assumption) (by assumption) (by assumption) (by assumption) (by assumption) (by boot_by_name) (by decide) ?_ (by decide)))
local macro_rules | `(tactic| walk_at "call builtin:isinstance") => `(tactic| first
  | (refine isi_1 (by assumption) (by assumption) ?_; intro _)
  | (refine isi_2 (by assumption) (by assumption) ?_; intro _))
local macro_rules | `(tactic| walk_at "newList") => `(tactic| refine newList_raw ?_ (Nat.le_of_ble_eq_true rfl))
set_option maxRecDepth 100000 in
theorem kinded_elt {env : Env} {v : Value} {m₂ : Str → Option Value} {p1 p2 p3 p4 p5 p6 p7 p8 p9 p10 : Pos} (hk : env.scope.kind = .function) (k1 : env.kindOf (Str.ofString "read") = some .local) (k2 : env.kindOf (Str.ofString "isinstance") = some .globalImplicit) (k3 : env.kindOf (Str.ofString "int") = some .globalImplicit)
    (k4 : env.kindOf (Str.ofString "str") = some .globalImplicit) (hg : env.globals = mainGlobals) (hb : env.builtins = builtinsNs) (hn : s.heap.Ns env.locals m₂) (hm : m₂ (Str.ofString "read") = some v) (hv : vFlat v)
    (kp : ∀ b o, h₀.get? b = some o → s.heap.get? b = some o) (X : (hd.heap_39 w.params).In s.heap) (T : Top hd.view_39 LL mean mg mb h₀) (n2 : mg (Str.ofString "isinstance") = none) (n3 : mg (Str.ofString "int") = none) (n4 : mg (Str.ofString "str") = none) 
    (h : ∀ tk, Q (.ref s.heap.objs.size) { s with heap := s.heap.push (listOf [v, .bool (vInt v), .bool (vStr v)].toArray 0), toks := tk }) :
    wpAny (model PySem.Challenge.rw_ez0290_01.row.prog w) A (eval (.List [.Name (Str.ofString "read") p1, .Call (.Name (Str.ofString "isinstance") p2) [.Name (Str.ofString "read") p3, .Name (Str.ofString "int") p4] [] p5, .Call (.Name (Str.ofString "isinstance") p6) [.Name (Str.ofString "read") p7, .Name (Str.ofString "str") p8] [] p9] p10) env) Q E s := by
  w_top off
  k_with_none
  k_steps
  exact h _
end
set_option maxRecDepth 100000 in
theorem comp_kinded {env : Env} {l : Addr} {vs : List Value} {scope : Scope} {p1 p2 p3 p4 p5 p6 p7 p8 p9 p10 px p11 pos : Pos} (hh : A.handled = none) (hl : s.heap.IsList l vs.toArray) (hv : ∀ v ∈ vs, vFlat v) (hb : vs.length ≤ 20)
    (hclos : closureFor scope env = pure []) (hcell : ∀ y ∈ scope.names, y.2 ≠ .cell) (hkind : scope.kind = .function) (hnames : ∀ y ∈ scope.names, y.2 = .local → scope.names.lookup y.1 = some .local) (hx : scope.names.lookup (Str.ofString "read") = some .local)
    (k0 : (relabel scope env).kind = .function) (k1 : ∀ C, (compEnvC scope [] C env).kindOf (Str.ofString "read") = some .local) (k2 : ∀ C, (compEnvC scope [] C env).kindOf (Str.ofString "isinstance") = some .globalImplicit) (k3 : ∀ C, (compEnvC scope [] C env).kindOf (Str.ofString "int") = some .globalImplicit)
    (k4 : ∀ C, (compEnvC scope [] C env).kindOf (Str.ofString "str") = some .globalImplicit) (hg : env.globals = mainGlobals) (hbb : env.builtins = builtinsNs)
    (kp : ∀ b o, h₀.get? b = some o → s.heap.get? b = some o) (X : (hd.heap_39 w.params).In h₀) (T : Top hd.view_39 LL mean mg mb h₀) (n2 : mg (Str.ofString "isinstance") = none) (n3 : mg (Str.ofString "int") = none) (n4 : mg (Str.ofString "str") = none)
    (hr : ∀ Q' : Value → Shared → Prop, Q' (.ref l) s → wpAny (model PySem.Challenge.rw_ez0290_01.row.prog w) A (eval (.Name (Str.ofString "reads") p11) env) Q' E s)
    (hs : ∀ x, foldedSetIterable (.Name (Str.ofString "reads") p11) env x = pure x)
    (h : ∀ D ys h' tk, (∀ b o, s.heap.get? b = some o → h'.get? b = some o) → s.heap.get? D = none → h'.PlainList D ys → Paired (LstIs s.heap kindG h') vs ys.toList → Q (.ref D) { s with heap := h', toks := tk }) :
    wpAny (model PySem.Challenge.rw_ez0290_01.row.prog w) A (eval (.ListComp (.List [.Name (Str.ofString "read") p1, .Call (.Name (Str.ofString "isinstance") p2) [.Name (Str.ofString "read") p3, .Name (Str.ofString "int") p4] [] p5, .Call (.Name (Str.ofString "isinstance") p6) [.Name (Str.ofString "read") p7, .Name (Str.ofString "str") p8] [] p9] p10)
      [⟨.Name (Str.ofString "read") px, .Name (Str.ofString "reads") p11, [], 0⟩] scope pos) env) Q E s := by
  refine wpAny_ListComp_freeO (fun _ => true) kindG hclos hcell hkind hnames hx (hr _ (wpAny_pyIter_list hl ?_)) hs
  have hlt : l < s.heap.objs.size := by obtain ⟨_, e, _⟩ := hl; exact Heap.lt_size e
  have up : ∀ b o, s.heap.get? b = some o → (s.heap.push { cls := .type "list_iterator", data := .fields #[.ref l, .int 0 0] }).get? b = some o := fun b o e => Heap.get?_push_of_some _ e
  refine ⟨s.heap.objs.size, [s.heap.objs.size, l], [s.heap.objs.size], vs.toArray.size, _, _, rfl, Walks.list hh _ l (Nat.ne_of_lt hlt) vs.toArray, ?_, ?_, ⟨⟨_, Heap.get?_push_size _ rfl, rfl, rfl⟩, hl.at fun o e => up _ o e⟩, ?_, ⟨?_, ?_⟩, ?_⟩
  · rw [List.size_toArray, sizeLine_eq]; omega
  · intro i h hst b hb
    rw [List.mem_singleton.mp hb]
    obtain ⟨⟨o, ho, _⟩, _⟩ := hst
    exact ⟨o, ho⟩
  · intro b hb
    show b < (s.heap.push _).objs.size
    rw [Heap.size_push]
    rcases List.mem_cons.mp hb with rfl | hb
    · exact Nat.lt_succ_self _
    · rw [List.mem_singleton.mp hb]; exact Nat.lt_succ_of_lt hlt
  · intro C i v s₃ m₃ E' _ _ _ _ _ _
    exact wpAny_pure ⟨rfl, _, _, rfl, fun _ _ e => e⟩
  · intro C i v s₃ m₃ E' hC hP _ hn hm hk _
    have hmem : v ∈ vs := by
      have : vs[i]? = some v := by simpa using hP
      exact List.mem_of_getElem? this
    have kp' : ∀ b o, h₀.get? b = some o → s₃.heap.get? b = some o := fun b o e => hk b o (not_iter_of_old (kp b o e)) (up b o (kp b o e))
    refine kinded_elt k0 (k1 C) (k2 C) (k3 C) (k4 C) hg hbb hn hm (hv v hmem) kp' (X.keeps kp') T n2 n3 n4 fun tk => ?_
    refine ⟨⟨s₃.heap.objs.size, _, rfl, ?_, ⟨_, Heap.get?_push_size _ rfl, rfl, _, rfl⟩, rfl⟩, _, _, rfl, fun b o e => Heap.get?_push_of_some _ e⟩
    cases e : s₃.heap.get? s₃.heap.objs.size with
    | none => rfl
    | some o => exact absurd (Heap.lt_size e) (Nat.lt_irrefl _)
  · intro D h' tk ys vs' hD _ hpl hlen hP hF _ _ hk
    have e' : vs' = vs := by simpa using walked_is hlen hP
    subst e'
    have hk' : ∀ b o, s.heap.get? b = some o → h'.get? b = some o := fun b o e => hk b o (not_iter_of_old e) (up b o e)
    have none_of : ∀ b, (s.heap.push { cls := .type "list_iterator", data := .fields #[.ref l, .int 0 0] }).get? b = none → s.heap.get? b = none := fun b e => by
      cases q : s.heap.get? b with
      | none => rfl
      | some o => rw [up b o q] at e; cases e
    refine h D ys h' tk hk' (none_of D hD) hpl ?_
    have ef : vs'.filter (fun _ => true) = vs' := List.filter_eq_self.mpr fun _ _ => rfl
    rw [ef] at hF
    exact hF.mono fun _ _ hy => by
      obtain ⟨T, its, rfl, h1, hlT, hG⟩ := hy
      exact ⟨T, its, rfl, none_of T h1, hlT, hG⟩
theorem rd_kind {news : List (Addr × Obj)} {v : Value} {d : Dat} (h : RdIn news v d) (hf : kindsD d = true) : vFlat v ∧ vInt v = isIntD d ∧ vStr v = isStrD d := by
  cases h with
  | none => exact ⟨.inl rfl, rfl, rfl⟩
  | bool b => cases hf
  | int i t => exact ⟨.inr (.inl ⟨i, t, rfl⟩), rfl, rfl⟩
  | str x t => exact ⟨.inr (.inr ⟨x, t, rfl⟩), rfl, rfl⟩
  | list _ _ _ _ => cases hf
theorem rdAll_flat {news : List (Addr × Obj)} : ∀ {vs : List Value} {ds : List Dat}, RdAll news vs ds → (∀ d ∈ ds, kindsD d = true) → ∀ v ∈ vs, vFlat v
  | _, _, .nil, _ => fun _ h => (nomatch h)
  | _, _, .cons h r, hf => fun v hv => by
    rcases List.mem_cons.mp hv with rfl | hv
    · exact (rd_kind h (hf _ (.head _))).1
    · exact rdAll_flat r (fun d hd => hf d (.tail _ hd)) v hv
theorem rd_kf {news n' : List (Addr × Obj)} {v : Value} {d : Dat} (h : RdIn news v d) (hf : kindsD d = true) : RdIn n' v d := by
  cases h with
  | none => exact .none
  | bool b => cases hf
  | int i t => exact .int _ _
  | str x t => exact .str _ _
  | list _ _ _ _ => cases hf
theorem kind_pairs {h1 h' : Heap} {news : List (Addr × Obj)} : ∀ {vs ys : List Value} {ds : List Dat}, Paired (LstIs h1 kindG h') vs ys → RdAll news vs ds → (∀ d ∈ ds, kindsD d = true) →
    ∃ tl : List (Addr × Obj), (∀ p ∈ tl, h'.get? p.1 = some p.2 ∧ h1.get? p.1 = none) ∧ RdAll tl ys (ds.map kindD)
  | _, _, _, .nil, .nil, _ => ⟨[], fun _ h => (nomatch h), .nil⟩
  | _, _, _, .cons hy hp, .cons hd hr, hf => by
    obtain ⟨tl, ht, hq⟩ := kind_pairs hp hr fun d hd => hf d (.tail _ hd)
    obtain ⟨T, its, rfl, hn, ⟨o, ho, hc, n, hdt⟩, hG⟩ := hy
    have k := rd_kind hd (hf _ (.head _))
    unfold kindG at hG
    subst hG
    refine ⟨(T, o) :: tl, fun p hp => ?_, .cons ?_ (RdAll.mono (fun p hp => ?_) hq)⟩
    · rcases List.mem_cons.mp hp with rfl | hp
      · exact ⟨ho, hn⟩
      · exact ht p hp
    · refine .list (.head _) hc (n := n) (vs := [_, _, _]) hdt (.cons (rd_kf hd (hf _ (.head _))) (.cons ?_ (.cons ?_ .nil)))
      · rw [k.2.1]; exact .bool _
      · rw [k.2.2]; exact .bool _
    · exact .tail _ hp
theorem kind_led {h1 h' : Heap} {vs : List Value} {ys : Array Value} {ds : List Dat} {D : Addr} (F : Fr h₀ L h1 m) (N : News h₀ L h1 news) (kp : ∀ b o, h1.get? b = some o → h'.get? b = some o) (hD : h1.get? D = none) (pl : h'.PlainList D ys)
    (hp : Paired (LstIs h1 kindG h') vs ys.toList) (hr : RdAll news vs ds) (hf : ∀ d ∈ ds, kindsD d = true) :
    ∃ tl, News h₀ L h' (tl ++ news) ∧ (∀ q ∈ news, ∀ p ∈ tl, p.1 ≠ q.1) ∧ RdIn tl (.ref D) (.list (ds.map kindD)) := by
  obtain ⟨tl, ht, hq⟩ := kind_pairs hp hr hf
  obtain ⟨n, hpl⟩ := pl
  have key : ∀ p ∈ (D, ({ cls := .type "list", data := .seq ys n } : Obj)) :: tl, h'.get? p.1 = some p.2 ∧ h1.get? p.1 = none := fun p hp => by
    rcases List.mem_cons.mp hp with rfl | hp
    · exact ⟨hpl, hD⟩
    · exact ht p hp
  obtain ⟨oL, _, _, hL, _⟩ := F.ns
  refine ⟨(D, ({ cls := .type "list", data := .seq ys n } : Obj)) :: tl, fun p hp => ?_, fun q hq p hp => ?_, .list (o := { cls := .type "list", data := .seq ys n }) (.head _) rfl (n := n) (vs := ys.toList) (by simp) (RdAll.mono (fun p hp => List.Mem.tail _ hp) hq)⟩
  · rcases List.mem_append.mp hp with hp | hp
    · have k := key p hp
      refine ⟨k.1, fun e => ?_, ?_⟩
      · have := k.2; rw [e, hL] at this; cases this
      · cases e : h₀.get? p.1 with
        | none => rfl
        | some o => have := k.2; rw [F.keep _ _ e] at this; cases this
    · exact ⟨kp _ _ (N p hp).1, (N p hp).2⟩
  · intro e
    have k := (key p hp).2
    rw [e, (N q hq).1] at k
    cases k
theorem rd_inv {news : List (Addr × Obj)} {l : Addr} {ds : List Dat} (h : RdIn news (.ref l) (.list ds)) : ∃ o vs n, (l, o) ∈ news ∧ o.cls = .type "list" ∧ o.data = .seq (List.toArray vs) n ∧ RdAll news vs ds := by
  cases h with
  | list a b c d => exact ⟨_, _, _, a, b, c, d⟩
section
local macro_rules | `(tactic| walk_at "eval ListComp") => `(tactic| (k_here; (with_reducible rename Fr _ _ _ _ => kF); (with_reducible rename News _ _ _ _ => kN); (with_reducible rename RdAll _ _ _ => kR); (rename Frag.In _ _ => kX); (rename Top _ _ _ _ _ _ => kT); (k_dflt (refine' comp_kinded (vs := ?vs) rfl ?hl ?hv ?hb ?hclos ?hcell ?hkind ?hnames ?hx ?k0 ?k1 ?k2 ?k3 ?k4 ?hg ?hbb ?kp kX kT ?n2 ?n3 ?n4 ?hr ?hs ?_; (case hl => exact ⟨_, (kN _ (by assumption)).1, by assumption, _, by assumption⟩); (case hv => exact rdAll_flat kR (by assumption)); (case hb => rw [RdAll.length kR]; assumption); (case hclos => with_unfolding_all rfl); (case hcell => decide); (case hkind => with_unfolding_all rfl); (case hnames => decide); (case hx => with_unfolding_all rfl); (case k0 => with_unfolding_all rfl); (case k1 => intro _; with_unfolding_all rfl); (case k2 => intro _; with_unfolding_all rfl); (case k3 => intro _; with_unfolding_all rfl); (case k4 => intro _; with_unfolding_all rfl); (case hg => rfl); (case hbb => rfl); (case kp => exact kF.keep); (case n2 => exact mg_none_of kX kT.g (by k_is)); (case n3 => exact mg_none_of kX kT.g (by k_is)); (case n4 => exact mg_none_of kX kT.g (by k_is)); (case hr => intro Q' hq; exact ld kF rfl hq); (case hs => intro _; with_unfolding_all rfl))); (intro D' ys' h' tk' kp' nn' pl' pr'); (have F'' := Fr.keeps kF kp'); (obtain ⟨tl', N'', ne', rd'⟩ := kind_led kF kN kp' nn' pl' pr' kR (by assumption)); clear kF kN))
set_option maxRecDepth 100000 in
set_option maxHeartbeats 8000000 in
theorem c_kindedO {l : Addr} {ds : List Dat} (C : Cx w mean mg mb A A₀ base h₀ outer cn cs a ccd cl L m (news) s.heap 3) (hr : RdIn news (.ref l) (.list ds)) (hf : ∀ d ∈ ds, kindsD d = true) (hb : ds.length ≤ 20)
    (ret : RetO h₀ L m news s Q (.list (ds.map kindD))) :
    wpAny (model PySem.Challenge.rw_ez0290_01.row.prog w) A (call (.ref 514) [.ref l]) Q E s := by
  w_top off
  k_with_none
  obtain ⟨B, F, X, N, T, hk, hA, hh, hdp, hun⟩ := C
  obtain ⟨hd, dp, fr, gd, un⟩ := A
  dsimp only at hA hh hdp hun
  subst hA hh
  revert X; k_fill; intro X
  refine wpAny_call ?_
  k_dflt ktr_enter
  obtain ⟨o, vs, n, hm, hc, hd, kR⟩ := rd_inv hr
  clear hr
  k_steps
  exact ret _ _ _ _ (by k_asm) (by k_asm) (by assumption) (by assumption)
end
theorem c_kinded {l : Addr} {ds : List Dat} (C : Cx w mean mg mb A A₀ base h₀ outer cn cs a ccd cl L m (news) s.heap 3) (hr : RdIn news (.ref l) (.list ds)) (hf : ∀ d ∈ ds, kindsD d = true) (hb : ds.length ≤ 20)
    (ret : RetD h₀ L m news s Q (.list (ds.map kindD))) :
    wpAny (model PySem.Challenge.rw_ez0290_01.row.prog w) A (call (.ref 514) [.ref l]) Q E s :=
  c_kindedO C hr hf hb fun r h' tk' tl F' N' off rd => ret r h' tk' tl F' N' off (rd.mono fun _ h => List.mem_append_left _ h)
end Mine
end

section
open PySem PySem.W PySem.W.X PySem.Spec PySem.Calls PyProof.Rows
namespace Mine
local macro_rules | `(tactic| k_room) => `(tactic| ktr_room)
local macro_rules | `(tactic| units_room) => `(tactic| ktr_units)
local macro_rules | `(tactic| k_units) => `(tactic| ktr_units)
local macro_rules | `(tactic| walk_at "call builtin:len") => `(tactic| (k_here; (with_reducible show wpAny _ _ (call (Value.builtin "len") [Value.ref _]) _ _ _); k_dflt (refine' len_txt ?k1 ?k2 ?k3 ?_; (case k1 => first | is_list | exact News.isList (by k_asm) (by k_mem)); (case k2 => with_reducible assumption); (case k3 => omega); k_whole)))
local macro_rules | `(tactic| walk_at "subscriptTail") => `(tactic| (k_here; (with_reducible show wpAny _ _ (subscriptTail _ _ (Value.ref _) (Value.int _ _)) _ _ _); (with_unfolding_all refine' item_txt ?k1 ?k2 ?k3 ?k4 ?k5 ?_ ?k6 ?k7; (case k1 => first | is_list | exact News.isList (by k_asm) (by k_mem)); (case k2 => with_reducible assumption); (case k3 => omega); (case k4 => first | decide | omega); (case k5 => omega); (case k6 => with_unfolding_all rfl); (case k7 => intro _; with_unfolding_all rfl); k_whole); intro _))
variable {w : World} {mean : ExcName → Option Value} {mg mb : Str → Option Value} {A A₀ : Around} {cn : Str} {cs : Scope} {a : Addr} {ccd : Value} {cl : List (Str × Addr)} {outer : List Env} {base h₀ : Heap} {L : Addr} {m : Str → Option Value} {news : List (Addr × Obj)} {s : Shared} {Q E : Value → Shared → Prop}
set_option maxRecDepth 100000 in
set_option maxHeartbeats 8000000 in
theorem c_frame {l : Addr} {vs : List Value} {n : Nat} {ws : List Str} (C : Cx w mean mg mb A A₀ base h₀ outer cn cs a ccd cl L m ((l, listOf vs.toArray n) :: news) s.heap 3) (hS : StrsAre vs ws) (hb : ws.length ≤ 20)
    (ret : RetV h₀ L m ((l, listOf vs.toArray n) :: news) s Q (frameD ws)) :
    wpAny (model PySem.Challenge.rw_ez0290_01.row.prog w) A (call (.ref 535) [.ref l]) Q E s := by
  w_top off
  k_with_none
  obtain ⟨B, F, X, N, T, hk, hA, hh, hdp, hun⟩ := C
  obtain ⟨hd, dp, fr, gd, un⟩ := A
  dsimp only at hA hh hdp hun
  subst hA hh
  revert X; k_fill; intro X
  refine wpAny_call ?_
  k_dflt ktr_enter
  k_steps
  all_goals (try dsimp only)
  · exact ret _ _ _ (by k_asm) (by k_asm) (frame_1 (by assumption) (by assumption) ▸ DatIn.str _ _)
  · exact ret _ _ _ (by k_asm) (by k_asm) (frame_2 (by assumption) ▸ DatIn.none)
  · exact ret _ _ _ (by k_asm) (by k_asm) (frame_3 (by assumption) ▸ DatIn.none)
end Mine
end

section
open PySem PySem.W PySem.W.X PySem.Spec PySem.Calls PyProof.Rows
namespace Mine
local macro_rules | `(tactic| k_room) => `(tactic| ktr_room)
local macro_rules | `(tactic| units_room) => `(tactic| ktr_units)
local macro_rules | `(tactic| k_units) => `(tactic| ktr_units)
local macro_rules | `(tactic| walk_at "call builtin:len") => `(tactic| (k_here; (with_reducible show wpAny _ _ (call (Value.builtin "len") [Value.ref _]) _ _ _); k_dflt (refine' len_txt ?k1 ?k2 ?k3 ?_; (case k1 => first | is_list | exact News.isList (by k_asm) (by k_mem)); (case k2 => with_reducible assumption); (case k3 => omega); k_whole)))
local macro_rules | `(tactic| walk_at "subscriptTail") => `(tactic| (k_here; (with_reducible show wpAny _ _ (subscriptTail _ _ (Value.ref _) (Value.int _ _)) _ _ _); (with_unfolding_all refine' item_txt ?k1 ?k2 ?k3 ?k4 ?k5 ?_ ?k6 ?k7; (case k1 => first | is_list | exact News.isList (by k_asm) (by k_mem)); (case k2 => with_reducible assumption); (case k3 => omega); (case k4 => first | decide | omega); (case k5 => omega); (case k6 => with_unfolding_all rfl); (case k7 => intro _; with_unfolding_all rfl); k_whole); intro _))
variable {w : World} {mean : ExcName → Option Value} {mg mb : Str → Option Value} {A A₀ : Around} {cn : Str} {cs : Scope} {a : Addr} {ccd : Value} {cl : List (Str × Addr)} {outer : List Env} {base h₀ : Heap} {L : Addr} {m : Str → Option Value} {news : List (Addr × Obj)} {s : Shared} {Q E : Value → Shared → Prop}
local macro_rules | `(tactic| walk_at "call ref") => `(tactic| (k_here; (with_reducible show wpAny _ _ (call (Value.ref 502) [Value.str _ _]) _ _ _); k_dflt (refine' c_whole ⟨?kB, ?kF, ?kX, ?kN, ?kT, ?kk, ?kA, ?kh, ?kd, ?ku⟩ ?_; (case kB => k_asm); (case kF => k_asm); (case kX => k_asm); (case kN => k_asm); (case kT => k_asm); (case kA => exact rfl); (case kk => exact rfl); (case kh => exact rfl); (case kd => ktr_room); (case ku => ktr_units); k_whole); intro r' h' tk' F' N' d'))
set_option maxRecDepth 100000 in
set_option maxHeartbeats 8000000 in
theorem c_readsO {l : Addr} {vs : List Value} {n k : Nat} {ws : List Str} {t1 t2 : Tok} {b : Bool} (C : Cx w mean mg mb A A₀ base h₀ outer cn cs a ccd cl L m ((l, listOf vs.toArray n) :: news) s.heap 6) (hS : StrsAre vs ws) (hb : ws.length ≤ 20) (hk10 : k ≤ 10)
    (ret : RetO h₀ L m ((l, listOf vs.toArray n) :: news) s Q (.list ((rangeKs 0 k).map (readD ws b)))) :
    wpAny (model PySem.Challenge.rw_ez0290_01.row.prog w) A (call (.ref 528) [.ref l, .int 0 t1, .int k t2, .bool b]) Q E s := by
  w_top off
  k_with_none
  obtain ⟨B, F, X, N, T, hk, hA, hh, hdp, hun⟩ := C
  obtain ⟨hd, dp, fr, gd, un⟩ := A
  dsimp only at hA hh hdp hun
  subst hA hh
  revert X; k_fill; intro X
  refine wpAny_call ?_
  k_dflt ktr_enter
  k_with "pyIter ref" => k_dat (fun pre reads => reads = pre.map (readD ws b)) "reads*"
  k_with "state" => first | rfl | exact reads_1 (by first | assumption | omega) (by assumption) | exact reads_2 (by first | assumption | omega) (by assumption) | exact reads_3 (by first | assumption | omega) (by assumption) | exact reads_4 (by first | assumption | omega) (by assumption)
  k_steps
  (with_reducible rename DatAll _ _ _ => kD')
  obtain ⟨r1, r2, r3⟩ := reads_end (by k_asm) (by assumption) kD'
  exact ret _ _ _ _ (by k_asm) r1 r2 r3
theorem c_reads {l : Addr} {vs : List Value} {n k : Nat} {ws : List Str} {t1 t2 : Tok} {b : Bool} (C : Cx w mean mg mb A A₀ base h₀ outer cn cs a ccd cl L m ((l, listOf vs.toArray n) :: news) s.heap 6) (hS : StrsAre vs ws) (hb : ws.length ≤ 20) (hk10 : k ≤ 10)
    (ret : RetD h₀ L m ((l, listOf vs.toArray n) :: news) s Q (.list ((rangeKs 0 k).map (readD ws b)))) :
    wpAny (model PySem.Challenge.rw_ez0290_01.row.prog w) A (call (.ref 528) [.ref l, .int 0 t1, .int k t2, .bool b]) Q E s :=
  c_readsO C hS hb hk10 fun r h' tk' tl F' N' off rd => ret r h' tk' tl F' N' off (rd.mono fun _ h => List.mem_append_left _ h)
end Mine
end

section
open PySem PySem.W PySem.W.X PySem.Spec PySem.Calls PyProof.Rows
namespace Mine
local macro_rules | `(tactic| k_room) => `(tactic| ktr_room)
local macro_rules | `(tactic| units_room) => `(tactic| ktr_units)
local macro_rules | `(tactic| k_units) => `(tactic| ktr_units)
local macro_rules | `(tactic| walk_at "call builtin:len") => `(tactic| (k_here; (with_reducible show wpAny _ _ (call (Value.builtin "len") [Value.ref _]) _ _ _); k_dflt (refine' len_txt ?k1 ?k2 ?k3 ?_; (case k1 => first | is_list | exact News.isList (by k_asm) (by k_mem)); (case k2 => with_reducible assumption); (case k3 => omega); k_whole)))
local macro_rules | `(tactic| walk_at "subscriptTail") => `(tactic| (k_here; (with_reducible show wpAny _ _ (subscriptTail _ _ (Value.ref _) (Value.int _ _)) _ _ _); (with_unfolding_all refine' item_txt ?k1 ?k2 ?k3 ?k4 ?k5 ?_ ?k6 ?k7; (case k1 => first | is_list | exact News.isList (by k_asm) (by k_mem)); (case k2 => with_reducible assumption); (case k3 => omega); (case k4 => first | decide | omega); (case k5 => omega); (case k6 => with_unfolding_all rfl); (case k7 => intro _; with_unfolding_all rfl); k_whole); intro _))
variable {w : World} {mean : ExcName → Option Value} {mg mb : Str → Option Value} {A A₀ : Around} {cn : Str} {cs : Scope} {a : Addr} {ccd : Value} {cl : List (Str × Addr)} {outer : List Env} {base h₀ : Heap} {L : Addr} {m : Str → Option Value} {news : List (Addr × Obj)} {s : Shared} {Q E : Value → Shared → Prop}
theorem flat_frame (ws : List Str) : flatD (frameD ws) = true := by
  unfold frameD
  split <;> rfl
theorem c_readsI {l : Addr} {vs : List Value} {n : Nat} {kI : Int} {ws : List Str} {t1 t2 : Tok} {b : Bool} (C : Cx w mean mg mb A A₀ base h₀ outer cn cs a ccd cl L m ((l, listOf vs.toArray n) :: news) s.heap 6) (hm : (l, listOf vs.toArray n) ∈ news) (hS : StrsAre vs ws) (hb : ws.length ≤ 20) (e : kI = (kI.toNat : Int)) (hk10 : kI.toNat ≤ 10)
    (ret : RetO h₀ L m news s Q (.list (readsD ws b kI.toNat))) :
    wpAny (model PySem.Challenge.rw_ez0290_01.row.prog w) A (call (.ref 528) [.ref l, .int 0 t1, .int kI t2, .bool b]) Q E s := by
  rw [e]
  exact c_readsO C hS hb hk10 fun r h' tk' tl F' N' off rd => ret r h' tk' tl F' (news_undup N') (off_undup off) rd
-- the lines of the walk
local macro_rules | `(tactic| walk_at "m sub") => `(tactic| (intro p' hp'; repeat' (first | exact hp' | exact List.mem_append_left _ hp' | exact List.mem_cons_of_mem _ hp' | refine List.mem_cons_of_mem _ ?_ | refine List.mem_append_right _ ?_)))
local macro_rules | `(tactic| walk_at "m mem") => `(tactic| first | exact List.mem_cons_self | (refine List.mem_cons_of_mem _ ?_; walk_at "m mem") | (refine List.mem_append_right _ ?_; walk_at "m mem") | assumption)
local macro_rules | `(tactic| walk_at "m rd") => `(tactic| first | exact RdIn.str _ _ | exact RdIn.none | exact RdIn.bool _ | exact RdIn.int _ _ | (refine' RdIn.mono ?ms (by assumption); (case ms => walk_at "m sub")) | exact rd_listOf (by walk_at "m mem") RdAll.nil | (refine' rd_txt ?mm ?ma; (case mm => walk_at "m mem"); (case ma => assumption)))
local macro_rules | `(tactic| walk_at "m rds") => `(tactic| first | exact RdAll.nil | (refine' RdAll.cons ?m1 ?m2; (case m1 => walk_at "m rd"); (case m2 => walk_at "m rds")))
local macro_rules | `(tactic| walk_at "m end") => `(tactic| ((with_reducible rename RetK _ _ _ _ _ _ _ _ => kret); (with_reducible rename News _ _ _ _ => kN'); (with_reducible rename (_ = Dat.list _) => ke'); exact ret_extK kret (by k_asm) kN' (by walk_at "m extk") (rd_listOf (by walk_at "m mem") (by walk_at "m rds")) ke'))
local macro_rules | `(tactic| walk_at "m extk") => `(tactic| first | exact extk_nil | (apply extk_cons; assumption; walk_at "m extk") | (apply extk_app; assumption; walk_at "m extk"))
local macro_rules | `(tactic| walk_at "newList") => `(tactic| (k_here; k_dflt (refine' newList_K ?k1 ?k2 ?_; (case k1 => k_asm); (case k2 => k_asm); k_whole); intro l' h' F' N' l1; (try k_sweep)))
local macro_rules | `(tactic| walk_at "call ref") => `(tactic| (k_here; (with_reducible show wpAny _ _ (call (Value.ref 528) _) _ _ _); k_dflt (refine' c_readsI ⟨?kB, ?kF, ?kX, ?kN, ?kT, ?kk, ?kA, ?kh, ?kd, ?ku⟩ ?hm ?hS ?hb ?he ?h10 ?_; (case kB => k_asm); (case kF => k_asm); (case kX => k_asm); (case kN => exact news_dup (by k_asm) (by k_mem)); (case kT => k_asm); (case kA => exact rfl); (case kk => exact rfl); (case kh => exact rfl); (case kd => ktr_room); (case ku => ktr_units); (case hm => k_mem); (case hS => first | assumption | exact strs_app (.cons _ _ .nil) (by assumption) | exact strs_app (.cons _ _ (.cons _ _ .nil)) (by assumption)); (case hb => ((try simp only [List.length_append, List.length_cons, List.length_nil]); omega)); (case he => exact rfl); (case h10 => decide); k_whole); intro r' h' tk' tl' F' N' ne' rd'; (obtain ⟨a', e'⟩ := rd_ref rd'); subst e'; (try k_sweep)))
local macro_rules | `(tactic| walk_at "call ref") => `(tactic| (k_here; (with_reducible show wpAny _ _ (call (Value.ref 514) _) _ _ _); k_dflt (refine' c_kindedO ⟨?kB, ?kF, ?kX, ?kN, ?kT, ?kk, ?kA, ?kh, ?kd, ?ku⟩ ?hr ?hf ?hb ?_; (case kB => k_asm); (case kF => k_asm); (case kX => k_asm); (case kN => k_asm); (case kT => k_asm); (case kA => exact rfl); (case kk => exact rfl); (case kh => exact rfl); (case kd => ktr_room); (case ku => ktr_units); (case hr => (refine' RdIn.mono ?zm (by assumption); (case zm => walk_at "m sub"))); (case hf => first | exact kinds_reads _ _ _ | exact kinds_readsF _ _ _ _); (case hb => ((try simp only [List.length_append, List.length_cons, List.length_nil, readsD_length]); decide)); k_whole); intro r' h' tk' tl' F' N' ne' rd'; (obtain ⟨a', e'⟩ := rd_ref rd'); subst e'; (try k_sweep)))
local macro_rules | `(tactic| walk_at "call ref") => `(tactic| (k_here; (with_reducible show wpAny _ _ (call (Value.ref 535) _) _ _ _); k_dflt (refine' c_frame ⟨?kB, ?kF, ?kX, ?kN, ?kT, ?kk, ?kA, ?kh, ?kd, ?ku⟩ ?hS ?hb ?_; (case kB => k_asm); (case kF => k_asm); (case kX => k_asm); (case kN => exact news_dup (by k_asm) (by k_mem)); (case kT => k_asm); (case kA => exact rfl); (case kk => exact rfl); (case kh => exact rfl); (case kd => ktr_room); (case ku => ktr_units); (case hS => assumption); (case hb => omega); k_whole); intro r' h' tk' F' N' rd'; (replace N' := news_1 N'); (try k_sweep)))
local macro_rules | `(tactic| walk_at "binaryOp Add ref ref") => `(tactic| (k_here; (with_reducible show wpAny _ _ (binaryOp _ (Value.ref _) (Value.ref _)) _ _ _); k_dflt (first
  | (refine' add_txt ?F ?N ?a ?b ?i ?j ?z ?_; (case F => k_asm); (case N => k_asm); (case a => exact News.isList (by k_asm) (by k_mem)); (case b => exact News.isList (by k_asm) (by k_mem)); (case i => first | exact .cons _ _ .nil | exact .cons _ _ (.cons _ _ .nil)); (case j => assumption); (case z => (simp only [List.length_cons, List.length_nil]; omega)); k_whole; intro D' h' F' N' l1 hS')
  | (refine' add_rd ?F ?N ?a ?b ?z ?_; (case F => k_asm); (case N => k_asm); (case a => (refine' RdIn.mono ?zm (by assumption); (case zm => walk_at "m sub"))); (case b => exact rd_listOf (by walk_at "m mem") (.cons (rd_flat (by assumption) (flat_frame _)) .nil)); (case z => (simp only [readsD_length, List.length_cons, List.length_nil]; decide)); k_whole; intro D' h' o' F' N' l1 hS')); (try k_sweep)))
set_option maxRecDepth 100000 in
set_option maxHeartbeats 8000000 in
theorem c_due {l : Addr} {vs : List Value} {n : Nat} {ws : List Str} {mk kd : Str} {t1 t2 : Tok} (C : Cx w mean mg mb A A₀ base h₀ outer cn cs a ccd cl L m ((l, listOf vs.toArray n) :: news) s.heap 10) (hS : StrsAre vs ws) (hb : ws.length ≤ 10) (hk5 : kd.length ≤ 5)
    (ret : RetK h₀ L m ((l, listOf vs.toArray n) :: news) [(l, listOf vs.toArray n)] s Q (dueD mk kd ws)) :
    wpAny (model PySem.Challenge.rw_ez0290_01.row.prog w) A (call (.ref 542) [.str mk t1, .str kd t2, .ref l]) Q E s := by
  w_top off
  k_with_none
  obtain ⟨B, F, X, N, T, hk, hA, hh, hdp, hun⟩ := C
  obtain ⟨hd, dp, fr, gd, un⟩ := A
  dsimp only at hA hh hdp hun
  subst hA hh
  revert X; k_fill; intro X
  refine wpAny_call ?_
  k_dflt ktr_enter
  k_steps
  all_goals first
    | have e := due_1 (mk := mk) (kd := kd) (ws := ws) (by assumption) (by assumption)
    | have e := due_2 (mk := mk) (kd := kd) (ws := ws) (by assumption) (by assumption) (by assumption)
    | have e := due_3 (mk := mk) (kd := kd) (ws := ws) (by assumption) (by assumption) (by assumption)
    | have e := due_4 (mk := mk) (kd := kd) (ws := ws) (by assumption) (by assumption) (by assumption)
    | have e := due_5 (mk := mk) (kd := kd) (ws := ws) (by assumption) (by assumption) (by assumption) (by assumption)
    | have e := due_6 (mk := mk) (kd := kd) (ws := ws) (by assumption) (by assumption) (by assumption) (by assumption)
    | have e := due_7 (mk := mk) (kd := kd) (ws := ws) (by assumption) (by assumption) (by assumption) (by assumption)
    | have e := due_8 (mk := mk) (kd := kd) (ws := ws) (by assumption) (by assumption) (by assumption) (by assumption) (by assumption)
    | have e := due_9 (mk := mk) (kd := kd) (ws := ws) (by assumption) (by assumption) (by assumption) (by assumption) (by assumption)
    | have e := due_10 (mk := mk) (kd := kd) (ws := ws) (by assumption) (by assumption) (by assumption)
  all_goals (walk_at "m end")
end Mine
end

section
open PySem PySem.W PySem.Spec PySem.Calls PyProof.Rows Builtin
set_option maxRecDepth 100000
namespace Mine
theorem plainAttrs_map : PlainAttrs "map" :=
  ⟨⟨"map.__getattribute__", by rw [typeLookup_type, builtinLookup_eq_fast]; kernel_rfl, by decide +kernel⟩, by rw [typeLookup_type, builtinLookup_eq_fast]; kernel_rfl⟩
theorem owner_map : Manifest.owners.lookup (String.ofList ['p', 'a', 'm'].reverse) = some Manifest.sig_map := by kernel_rfl
theorem slot_map_next : Slot "map" "__next__" "map.__next__" :=
  .of (owner := "map") (n := "__next__") (by rw [typeLookup_type, builtinLookup_eq_fast]; kernel_rfl) (by decide +kernel) (by decide +kernel) (by decide +kernel)
    (by first | exact .inl (by decide +kernel) | exact .inr (by decide +kernel)) (by rw [isSubtype_type]; kernel_rfl)
theorem entry_map_next : entryFor table "map.__next__" = some Builtin.«map.__next__» := entryFor_of_tree (by kernel_rfl)
theorem args_map_next_1 (a : Value) : argsOk "map.__next__" ⟨[a], []⟩ := by
  unfold argsOk; rw [signature?_of (id := "map.__next__") (n := ['_', '_', 't', 'x', 'e', 'n', '_', '_']) (o := ['p', 'a', 'm']) (by kernel_rfl) owner_map]; kernel_rfl
theorem slot_map_iter : Slot "map" "__iter__" "map.__iter__" :=
  .of (owner := "map") (n := "__iter__") (by rw [typeLookup_type, builtinLookup_eq_fast]; kernel_rfl) (by decide +kernel) (by decide +kernel) (by decide +kernel)
    (by first | exact .inl (by decide +kernel) | exact .inr (by decide +kernel)) (by rw [isSubtype_type]; kernel_rfl)
theorem args_map_iter_1 (a : Value) : argsOk "map.__iter__" ⟨[a], []⟩ := by
  unfold argsOk; rw [signature?_of (id := "map.__iter__") (n := ['_', '_', 'r', 'e', 't', 'i', '_', '_']) (o := ['p', 'a', 'm']) (by kernel_rfl) owner_map]; kernel_rfl
theorem entry_map_iter : entryFor table "map.__iter__" = some Builtin.«dict_keyiterator.__iter__» :=
  entryFor_alias (id' := "dict_keyiterator.__iter__") (by kernel_rfl) (by first | rfl | decide +kernel | (unfold String.splitOn; simp +decide [String.splitOnAux])) (by decide +kernel) (by kernel_rfl)
theorem mro_map : mroOf (.type "map") = pure [.type "map", .type "object"] := by rw [mroOf_type]; kernel_rfl
theorem lookup_map_new : typeLookup (.type "map") "__new__" = pure (some (.builtin "map.__new__")) := by rw [typeLookup_type, builtinLookup_eq_fast]; kernel_rfl
theorem slot_map_init : Slot "map" "__init__" "object.__init__" :=
  .of (owner := "object") (n := "__init__") (by rw [typeLookup_type, builtinLookup_eq_fast]; kernel_rfl) (by decide +kernel) (by decide +kernel) (by decide +kernel)
    (by first | exact .inl (by decide +kernel) | exact .inr (by decide +kernel)) (by rw [isSubtype_type]; kernel_rfl)
theorem called_map : TypeCalled "map" "map.__new__" "object.__init__" :=
  ⟨by decide +kernel, by decide +kernel, ⟨_, _, mro_map⟩, madeBy_type mro_map lookup_map_new (by decide +kernel), by decide +kernel, by rw [isSubtype_type]; kernel_rfl, slot_map_init⟩
theorem typeCall_map_2 (a b : Value) : checkTypeCall "map" ⟨[a, b], []⟩ = pure () := by kernel_rfl
theorem newCall_map_2 (a b : Value) : checkBuiltinCall "map.__new__" ⟨[.type "map", a, b], []⟩ = pure () := by kernel_rfl
theorem entry_map_new : entryFor table "map.__new__" = some Builtin.«map.__new__» := entryFor_of_tree (by kernel_rfl)
theorem sub_map : isSubtype (.type "map") (.type "map") = pure true := by rw [isSubtype_type]; kernel_rfl
abbrev IsMap (h : Heap) (M T : Addr) (f : Value) : Prop := h.get? M = some { cls := .type "map", dict := none, data := .fields #[.ref T, f], slots := #[] }
abbrev IsOne (h : Heap) (T I : Addr) : Prop := h.get? T = some { cls := .type "tuple", data := .seq #[.ref I] }
abbrev mapH1 (h : Heap) (x : Str) (t : Tok) : Heap := h.push { cls := .type "str_ascii_iterator", data := .fields #[.str x t, .int 0 0] }
abbrev mapH2 (h : Heap) (x : Str) (t : Tok) : Heap := (mapH1 h x t).push { cls := .type "tuple", data := .seq #[.ref h.objs.size] }
abbrev mapH3 (h : Heap) (x : Str) (t : Tok) (f : Value) : Heap := (mapH2 h x t).push { cls := .type "map", data := .fields #[.ref (mapH1 h x t).objs.size, f] }
set_option maxHeartbeats 8000000 in
theorem meets_map_new {f : Value} {x : Str} {t : Tok} (ha : x.cps.all (· < 128) = true) :
    Meets (Builtin.«map.__new__» ⟨[.type "map", f, .str x t], []⟩) (fun _ R s =>
      R (.ok (.ret (.ref (mapH2 s.heap x t).objs.size))) { s with heap := mapH3 s.heap x t f }) :=
  .of_wp fun prog w A R s h => by
    obtain ⟨hp, g, d, tk, os⟩ := s
    have hsub := sub_map
    wp_walk using wpAny_pyIter_ascii ha
    exact ⟨_, rfl, h⟩
section
variable {prog : Program} {w : World} {A : Around} {E : Value → Shared → Prop} {s : Shared}
theorem call_map {f : Value} {x : Str} {t : Tok} {Q : Value → Shared → Prop} (ha : x.cps.all (· < 128) = true)
    (h : ∀ h', IsMap h' (s.heap.objs.size + 2) (s.heap.objs.size + 1) f → IsOne h' (s.heap.objs.size + 1) s.heap.objs.size → h'.IsStrIter s.heap.objs.size "str_ascii_iterator" x t 0 → (∀ c o, s.heap.get? c = some o → h'.get? c = some o) →
      Q (.ref (s.heap.objs.size + 2)) { s with heap := h' }) :
    wpAny (model prog w) A (call (.type "map") [f, .str x t]) Q E s := by
  refine callType_new called_map (by decide) (typeCall_map_2 _ _) (newCall_map_2 _ _) (fun obj => F.args_object_init_3 obj _ _) entry_map_new (meets_map_new ha) ?_
  have z1 : (mapH1 s.heap x t).objs.size = s.heap.objs.size + 1 := Heap.size_push ..
  have z2 : (mapH2 s.heap x t).objs.size = s.heap.objs.size + 2 := by rw [Heap.size_push, z1]
  have g3 : (mapH3 s.heap x t f).get? (mapH2 s.heap x t).objs.size = some _ := Heap.get?_push_size _ rfl
  have g2 : (mapH3 s.heap x t f).get? (mapH1 s.heap x t).objs.size = some _ := Heap.get?_push_of_some _ (Heap.get?_push_size _ rfl)
  have g1 : (mapH3 s.heap x t f).get? s.heap.objs.size = some _ := Heap.get?_push_of_some _ (Heap.get?_push_of_some _ (Heap.get?_push_size _ rfl))
  show _ ∧ _
  rw [z2, z1] at g3
  rw [z1] at g2
  rw [z2]
  exact ⟨⟨_, g3, rfl⟩, h _ g3 g2 ⟨_, g1, rfl, rfl⟩ fun c o y => Heap.get?_push_of_some _ (Heap.get?_push_of_some _ (Heap.get?_push_of_some _ y))⟩
theorem pyIter_map {M T : Addr} {f : Value} {Q : Value → Shared → Prop} (hM : IsMap s.heap M T f) (h : Q (.ref M) s) : wpAny (model prog w) A (pyIter (.ref M)) Q E s := by
  have hT : s.TypeIs (.ref M) "map" := ⟨_, hM, rfl⟩
  refine wpAny_pyIter_slot hT slot_map_iter (wpAny_call_entry slot_map_iter hT entry_map_iter ?_ (args_map_iter_1 _))
  show wpAny _ _ (ret (.ref M)) _ _ s
  exact wpAny_pure ⟨_, rfl, "map", _, hT, slot_map_next.lookup, h⟩
theorem map_next_item {M T I : Addr} {x : Str} {t : Tok} {i c : Nat} {Q : Fin → Shared → Prop} (hM : IsMap s.heap M T (.builtin "ord")) (hT : IsOne s.heap T I) (hI : s.heap.IsStrIter I "str_ascii_iterator" x t i) (hx : x.cps[i]? = some c) (hMI : M ≠ I)
    (hQ : ∀ h' tk, h'.IsStrIter I "str_ascii_iterator" x t (i + 1) → (∀ b o, b ≠ I → s.heap.get? b = some o → h'.get? b = some o) → ∀ u, Q (.done (.ret (.int c u))) { s with heap := h', toks := tk }) :
    wpAny (model prog w) A (Builtin.«map.__next__» ⟨[.ref M], []⟩) Q E s := by
  show wpAny _ _ (field (.ref M) 0 >>= _) _ _ _
  refine wpAny_bind (wpAny_field hM rfl (x := .ref T) rfl ?_)
  refine wpAny_bind (wpAny_seqItems hT rfl ?_)
  dsimp only
  refine wpAny_bind ?_
  simp only [List.forIn_cons, List.forIn_nil, List.forIn_toArray]
  refine wpAny_bind (wpAny_bind (wpAny_holding (wpAny_nextOf_ascii_item hI hx fun h' hI' hs' => wpAny_pure ?_)))
  have hM' : IsMap h' M T (.builtin "ord") := (hs'.2 _ hMI).trans hM
  refine wpAny_pure (wpAny_bind (wpAny_field hM' rfl (x := .builtin "ord") rfl (wpAny_bind (wpAny_holding ?_))))
  refine P.ord_of_char (wpAny_bind (wpAny_letGo (wpAny_pure ?_)))
  exact hQ h' _ hI' (fun b o hb e => (hs'.2 b hb).trans e) _
end
end Mine
end

section
open PySem PySem.W PySem.Spec PySem.Calls PyProof.Rows Builtin
set_option maxRecDepth 100000
namespace Mine
section
variable {prog : Program} {w : World} {A : Around} {E : Value → Shared → Prop} {s : Shared} {M T I : Addr} {x : Str} {t : Tok} {i c : Nat}
theorem map_next_end {Q : Fin → Shared → Prop} (hh : A.handled = none) (hM : IsMap s.heap M T (.builtin "ord")) (hT : IsOne s.heap T I) (hI : s.heap.IsStrIter I "str_ascii_iterator" x t i) (hx : x.cps[i]? = none)
    (hE : ∀ h' e, (∀ b o, b ≠ I → s.heap.get? b = some o → h'.get? b = some o) → (∃ o, h'.get? e = some o ∧ o.cls = .type "StopIteration") → E (.ref e) { s with heap := h' }) :
    wpAny (model prog w) A (Builtin.«map.__next__» ⟨[.ref M], []⟩) Q E s := by
  show wpAny _ _ (field (.ref M) 0 >>= _) _ _ _
  refine wpAny_bind (wpAny_field hM rfl (x := .ref T) rfl ?_)
  refine wpAny_bind (wpAny_seqItems hT rfl ?_)
  dsimp only
  refine wpAny_bind ?_
  simp only [List.forIn_cons, List.forIn_nil, List.forIn_toArray]
  exact wpAny_bind (wpAny_bind (wpAny_holding (wpAny_nextOf_ascii_end hh hI hx fun h' e hs' he => hE h' e (fun b o hb e' => hs' b o hb e') he)))
theorem pyNext_map_item {Q : Option Value → Shared → Prop} (hM : IsMap s.heap M T (.builtin "ord")) (hT : IsOne s.heap T I) (hI : s.heap.IsStrIter I "str_ascii_iterator" x t i) (hx : x.cps[i]? = some c) (hMI : M ≠ I)
    (hQ : ∀ h' tk, h'.IsStrIter I "str_ascii_iterator" x t (i + 1) → (∀ b o, b ≠ I → s.heap.get? b = some o → h'.get? b = some o) → ∀ u, Q (some (.int c u)) { s with heap := h', toks := tk }) :
    wpAny (model prog w) A (pyNext (.ref M)) Q E s := by
  have hT' : s.TypeIs (.ref M) "map" := ⟨_, hM, rfl⟩
  unfold pyNext
  exact wpAny_bind (wpAny_attempt (wpAny_callSpecial?_slot (name := Str.ofString "__next__") hT' slot_map_next
    (wpAny_call_entry slot_map_next hT' entry_map_next (map_next_item hM hT hI hx hMI fun h' tk a b u => ⟨_, rfl, wpAny_pure (hQ h' tk a b u)⟩) (args_map_next_1 _))))
theorem pyNext_map_end {Q : Option Value → Shared → Prop} (hh : A.handled = none) (hM : IsMap s.heap M T (.builtin "ord")) (hT : IsOne s.heap T I) (hI : s.heap.IsStrIter I "str_ascii_iterator" x t i) (hx : x.cps[i]? = none)
    (hQ : ∀ h', (∀ b o, b ≠ I → s.heap.get? b = some o → h'.get? b = some o) → Q none { s with heap := h' }) :
    wpAny (model prog w) A (pyNext (.ref M)) Q E s := by
  have hT' : s.TypeIs (.ref M) "map" := ⟨_, hM, rfl⟩
  unfold pyNext
  refine wpAny_bind (wpAny_attempt (wpAny_callSpecial?_slot (name := Str.ofString "__next__") hT' slot_map_next
    (wpAny_call_entry slot_map_next hT' entry_map_next (map_next_end hh hM hT hI hx fun h' e hk he => ?_) (args_map_next_1 _))))
  obtain ⟨o, ho, hc⟩ := he
  refine wpAny_bind (wpAny_isInstance (T := "StopIteration") (b := true) ⟨o, ho, hc⟩ isSubtype_stop ?_)
  exact wpAny_pure (hQ _ hk)
theorem entry_redloop : entryFor table "_functools.reduce.loop" = some Builtin.«_functools.reduce.loop» := entryFor_of_tree (by kernel_rfl)
theorem entry_reduce : entryFor table "_functools.reduce" = some Builtin.«_functools.reduce» := entryFor_of_tree (by kernel_rfl)
theorem entry_xor : entryFor table "_operator.xor" = some Builtin.«_operator.xor» := entryFor_of_tree (by kernel_rfl)
theorem call_xor {a b : Int} {ta tb : Tok} {Q : Value → Shared → Prop} (h : ∀ u, Q (.int (Builtin.bitXor a b) u) { s with toks := s.toks + 1 }) :
    wpAny (model prog w) A (call (.builtin "_operator.xor") [.int a ta, .int b tb]) Q E s :=
  call_function_entry (by kernel_rfl) (by decide +kernel) entry_xor (by unfold argsOk; kernel_rfl) (by
    obtain ⟨hp, g, d, tk, os⟩ := s
    show wpAny _ _ (binaryOp .BitXor (.int a ta) (.int b tb) >>= ret) _ _ _
    exact wpAny_bind (xor_int (wpAny_pure ⟨_, rfl, h _⟩)))
/-- the fold of reduce(xor, map(ord, x), acc) from the place i -/
def xorFrom (x : Str) : Nat → Nat → Int → Int
  | _, 0, acc => acc
  | i, n + 1, acc => xorFrom x (i + 1) n (Builtin.bitXor acc ((x.cps.getD i 0 : Nat) : Int))
theorem red_loop {O P : Addr} {R : Result → Shared → Prop} (hh : A.handled = none) (hMI : M ≠ I) (hTI : T ≠ I) (hOI : O ≠ I) (hPI : P ≠ I) (hMP : M ≠ P) (hTP : T ≠ P) (hOP : O ≠ P) {z : Tok} :
    ∀ (k : Nat) (i : Nat) (acc : Int) (ta : Tok) (a b : Value) (s : Shared), i + k = x.cps.size → IsMap s.heap M T (.builtin "ord") → IsOne s.heap T I → s.heap.IsStrIter I "str_ascii_iterator" x t i → IsPair s.heap P a b →
      s.heap.get? O = some { cls := .type "tuple", data := .seq #[.builtin "_operator.xor", .ref M, .int 0 z] } →
      (∀ h' tk u, (∀ b o, b ≠ I → b ≠ P → s.heap.get? b = some o → h'.get? b = some o) → R (.ok (.ret (.int (xorFrom x i k acc) u))) { s with heap := h', toks := tk }) →
      codeAny (model prog w) A (.builtin "_functools.reduce.loop" ⟨[.ref P, .ref M, .ref O, .int acc ta], []⟩) R s
  | 0, i, acc, ta, a, b, s, hi, hM, hT, hI, hP, hO, hR => by
    refine codeAny_builtin entry_redloop ?_
    rw [Around.under_plainId (by decide +kernel)]
    show wpAny _ _ (seqItems? (.ref O) >>= _) _ _ _
    refine wpAny_bind (wpAny_seqItems hO rfl ?_)
    refine wpAny_bind (pyNext_map_end hh hM hT hI (by rw [Array.getElem?_eq_none_iff]; omega) fun h' hk => ?_)
    exact wpAny_pure (hR h' s.toks ta fun b o h1 _ e => hk b o h1 e)
  | k + 1, i, acc, ta, a, b, s, hi, hM, hT, hI, hP, hO, hR => by
    refine codeAny_builtin entry_redloop ?_
    rw [Around.under_plainId (by decide +kernel)]
    show wpAny _ _ (seqItems? (.ref O) >>= _) _ _ _
    refine wpAny_bind (wpAny_seqItems hO rfl ?_)
    have hlt : i < x.cps.size := by omega
    refine wpAny_bind (pyNext_map_item hM hT hI (c := x.cps[i]) (Array.getElem?_eq_getElem hlt) hMI fun h₁ tk₁ hI₁ hk₁ u => ?_)
    dsimp only
    refine wpAny_bind (wpAny_seqItems (hk₁ _ _ hPI hP) rfl ?_)
    refine wpAny_bind (wpAny_updateSeq_pair (hk₁ _ _ hPI hP) fun h₂ hP₂ hs₂ => ?_)
    refine wpAny_bind (wpAny_letGo ?_)
    replace hP₂ : IsPair h₂ P (.int acc ta) b := hP₂
    refine wpAny_bind (wpAny_updateSeq_pair (k := 1) (x := .int (x.cps[i] : Nat) u) hP₂ fun h₃ hP₃ hs₃ => ?_)
    refine wpAny_bind (wpAny_letGo ?_)
    replace hP₃ : IsPair h₃ P (.int acc ta) (.int (x.cps[i] : Nat) u) := hP₃
    refine wpAny_bind (call_xor fun u' => ?_)
    have keep : ∀ b o, b ≠ I → b ≠ P → s.heap.get? b = some o → h₃.get? b = some o := fun b o h1 h2 e => (hs₃.2 b h2).trans ((hs₂.2 b h2).trans (hk₁ b o h1 e))
    refine wpAny_pure ⟨Code.quiet_builtin _ (by decide +kernel), ?_⟩
    refine red_loop hh hMI hTI hOI hPI hMP hTP hOP k (i + 1) _ u' _ _ _ (by omega) (keep _ _ hMI hMP hM) (keep _ _ hTI hTP hT) ?_ hP₃ (keep _ _ hOI hOP hO) fun h' tk u₂ hk' => ?_
    · obtain ⟨o, ho, r⟩ := hI₁
      exact ⟨o, (hs₃.2 _ hPI.symm).trans ((hs₂.2 _ hPI.symm).trans ho), r⟩
    · have e : xorFrom x i (k + 1) acc = xorFrom x (i + 1) k (Builtin.bitXor acc ((x.cps[i] : Nat) : Int)) := by
        show xorFrom x (i + 1) k (Builtin.bitXor acc ((x.cps.getD i 0 : Nat) : Int)) = _
        rw [Array.getD_eq_getD_getElem?, Array.getElem?_eq_getElem hlt]; rfl
      rw [e] at hR
      exact hR h' tk u₂ fun b o h1 h2 e => hk' b o h1 h2 (keep b o h1 h2 e)
theorem call_reduce {z : Tok} {Q : Value → Shared → Prop} (hh : A.handled = none) (hM : IsMap s.heap M T (.builtin "ord")) (hT : IsOne s.heap T I) (hI : s.heap.IsStrIter I "str_ascii_iterator" x t 0) (hMI : M ≠ I) (hTI : T ≠ I)
    (hQ : ∀ h' tk u, (∀ b o, b ≠ I → s.heap.get? b = some o → h'.get? b = some o) → Q (.int (xorFrom x 0 x.cps.size 0) u) { s with heap := h', toks := tk }) :
    wpAny (model prog w) A (call (.builtin "_functools.reduce") [.builtin "_operator.xor", .ref M, .int 0 z]) Q E s := by
  refine wpAny_call (codeAny_call_builtin (by decide +kernel) entry_reduce (wpAny_of_eq (a := ()) (by kernel_rfl) ?_))
  show wpAny _ _ (((pyIter (.ref M)).tryCatch _) >>= _) _ _ _
  refine wpAny_bind (wpAny_tryCatch (pyIter_map hM ?_))
  unfold newTuple
  refine wpAny_bind (wpAny_holding (wpAny_newObj_type ?_ (by size_fits)))
  refine wpAny_bind (wpAny_holding (wpAny_newObj_type ?_ (by size_fits)))
  refine wpAny_pure ⟨Code.quiet_builtin _ (by decide +kernel), ?_⟩
  have lt : ∀ {b o}, s.heap.get? b = some o → b < s.heap.objs.size := fun e => Heap.lt_size e
  have lM := lt hM
  have lT := lt hT
  have lI : I < s.heap.objs.size := by obtain ⟨o, ho, _⟩ := hI; exact lt ho
  have up : ∀ b o, s.heap.get? b = some o → ((s.heap.push { cls := .type "tuple", data := .seq #[rawInt 0, rawInt 0] }).push { cls := .type "tuple", data := .seq #[.builtin "_operator.xor", .ref M, .int 0 z] }).get? b = some o :=
    fun b o e => Heap.get?_push_of_some _ (Heap.get?_push_of_some _ e)
  have z1 : (s.heap.push { cls := .type "tuple", data := .seq #[rawInt 0, rawInt 0] }).objs.size = s.heap.objs.size + 1 := Heap.size_push ..
  have n1 : (s.heap.push { cls := .type "tuple", data := .seq #[rawInt 0, rawInt 0] }).objs.size ≠ I := by rw [z1]; exact Nat.ne_of_gt (Nat.lt_succ_of_lt lI)
  have n2 : s.heap.objs.size ≠ I := Nat.ne_of_gt lI
  have n3 : M ≠ s.heap.objs.size := Nat.ne_of_lt lM
  have n4 : T ≠ s.heap.objs.size := Nat.ne_of_lt lT
  have n5 : (s.heap.push { cls := .type "tuple", data := .seq #[rawInt 0, rawInt 0] }).objs.size ≠ s.heap.objs.size := by rw [z1]; exact Nat.succ_ne_self _
  refine red_loop (x := x) (t := t) (I := I) (T := T) hh hMI hTI n1 n2 n3 n4 n5 x.cps.size 0 0 z (rawInt 0) (rawInt 0) _ (Nat.zero_add _) (up _ _ hM) (up _ _ hT) ?_ (Heap.get?_push_of_some _ (Heap.get?_push_size _ rfl)) (Heap.get?_push_size _ rfl) fun h' tk u hk => ?_
  · obtain ⟨o, ho, r⟩ := hI
    exact ⟨o, up _ _ ho, r⟩
  · exact hQ h' tk u fun b o hb e => hk b o hb (Nat.ne_of_lt (lt e)) (up b o e)
end
/-- a map over a text's signs, apart from the ledger -/
structure MapAt (h₀ : Heap) (L : Addr) (news : List (Addr × Obj)) (h : Heap) (M T I : Addr) (x : Str) (t : Tok) : Prop where
  hM : IsMap h M T (.builtin "ord")
  hT : IsOne h T I
  hI : h.IsStrIter I "str_ascii_iterator" x t 0
  mi : M ≠ I
  ti : T ≠ I
  new : h₀.get? I = none
  il : I ≠ L
  off : ∀ p ∈ news, p.1 ≠ I
section
variable {prog : Program} {w : World} {A : Around} {E : Value → Shared → Prop} {s : Shared} {h₀ : Heap} {L : Addr} {m : Str → Option Value} {news : List (Addr × Obj)} {x : Str} {t : Tok} {Q : Value → Shared → Prop}
theorem m_map (F : Fr h₀ L s.heap m) (N : News h₀ L s.heap news) (ha : x.cps.all (· < 128) = true) (h : ∀ M T I h', Fr h₀ L h' m → News h₀ L h' news → MapAt h₀ L news h' M T I x t → Q (.ref M) { s with heap := h' }) :
    wpAny (model prog w) A (call (.type "map") [.builtin "ord", .str x t]) Q E s := by
  refine call_map ha fun h' hM hT hI hk => h (s.heap.objs.size + 2) (s.heap.objs.size + 1) s.heap.objs.size h' (F.keeps hk) (fun p hp => ⟨hk _ _ (N p hp).1, (N p hp).2⟩) ⟨hM, hT, hI, Nat.ne_of_gt (Nat.lt_add_of_pos_right (by decide)), Nat.succ_ne_self _, ?_, ?_, fun p hp => Nat.ne_of_lt (Heap.lt_size (N p hp).1)⟩
  · cases q : h₀.get? s.heap.objs.size with
    | none => rfl
    | some o => exact absurd (Heap.lt_size (F.keep _ _ q)) (Nat.lt_irrefl _)
  · exact Nat.ne_of_gt F.ns.lt
theorem m_reduce {M T I : Addr} {z : Tok} (hh : A.handled = none) (F : Fr h₀ L s.heap m) (N : News h₀ L s.heap news) (W : MapAt h₀ L news s.heap M T I x t) (h : ∀ h' tk u, Fr h₀ L h' m → News h₀ L h' news → Q (.int (xorFrom x 0 x.cps.size 0) u) { s with heap := h', toks := tk }) :
    wpAny (model prog w) A (call (.builtin "_functools.reduce") [.builtin "_operator.xor", .ref M, .int 0 z]) Q E s := by
  refine call_reduce hh W.hM W.hT W.hI W.mi W.ti fun h' tk u hk => h h' tk u ⟨F.ns.at' fun o e => hk _ o W.il.symm e, fun b o e => hk b o (fun q => ?_) (F.keep b o e), F.above⟩ fun p hp => ⟨hk _ _ (W.off p hp) (N p hp).1, (N p hp).2⟩
  rw [q, W.new] at e; cases e
end
end Mine
end

section
open PySem PySem.W PySem.W.X PySem.Spec PySem.Calls PyProof.Rows
namespace Mine
local macro_rules | `(tactic| k_room) => `(tactic| ktr_room)
local macro_rules | `(tactic| units_room) => `(tactic| ktr_units)
local macro_rules | `(tactic| k_units) => `(tactic| ktr_units)
local macro_rules | `(tactic| walk_at "call builtin:len") => `(tactic| (k_here; (with_reducible show wpAny _ _ (call (Value.builtin "len") [Value.ref _]) _ _ _); k_dflt (refine' len_txt ?k1 ?k2 ?k3 ?_; (case k1 => first | is_list | exact News.isList (by k_asm) (by k_mem)); (case k2 => with_reducible assumption); (case k3 => omega); k_whole)))
local macro_rules | `(tactic| walk_at "subscriptTail") => `(tactic| (k_here; (with_reducible show wpAny _ _ (subscriptTail _ _ (Value.ref _) (Value.int _ _)) _ _ _); (with_unfolding_all refine' item_txt ?k1 ?k2 ?k3 ?k4 ?k5 ?_ ?k6 ?k7; (case k1 => first | is_list | exact News.isList (by k_asm) (by k_mem)); (case k2 => with_reducible assumption); (case k3 => omega); (case k4 => first | decide | omega); (case k5 => omega); (case k6 => with_unfolding_all rfl); (case k7 => intro _; with_unfolding_all rfl); k_whole); intro _))
variable {w : World} {mean : ExcName → Option Value} {mg mb : Str → Option Value} {A A₀ : Around} {cn : Str} {cs : Scope} {a : Addr} {ccd : Value} {cl : List (Str × Addr)} {outer : List Env} {base h₀ : Heap} {L : Addr} {m : Str → Option Value} {news : List (Addr × Obj)} {s : Shared} {Q E : Value → Shared → Prop}
local macro_rules | `(tactic| walk_at "binaryOp Add str str") => `(tactic| (refine KOpn.add ?sz ?_; (case sz => first | omega | (simp only [PySem.Str.length_append]; omega)); intro _ _ _))
local macro_rules | `(tactic| walk_at "m nf") => `(tactic| first | exact nf_323 | exact nf_342 | exact nf_361 | exact nf_254 | exact nf_274 | exact nf_294 | exact nf_382 | exact nf_402 | exact nf_418 | exact nf_435 | exact nf_454 | exact nf_473)
local macro_rules | `(tactic| walk_at "eval Name") => `(tactic| (k_here; (with_reducible show wpAny _ _ (eval (Expr.Name (Str.ofString "super") _) _) _ _ _); k_dflt (refine' nameX_B (v := .type "super") ?F ?X ?T ?e ?hv ?hn ?_ ?a ?b ?c; (case F => k_asm); (case X => k_asm); (case T => k_asm); (case e => k_is); (case hv => first | rfl | kernel_rfl); (case hn => decide); (case a => rfl); (case b => rfl); (case c => decide); k_whole)))
local macro_rules | `(tactic| walk_at "call builtin:dict.get") => `(tactic| (k_here; kda_here; k_dflt (refine get2_all (by k_asm) (by k_mem) (by k_asm) (by k_asm) ?_); (try dsimp only [strPairs, GetAll]); (repeat' (first | with_reducible refine And.intro ?_ ?_ | intro _))))
local macro_rules | `(tactic| walk_at "call type:super") => `(tactic| (k_here; k_dflt (refine' m_super ?k0 ?k1 ?k2 ?k3 ?_; (case k0 => walk_at "m nf"); (case k1 => k_asm); (case k2 => k_asm); (case k3 => k_asm); k_whole; intro so' h' F' N' l1; (try k_lt l1))))
local macro_rules | `(tactic| walk_at "getMethod ref") => `(tactic| (k_here; (with_reducible show wpAny _ _ (getMethod (Value.ref _) (Str.ofString "__new__") _) _ _ _); k_dflt (refine' m_superNew ?k0 ?k1 ?k2 ?k3 ?k4 ?_; (case k1 => k_asm); (case k2 => k_asm); (case k3 => k_asm); (case k4 => k_mem); (case k0 => walk_at "m nf"); k_whole)))
local macro_rules | `(tactic| walk_at "call builtin:object.__new__") => `(tactic| (k_here; k_dflt (refine' m_new ?k0 ?k1 ?k2 ?k3 ?_; (case k0 => walk_at "m nf"); (case k1 => k_asm); (case k2 => k_asm); (case k3 => k_asm); k_whole; intro x' dx' h' F' N' l1 l2)))
local macro_rules | `(tactic| walk_at "m ext") => `(tactic| repeat' (first | exact ext_nil | (refine ext_cons (by first | assumption | (k_dflt exact lt_all (by assumption))) ?_) | (refine ext_app (by assumption) ?_)))
local macro_rules | `(tactic| walk_at "m endN") => `(tactic| ((with_reducible rename RetN _ _ _ _ _ _ _ => kret); (refine' retN kret ?e ?f ?n ?x ?l1 ?l2; (case f => k_asm); (case n => k_asm); (case x => walk_at "m ext"); (case l1 => assumption); (case l2 => assumption); (case e => first | exact srf_1 (by assumption) | exact srf_2 (by assumption) (by assumption) | exact srf_3 (by assumption) (by assumption) | exact nor_1 (by assumption) | exact nor_2 (by assumption) (by assumption) | exact nor_3 (by assumption) (by assumption) | exact sxn_1 (by assumption) | exact sxn_2 (by assumption) (by assumption) | exact sxn_3 (by assumption) (by assumption) (by assumption) | exact sxn_4 (by assumption) (by assumption) (by assumption) (by assumption) | exact sxn_5 (by assumption) (by assumption) (by assumption) (by assumption) (by assumption) | exact sxn_6 (by assumption) (by assumption) (by assumption) (by assumption) (by assumption)))))
set_option maxRecDepth 100000 in
set_option maxHeartbeats 8000000 in
theorem c_newSRF {l : Addr} {vs : List Value} {n : Nat} {ws : List Str} {mk : Str} {t1 : Tok} (C : Cx w mean mg mb A A₀ base h₀ outer cn cs a ccd cl L m ((l, listOf vs.toArray n) :: news) s.heap 10) (hS : StrsAre vs ws) (hb : ws.length ≤ 10) (h0 : 0 < ws.length) (hk5 : mk.length ≤ 5) (hk6 : (ws.getD (Int.toNat 0) Str.empty).length ≤ 5)
    (ret : RetN h₀ L m ((l, listOf vs.toArray n) :: news) s Q (srfC (mk ++ ws.getD (Int.toNat 0) Str.empty))) :
    wpAny (model PySem.Challenge.rw_ez0290_01.row.prog w) A (call (.ref 312) [.ref 323, .str mk t1, .ref l]) Q E s := by
  w_top off
  k_with_none
  obtain ⟨B, F, X, N, T, hk, hA, hh, hdp, hun⟩ := C
  obtain ⟨hd, dp, fr, gd, un⟩ := A
  dsimp only at hA hh hdp hun
  subst hA hh
  revert X; k_fill; intro X
  refine wpAny_call ?_
  k_dflt (refine' code_defX (binds := [(Str.ofString "_cls", .ref 323), (Str.ofString "manufacturer", .str mk t1), (Str.ofString "data", .ref l)]) ?k1 ?k2 ?k3 ?k4 ?k5 ?kA ?kF ?kK ?k6 ?k7 ?k8 ?k9 ?kB ?_ ?c2 ?c3 ?c4 ?c5; (case kA => exact rfl); (case kF => exact rfl); (case kK => assumption); (case k1 => k_asm); (case k2 => k_asm); (case k3 => k_asm); (case k4 => k_asm); (case k5 => k_asm); (case k6 => k_is); (case k7 => k_is); (case k8 => ktr_room); (case k9 => exact BindsTo.of_eq rfl); (case c5 => decide); (case kB => exact locs rfl); (case c2 => exact rfl); (case c3 => exact rfl); (case c4 => exact rfl); k_whole; intro g' L' h' FG' F' N' B' X' T'; (try dsimp only); (try k_fold))
  k_steps
  all_goals walk_at "m endN"
set_option maxRecDepth 100000 in
set_option maxHeartbeats 8000000 in
theorem c_newNOR {l : Addr} {vs : List Value} {n : Nat} {ws : List Str} {mk : Str} {t1 : Tok} (C : Cx w mean mg mb A A₀ base h₀ outer cn cs a ccd cl L m ((l, listOf vs.toArray n) :: news) s.heap 10) (hS : StrsAre vs ws) (hb : ws.length ≤ 10) (h0 : 0 < ws.length) (hk5 : mk.length ≤ 5) (hk6 : (ws.getD (Int.toNat 0) Str.empty).length ≤ 5)
    (ret : RetN h₀ L m ((l, listOf vs.toArray n) :: news) s Q (norC (mk ++ ws.getD (Int.toNat 0) Str.empty))) :
    wpAny (model PySem.Challenge.rw_ez0290_01.row.prog w) A (call (.ref 236) [.ref 254, .str mk t1, .ref l]) Q E s := by
  w_top off
  k_with_none
  obtain ⟨B, F, X, N, T, hk, hA, hh, hdp, hun⟩ := C
  obtain ⟨hd, dp, fr, gd, un⟩ := A
  dsimp only at hA hh hdp hun
  subst hA hh
  revert X; k_fill; intro X
  refine wpAny_call ?_
  k_dflt (refine' code_defX (binds := [(Str.ofString "_cls", .ref 254), (Str.ofString "manufacturer", .str mk t1), (Str.ofString "data", .ref l)]) ?k1 ?k2 ?k3 ?k4 ?k5 ?kA ?kF ?kK ?k6 ?k7 ?k8 ?k9 ?kB ?_ ?c2 ?c3 ?c4 ?c5; (case kA => exact rfl); (case kF => exact rfl); (case kK => assumption); (case k1 => k_asm); (case k2 => k_asm); (case k3 => k_asm); (case k4 => k_asm); (case k5 => k_asm); (case k6 => k_is); (case k7 => k_is); (case k8 => ktr_room); (case k9 => exact BindsTo.of_eq rfl); (case c5 => decide); (case kB => exact locs rfl); (case c2 => exact rfl); (case c3 => exact rfl); (case c4 => exact rfl); k_whole; intro g' L' h' FG' F' N' B' X' T'; (try dsimp only); (try k_fold))
  k_steps
  all_goals walk_at "m endN"
set_option maxRecDepth 100000 in
set_option maxHeartbeats 8000000 in
theorem c_newSXN {l : Addr} {vs : List Value} {n : Nat} {ws : List Str} {mk : Str} {t1 : Tok} (C : Cx w mean mg mb A A₀ base h₀ outer cn cs a ccd cl L m ((l, listOf vs.toArray n) :: news) s.heap 10) (hS : StrsAre vs ws) (hb : ws.length ≤ 10) (h0 : 1 < ws.length) (hk5 : mk.length ≤ 5) (hk6 : (ws.getD (Int.toNat 1) Str.empty).length ≤ 5)
    (ret : RetN h₀ L m ((l, listOf vs.toArray n) :: news) s Q (sxnC (mk ++ ws.getD (Int.toNat 1) Str.empty))) :
    wpAny (model PySem.Challenge.rw_ez0290_01.row.prog w) A (call (.ref 379) [.ref 382, .str mk t1, .ref l]) Q E s := by
  w_top off
  k_with_none
  obtain ⟨B, F, X, N, T, hk, hA, hh, hdp, hun⟩ := C
  obtain ⟨hd, dp, fr, gd, un⟩ := A
  dsimp only at hA hh hdp hun
  subst hA hh
  revert X; k_fill; intro X
  refine wpAny_call ?_
  k_dflt (refine' code_defX (binds := [(Str.ofString "_cls", .ref 382), (Str.ofString "manufacturer", .str mk t1), (Str.ofString "data", .ref l)]) ?k1 ?k2 ?k3 ?k4 ?k5 ?kA ?kF ?kK ?k6 ?k7 ?k8 ?k9 ?kB ?_ ?c2 ?c3 ?c4 ?c5; (case kA => exact rfl); (case kF => exact rfl); (case kK => assumption); (case k1 => k_asm); (case k2 => k_asm); (case k3 => k_asm); (case k4 => k_asm); (case k5 => k_asm); (case k6 => k_is); (case k7 => k_is); (case k8 => ktr_room); (case k9 => exact BindsTo.of_eq rfl); (case c5 => decide); (case kB => exact locs rfl); (case c2 => exact rfl); (case c3 => exact rfl); (case c4 => exact rfl); k_whole; intro g' L' h' FG' F' N' B' X' T'; (try dsimp only); (try k_fold))
  k_steps
  all_goals walk_at "m endN"
end Mine
end

section
open PySem PySem.W PySem.W.X PySem.Spec PySem.Calls PyProof.Rows
namespace Mine
local macro_rules | `(tactic| k_room) => `(tactic| ktr_room)
local macro_rules | `(tactic| units_room) => `(tactic| ktr_units)
local macro_rules | `(tactic| k_units) => `(tactic| ktr_units)
local macro_rules | `(tactic| walk_at "call builtin:len") => `(tactic| (k_here; (with_reducible show wpAny _ _ (call (Value.builtin "len") [Value.ref _]) _ _ _); k_dflt (refine' len_txt ?k1 ?k2 ?k3 ?_; (case k1 => first | is_list | exact News.isList (by k_asm) (by k_mem)); (case k2 => with_reducible assumption); (case k3 => omega); k_whole)))
local macro_rules | `(tactic| walk_at "subscriptTail") => `(tactic| (k_here; (with_reducible show wpAny _ _ (subscriptTail _ _ (Value.ref _) (Value.int _ _)) _ _ _); (with_unfolding_all refine' item_txt ?k1 ?k2 ?k3 ?k4 ?k5 ?_ ?k6 ?k7; (case k1 => first | is_list | exact News.isList (by k_asm) (by k_mem)); (case k2 => with_reducible assumption); (case k3 => omega); (case k4 => first | decide | omega); (case k5 => omega); (case k6 => with_unfolding_all rfl); (case k7 => intro _; with_unfolding_all rfl); k_whole); intro _))
variable {w : World} {mean : ExcName → Option Value} {mg mb : Str → Option Value} {A A₀ : Around} {cn : Str} {cs : Scope} {a : Addr} {ccd : Value} {cl : List (Str × Addr)} {outer : List Env} {base h₀ : Heap} {L : Addr} {m : Str → Option Value} {news : List (Addr × Obj)} {s : Shared} {Q E : Value → Shared → Prop}
local macro_rules | `(tactic| walk_at "binaryOp Add str str") => `(tactic| (refine KOpn.add ?sz ?_; (case sz => first | omega | (simp only [PySem.Str.length_append]; omega)); intro _ _ _))
local macro_rules | `(tactic| walk_at "m nf") => `(tactic| first | exact nf_323 | exact nf_342 | exact nf_361 | exact nf_254 | exact nf_274 | exact nf_294 | exact nf_382 | exact nf_402 | exact nf_418 | exact nf_435 | exact nf_454 | exact nf_473)
local macro_rules | `(tactic| walk_at "eval Name") => `(tactic| (k_here; (with_reducible show wpAny _ _ (eval (Expr.Name (Str.ofString "super") _) _) _ _ _); k_dflt (refine' nameX_B (v := .type "super") ?F ?X ?T ?e ?hv ?hn ?_ ?a ?b ?c; (case F => k_asm); (case X => k_asm); (case T => k_asm); (case e => k_is); (case hv => first | rfl | kernel_rfl); (case hn => decide); (case a => rfl); (case b => rfl); (case c => decide); k_whole)))
local macro_rules | `(tactic| walk_at "m mem") => `(tactic| first | exact List.mem_cons_self | (refine List.mem_cons_of_mem _ ?_; walk_at "m mem") | (refine List.mem_append_right _ ?_; walk_at "m mem") | assumption)
local macro_rules | `(tactic| walk_at "m ext") => `(tactic| repeat' (first | exact ext_nil | (refine ext_cons (by first | assumption | (k_dflt exact lt_all (by assumption)) | exact lt_two (by assumption) (by assumption)) ?_) | (refine ext_app (by assumption) ?_)))
local macro_rules | `(tactic| walk_at "call type:super") => `(tactic| (k_here; k_dflt (refine' m_superI2 ?k0 ?k1 ?k2 ?k3 ?k4 ?_; (case k1 => k_asm); (case k2 => k_asm); (case k3 => k_asm); (case k4 => k_inst); (case k0 => assumption); k_whole; intro so' h' F' N' l1; (try k_lt l1))))
local macro_rules | `(tactic| walk_at "getMethod ref") => `(tactic| (k_here; (with_reducible show wpAny _ _ (getMethod (Value.ref _) (Str.ofString "__init__") _) _ _ _); k_dflt (refine' m_superInit ?k0 ?k1 ?k2 ?k3 ?k4 ?k5 ?_; (case k1 => k_asm); (case k2 => k_asm); (case k3 => k_asm); (case k4 => k_mem); (case k5 => k_inst); (case k0 => assumption); k_whole; intro q' h' F' N' l1; (try k_lt l1))))
local macro_rules | `(tactic| walk_at "setAttr ref") => `(tactic| (k_here; k_dflt (refine' set_dict ?k1 ?k2 ?k3 ?k4 ?k5 ?k6 ?k7 ?k8 ?k9 ?k10 ?k11 ?k12 ?k13 ?_; (case k1 => k_asm); (case k2 => k_asm); (case k3 => k_asm); (case k4 => k_inst); (case k5 => exact rfl); (case k6 => exact AttrF.setA (by assumption)); (case k7 => exact AttrF.over (by assumption)); (case k8 => first | exact AttrF.t1 (by assumption) | exact AttrF.t2 (by assumption) | exact AttrF.t3 (by assumption)); (case k9 => exact AttrF.dict (by assumption)); (case k10 => k_get); (case k11 => k_put); (case k12 => k_upd); (case k13 => exact Nat.le_of_ble_eq_true rfl); k_whole; intro h' F' N'; (try k_sweep))))
local macro_rules | `(tactic| walk_at "m endI") => `(tactic| ((with_reducible rename RetI _ _ _ _ _ _ _ _ => kret); (refine' retI kret ?f ?n ?x ?e; (case f => k_asm); (case n => k_asm); (case x => walk_at "m ext"); (case e => (walk_at "m msg")))))
local macro_rules | `(tactic| walk_at "m msg") => `(tactic| (k_dflt (first | refine' ⟨_, _, _, _, _, _, _, _, _, _, ?m1, ?m2, ?m3, ?m4⟩ | refine' ⟨_, _, _, _, _, _, _, _, ?m1, ?m2, ?m3, ?m4⟩); (case m1 => walk_at "m mem"); (case m2 => walk_at "m mem"); (case m3 => walk_at "m mem"); (case m4 => assumption)))
local macro_rules | `(tactic| walk_at "subscriptTail Name Slice ref ref") => `(tactic| (k_here; k_dflt (refine' slice_txt1 ?F ?N ?l ?i ?z ?_ ?s ?t; (case F => k_asm); (case N => k_asm); (case l => kmk_list); (case i => with_reducible assumption); (case z => omega); (case s => with_unfolding_all rfl); (case t => kmk_pure)); intro D' ws' h' F' N' l1 hI'; (try k_lt l1)))
set_option maxRecDepth 100000 in
set_option maxHeartbeats 8000000 in
theorem c_initP {l x dx Kl : Addr} {vs : List Value} {n : Nat} {ws : List Str} {mk : Str} {t1 : Tok} (C : Cx w mean mg mb A A₀ base h₀ outer cn cs a ccd cl L m ((x, instObj Kl dx) :: (dx, dictOf [] 0) :: (l, listOf vs.toArray n) :: news) s.heap 10) (AF : AttrF w Kl) (hl : ∀ p ∈ (l, listOf vs.toArray n) :: news, p.1 < dx) (hx : dx < x) (hS : StrsAre vs ws) (hb : ws.length ≤ 10)
    (ret : RetI w h₀ L m ((l, listOf vs.toArray n) :: news) s Q fun led => MsgP w led x Kl mk ws) :
    wpAny (model PySem.Challenge.rw_ez0290_01.row.prog w) A (call (.ref 208) [.ref x, .str mk t1, .ref l]) Q E s := by
  w_top off
  k_with_none
  obtain ⟨B, F, X, N, T, hk, hA, hh, hdp, hun⟩ := C
  obtain ⟨hd, dp, fr, gd, un⟩ := A
  dsimp only at hA hh hdp hun
  subst hA hh
  revert X; k_fill; intro X
  refine wpAny_call ?_
  k_dflt (refine' code_def (binds := [(Str.ofString "self", .ref x), (Str.ofString "manufacturer", .str mk t1), (Str.ofString "data", .ref l)]) ?k1 ?k2 ?k3 ?k4 ?k5 ?kA ?kF ?kK ?k6 ?k7 ?k8 ?k9 ?kB ?_ ?c2 ?c3 ?c4 ?c5; (case kA => exact rfl); (case kF => exact rfl); (case kK => assumption); (case k1 => k_asm); (case k2 => k_asm); (case k3 => k_asm); (case k4 => k_asm); (case k5 => k_asm); (case k6 => k_is); (case k7 => k_is); (case k8 => ktr_room); (case k9 => exact BindsTo.of_eq rfl); (case c5 => decide); (case kB => exact locs rfl); (case c2 => exact rfl); (case c3 => exact rfl); (case c4 => exact rfl); k_whole; intro g' L' h' FG' F' N' B' X' T'; (try dsimp only); (try k_fold))
  have hl' := hl
  k_lt hl'
  have hx' := ltN hx
  k_steps
  all_goals walk_at "m endI"
set_option maxRecDepth 100000 in
set_option maxHeartbeats 8000000 in
theorem c_initS {l x dx Kl : Addr} {vs : List Value} {n : Nat} {ws : List Str} {mk : Str} {t1 : Tok} (C : Cx w mean mg mb A A₀ base h₀ outer cn cs a ccd cl L m ((x, instObj Kl dx) :: (dx, dictOf [] 0) :: (l, listOf vs.toArray n) :: news) s.heap 10) (AF : AttrF w Kl) (IF : InitF w Kl 323) (hl : ∀ p ∈ (l, listOf vs.toArray n) :: news, p.1 < dx) (hx : dx < x) (hS : StrsAre vs ws) (hb : ws.length ≤ 10) (h0 : 0 < ws.length) (hk5 : mk.length ≤ 5) (hk6 : (ws.getD (Int.toNat 0) Str.empty).length ≤ 5)
    (ret : RetI w h₀ L m ((l, listOf vs.toArray n) :: news) s Q fun led => MsgS w led x Kl (mk ++ ws.getD (Int.toNat 0) Str.empty) mk (ws)) :
    wpAny (model PySem.Challenge.rw_ez0290_01.row.prog w) A (call (.ref 320) [.ref x, .str mk t1, .ref l]) Q E s := by
  w_top off
  k_with_none
  obtain ⟨B, F, X, N, T, hk, hA, hh, hdp, hun⟩ := C
  obtain ⟨hd, dp, fr, gd, un⟩ := A
  dsimp only at hA hh hdp hun
  subst hA hh
  revert X; k_fill; intro X
  refine wpAny_call ?_
  k_dflt (refine' code_defX (binds := [(Str.ofString "self", .ref x), (Str.ofString "manufacturer", .str mk t1), (Str.ofString "data", .ref l)]) ?k1 ?k2 ?k3 ?k4 ?k5 ?kA ?kF ?kK ?k6 ?k7 ?k8 ?k9 ?kB ?_ ?c2 ?c3 ?c4 ?c5; (case kA => exact rfl); (case kF => exact rfl); (case kK => assumption); (case k1 => k_asm); (case k2 => k_asm); (case k3 => k_asm); (case k4 => k_asm); (case k5 => k_asm); (case k6 => k_is); (case k7 => k_is); (case k8 => ktr_room); (case k9 => exact BindsTo.of_eq rfl); (case c5 => decide); (case kB => exact locs rfl); (case c2 => exact rfl); (case c3 => exact rfl); (case c4 => exact rfl); k_whole; intro g' L' h' FG' F' N' B' X' T'; (try dsimp only); (try k_fold))
  have hb2 : ws.tail.length ≤ 10 := by rw [List.length_tail]; omega
  have hl' := hl
  k_lt hl'
  have hx' := ltN hx
  k_steps
  all_goals walk_at "m endI"
set_option maxRecDepth 100000 in
set_option maxHeartbeats 8000000 in
theorem c_initN {l x dx Kl : Addr} {vs : List Value} {n : Nat} {ws : List Str} {mk : Str} {t1 : Tok} (C : Cx w mean mg mb A A₀ base h₀ outer cn cs a ccd cl L m ((x, instObj Kl dx) :: (dx, dictOf [] 0) :: (l, listOf vs.toArray n) :: news) s.heap 10) (AF : AttrF w Kl) (IF : InitF w Kl 254) (hl : ∀ p ∈ (l, listOf vs.toArray n) :: news, p.1 < dx) (hx : dx < x) (hS : StrsAre vs ws) (hb : ws.length ≤ 10) (h0 : 0 < ws.length) (hk5 : mk.length ≤ 5) (hk6 : (ws.getD (Int.toNat 0) Str.empty).length ≤ 5)
    (ret : RetI w h₀ L m ((l, listOf vs.toArray n) :: news) s Q fun led => MsgS w led x Kl (mk ++ ws.getD (Int.toNat 0) Str.empty) mk (ws.tail)) :
    wpAny (model PySem.Challenge.rw_ez0290_01.row.prog w) A (call (.ref 244) [.ref x, .str mk t1, .ref l]) Q E s := by
  w_top off
  k_with_none
  obtain ⟨B, F, X, N, T, hk, hA, hh, hdp, hun⟩ := C
  obtain ⟨hd, dp, fr, gd, un⟩ := A
  dsimp only at hA hh hdp hun
  subst hA hh
  revert X; k_fill; intro X
  refine wpAny_call ?_
  k_dflt (refine' code_defX (binds := [(Str.ofString "self", .ref x), (Str.ofString "manufacturer", .str mk t1), (Str.ofString "data", .ref l)]) ?k1 ?k2 ?k3 ?k4 ?k5 ?kA ?kF ?kK ?k6 ?k7 ?k8 ?k9 ?kB ?_ ?c2 ?c3 ?c4 ?c5; (case kA => exact rfl); (case kF => exact rfl); (case kK => assumption); (case k1 => k_asm); (case k2 => k_asm); (case k3 => k_asm); (case k4 => k_asm); (case k5 => k_asm); (case k6 => k_is); (case k7 => k_is); (case k8 => ktr_room); (case k9 => exact BindsTo.of_eq rfl); (case c5 => decide); (case kB => exact locs rfl); (case c2 => exact rfl); (case c3 => exact rfl); (case c4 => exact rfl); k_whole; intro g' L' h' FG' F' N' B' X' T'; (try dsimp only); (try k_fold))
  have hb2 : ws.tail.length ≤ 10 := by rw [List.length_tail]; omega
  have hl' := hl
  k_lt hl'
  have hx' := ltN hx
  k_steps
  all_goals walk_at "m endI"
end Mine
end

section
open PySem PySem.W PySem.W.X PySem.Spec PySem.Calls PyProof.Rows
namespace Mine
local macro_rules | `(tactic| k_room) => `(tactic| ktr_room)
local macro_rules | `(tactic| units_room) => `(tactic| ktr_units)
local macro_rules | `(tactic| k_units) => `(tactic| ktr_units)
local macro_rules | `(tactic| walk_at "call builtin:len") => `(tactic| (k_here; (with_reducible show wpAny _ _ (call (Value.builtin "len") [Value.ref _]) _ _ _); k_dflt (refine' len_txt ?k1 ?k2 ?k3 ?_; (case k1 => first | is_list | exact News.isList (by k_asm) (by k_mem)); (case k2 => with_reducible assumption); (case k3 => omega); k_whole)))
local macro_rules | `(tactic| walk_at "subscriptTail") => `(tactic| (k_here; (with_reducible show wpAny _ _ (subscriptTail _ _ (Value.ref _) (Value.int _ _)) _ _ _); (with_unfolding_all refine' item_txt ?k1 ?k2 ?k3 ?k4 ?k5 ?_ ?k6 ?k7; (case k1 => first | is_list | exact News.isList (by k_asm) (by k_mem)); (case k2 => with_reducible assumption); (case k3 => omega); (case k4 => first | decide | omega); (case k5 => omega); (case k6 => with_unfolding_all rfl); (case k7 => intro _; with_unfolding_all rfl); k_whole); intro _))
variable {w : World} {mean : ExcName → Option Value} {mg mb : Str → Option Value} {A A₀ : Around} {cn : Str} {cs : Scope} {a : Addr} {ccd : Value} {cl : List (Str × Addr)} {outer : List Env} {base h₀ : Heap} {L : Addr} {m : Str → Option Value} {news : List (Addr × Obj)} {s : Shared} {Q E : Value → Shared → Prop}
theorem news_sub {h₀ h : Heap} {L : Addr} {X Y : List (Addr × Obj)} (N : News h₀ L h X) (sub : ∀ p ∈ Y, p ∈ X) : News h₀ L h Y := fun p hp => N p (sub p hp)
theorem Ext.trans {X Y Z : List (Addr × Obj)} (a : Ext X Y) (b : Ext Y Z) : Ext X Z := by
  obtain ⟨t1, rfl, o1⟩ := a
  obtain ⟨t2, rfl, o2⟩ := b
  exact ⟨t2 ++ t1, (List.append_assoc ..).symm, off_app o2 (fun q hq => List.mem_append.mpr (.inr hq)) o1⟩
theorem ext_undup {h₀ h : Heap} {L : Addr} {p : Addr × Obj} {X Z : List (Addr × Obj)} (hp : p ∈ X) (a : Ext (p :: X) Z) (N : News h₀ L h Z) : ∃ Z', News h₀ L h Z' ∧ Ext X Z' ∧ ∀ q ∈ Z, q ∈ Z' := by
  obtain ⟨tl, rfl, o⟩ := a
  exact ⟨tl ++ X, news_undup N, ⟨tl, rfl, off_undup o⟩, fun q hq => (List.mem_append.mp hq).elim (fun z => List.mem_append.mpr (.inl z)) fun z => List.mem_append.mpr (.inr ((List.mem_cons.mp z).elim (fun e => e ▸ hp) id))⟩
theorem MsgS.mono {w : World} {X Y : List (Addr × Obj)} {x C : Addr} {st mk : Str} {ds : List Str} (M : MsgS w X x C st mk ds) (sub : ∀ p ∈ X, p ∈ Y) : MsgS w Y x C st mk ds := by
  obtain ⟨dx, l, k1, k2, k3, t1, t2, nd, n, vs, a, b, c, d⟩ := M
  exact ⟨dx, l, k1, k2, k3, t1, t2, nd, n, vs, sub _ a, sub _ b, sub _ c, d⟩
theorem MsgP.mono {w : World} {X Y : List (Addr × Obj)} {x C : Addr} {mk : Str} {ds : List Str} (M : MsgP w X x C mk ds) (sub : ∀ p ∈ X, p ∈ Y) : MsgP w Y x C mk ds := by
  obtain ⟨dx, l, k2, k3, t2, nd, n, vs, a, b, c, d⟩ := M
  exact ⟨dx, l, k2, k3, t2, nd, n, vs, sub _ a, sub _ b, sub _ c, d⟩
/-- a message comes back over a ledger that has grown -/
abbrev RetM (h₀ : Heap) (L : Addr) (m : Str → Option Value) (news : List (Addr × Obj)) (s : Shared) (Q : Value → Shared → Prop) (M : List (Addr × Obj) → Addr → Prop) : Prop :=
  ∀ x h' tk' led, Fr h₀ L h' m → News h₀ L h' led → Ext news led → M led x → Q (.ref x) { s with heap := h', toks := tk' }
theorem nfS {w : World} (n : Str) : NewF w (srfC n) 323 320 := by unfold srfC; split; exact nf_342; split; exact nf_361; exact nf_323
theorem atS {w : World} (n : Str) : AttrF w (srfC n) := by unfold srfC; split; exact at_342; split; exact at_361; exact at_323
theorem ifS {w : World} (n : Str) : InitF w (srfC n) 323 := by unfold srfC; split; exact if_342; split; exact if_361; exact if_323
theorem nfN {w : World} (n : Str) : NewF w (norC n) 254 244 := by unfold norC; split; exact nf_274; split; exact nf_294; exact nf_254
theorem atN {w : World} (n : Str) : AttrF w (norC n) := by unfold norC; split; exact at_274; split; exact at_294; exact at_254
theorem ifN {w : World} (n : Str) : InitF w (norC n) 254 := by unfold norC; split; exact if_274; split; exact if_294; exact if_254
theorem nfX {w : World} (n : Str) : NewF w (sxnC n) 382 208 := by unfold sxnC; split; exact nf_402; split; exact nf_418; split; exact nf_435; split; exact nf_454; split; exact nf_473; exact nf_382
theorem atX {w : World} (n : Str) : AttrF w (sxnC n) := by unfold sxnC; split; exact at_402; split; exact at_418; split; exact at_435; split; exact at_454; split; exact at_473; exact at_382
theorem cx_mk {news' : List (Addr × Obj)} {h' : Heap} {k j : Nat} {C : Addr} {rest : List Value} (X : Cx w mean mg mb A A₀ base h₀ outer cn cs a ccd cl L m news s.heap k) (F : Fr h₀ L h' m) (N : News h₀ L h' news') (hj : j + 2 ≤ k) : Cx w mean mg mb (mkA A C rest) A₀ base h₀ outer cn cs a ccd cl L m news' h' j := by
  obtain ⟨B, _, X, _, T, hk, hA, hh, hdp, hun⟩ := X
  obtain ⟨hd, dp, fr, gd, un⟩ := A
  dsimp only at hA hh hdp hun
  subst hA hh
  refine ⟨B, F, X, N, T, hk, rfl, rfl, ?_, ?_⟩
  · show dp + 1 + j < _; omega
  · show un + 1 + 100 * j < _; omega
theorem fn_320' {w : World} : typeIn (hd.heap_39 w.params) (.ref 320) = some (.type "function") := by kernel_rfl
theorem c_clsSRF {l : Addr} {vs : List Value} {n : Nat} {ws : List Str} {mk : Str} {t1 : Tok} (C : Cx w mean mg mb A A₀ base h₀ outer cn cs a ccd cl L m ((l, listOf vs.toArray n) :: news) s.heap 12) (hS : StrsAre vs ws) (hb : ws.length ≤ 10) (h0 : 0 < ws.length) (hk5 : mk.length ≤ 5) (hk6 : (ws.getD (Int.toNat 0) Str.empty).length ≤ 5)
    (ret : RetM h₀ L m ((l, listOf vs.toArray n) :: news) s Q fun led x => MsgS w led x (srfC (mk ++ ws.getD (Int.toNat 0) Str.empty)) (mk ++ ws.getD (Int.toNat 0) Str.empty) mk ws) :
    wpAny (model PySem.Challenge.rw_ez0290_01.row.prog w) A (call (.ref 323) [.str mk t1, .ref l]) Q E s := by
  have X₀ := C.X
  refine m_own ow_323 C.F C.X (c_newSRF (s := { s with toks := s.toks + 1 }) (cx_mk C C.F C.N (by omega)) hS hb h0 hk5 hk6 ?_)
  intro x dx h' tk' led F' N' E' l1 l2
  have hm : (l, listOf vs.toArray n) ∈ led := E'.sub _ (.head _)
  have hl : ∀ p ∈ (l, listOf vs.toArray n) :: led, p.1 < dx := fun p hp => (List.mem_cons.mp hp).elim (fun e => e ▸ l1 _ hm) (l1 p)
  have N2 : News h₀ L h' ((x, instObj (srfC (mk ++ ws.getD (Int.toNat 0) Str.empty)) dx) :: (dx, dictOf [] 0) :: (l, listOf vs.toArray n) :: led) := news_sub N' fun p hp => by
    rcases List.mem_cons.mp hp with rfl | hp
    · exact .head _
    · rcases List.mem_cons.mp hp with rfl | hp
      · exact .tail _ (.head _)
      · exact .tail _ (.tail _ ((List.mem_cons.mp hp).elim (fun e => e ▸ hm) id))
  have W := nfS (w := w) (mk ++ ws.getD (Int.toNat 0) Str.empty)
  refine ⟨⟨x, srfC (mk ++ ws.getD (Int.toNat 0) Str.empty), 320, _, some (dictOf [] 0), rfl, X₀.keeps F'.keep, InstAt.of_news N' (.head _) (.tail _ (.head _)), W.sub, W.init, fn_320', ?_⟩⟩
  refine c_initS (cx_mk C F' N2 (by omega)) (atS _) (ifS _) hl l2 hS hb h0 hk5 hk6 ?_
  intro h2 tk2 led2 F2 N2 E2 M2
  obtain ⟨led3, N3, E3, sub⟩ := ext_undup hm E2 N2
  exact ⟨rfl, ret x h2 tk2 led3 F2 N3 (Ext.trans E' E3) (MsgS.mono M2 sub)⟩
theorem fn_244' {w : World} : typeIn (hd.heap_39 w.params) (.ref 244) = some (.type "function") := by kernel_rfl
theorem c_clsNOR {l : Addr} {vs : List Value} {n : Nat} {ws : List Str} {mk : Str} {t1 : Tok} (C : Cx w mean mg mb A A₀ base h₀ outer cn cs a ccd cl L m ((l, listOf vs.toArray n) :: news) s.heap 12) (hS : StrsAre vs ws) (hb : ws.length ≤ 10) (h0 : 0 < ws.length) (hk5 : mk.length ≤ 5) (hk6 : (ws.getD (Int.toNat 0) Str.empty).length ≤ 5)
    (ret : RetM h₀ L m ((l, listOf vs.toArray n) :: news) s Q fun led x => MsgS w led x (norC (mk ++ ws.getD (Int.toNat 0) Str.empty)) (mk ++ ws.getD (Int.toNat 0) Str.empty) mk ws.tail) :
    wpAny (model PySem.Challenge.rw_ez0290_01.row.prog w) A (call (.ref 254) [.str mk t1, .ref l]) Q E s := by
  have X₀ := C.X
  refine m_own ow_254 C.F C.X (c_newNOR (s := { s with toks := s.toks + 1 }) (cx_mk C C.F C.N (by omega)) hS hb h0 hk5 hk6 ?_)
  intro x dx h' tk' led F' N' E' l1 l2
  have hm : (l, listOf vs.toArray n) ∈ led := E'.sub _ (.head _)
  have hl : ∀ p ∈ (l, listOf vs.toArray n) :: led, p.1 < dx := fun p hp => (List.mem_cons.mp hp).elim (fun e => e ▸ l1 _ hm) (l1 p)
  have N2 : News h₀ L h' ((x, instObj (norC (mk ++ ws.getD (Int.toNat 0) Str.empty)) dx) :: (dx, dictOf [] 0) :: (l, listOf vs.toArray n) :: led) := news_sub N' fun p hp => by
    rcases List.mem_cons.mp hp with rfl | hp
    · exact .head _
    · rcases List.mem_cons.mp hp with rfl | hp
      · exact .tail _ (.head _)
      · exact .tail _ (.tail _ ((List.mem_cons.mp hp).elim (fun e => e ▸ hm) id))
  have W := nfN (w := w) (mk ++ ws.getD (Int.toNat 0) Str.empty)
  refine ⟨⟨x, norC (mk ++ ws.getD (Int.toNat 0) Str.empty), 244, _, some (dictOf [] 0), rfl, X₀.keeps F'.keep, InstAt.of_news N' (.head _) (.tail _ (.head _)), W.sub, W.init, fn_244', ?_⟩⟩
  refine c_initN (cx_mk C F' N2 (by omega)) (atN _) (ifN _) hl l2 hS hb h0 hk5 hk6 ?_
  intro h2 tk2 led2 F2 N2 E2 M2
  obtain ⟨led3, N3, E3, sub⟩ := ext_undup hm E2 N2
  exact ⟨rfl, ret x h2 tk2 led3 F2 N3 (Ext.trans E' E3) (MsgS.mono M2 sub)⟩
theorem fn_208' {w : World} : typeIn (hd.heap_39 w.params) (.ref 208) = some (.type "function") := by kernel_rfl
theorem c_clsSXN {l : Addr} {vs : List Value} {n : Nat} {ws : List Str} {mk : Str} {t1 : Tok} (C : Cx w mean mg mb A A₀ base h₀ outer cn cs a ccd cl L m ((l, listOf vs.toArray n) :: news) s.heap 12) (hS : StrsAre vs ws) (hb : ws.length ≤ 10) (h0 : 1 < ws.length) (hk5 : mk.length ≤ 5) (hk6 : (ws.getD (Int.toNat 1) Str.empty).length ≤ 5)
    (ret : RetM h₀ L m ((l, listOf vs.toArray n) :: news) s Q fun led x => MsgP w led x (sxnC (mk ++ ws.getD (Int.toNat 1) Str.empty)) mk ws) :
    wpAny (model PySem.Challenge.rw_ez0290_01.row.prog w) A (call (.ref 382) [.str mk t1, .ref l]) Q E s := by
  have X₀ := C.X
  refine m_own ow_382 C.F C.X (c_newSXN (s := { s with toks := s.toks + 1 }) (cx_mk C C.F C.N (by omega)) hS hb h0 hk5 hk6 ?_)
  intro x dx h' tk' led F' N' E' l1 l2
  have hm : (l, listOf vs.toArray n) ∈ led := E'.sub _ (.head _)
  have hl : ∀ p ∈ (l, listOf vs.toArray n) :: led, p.1 < dx := fun p hp => (List.mem_cons.mp hp).elim (fun e => e ▸ l1 _ hm) (l1 p)
  have N2 : News h₀ L h' ((x, instObj (sxnC (mk ++ ws.getD (Int.toNat 1) Str.empty)) dx) :: (dx, dictOf [] 0) :: (l, listOf vs.toArray n) :: led) := news_sub N' fun p hp => by
    rcases List.mem_cons.mp hp with rfl | hp
    · exact .head _
    · rcases List.mem_cons.mp hp with rfl | hp
      · exact .tail _ (.head _)
      · exact .tail _ (.tail _ ((List.mem_cons.mp hp).elim (fun e => e ▸ hm) id))
  have W := nfX (w := w) (mk ++ ws.getD (Int.toNat 1) Str.empty)
  refine ⟨⟨x, sxnC (mk ++ ws.getD (Int.toNat 1) Str.empty), 208, _, some (dictOf [] 0), rfl, X₀.keeps F'.keep, InstAt.of_news N' (.head _) (.tail _ (.head _)), W.sub, W.init, fn_208', ?_⟩⟩
  refine c_initP (cx_mk C F' N2 (by omega)) (atX _) hl l2 hS hb ?_
  intro h2 tk2 led2 F2 N2 E2 M2
  obtain ⟨led3, N3, E3, sub⟩ := ext_undup hm E2 N2
  exact ⟨rfl, ret x h2 tk2 led3 F2 N3 (Ext.trans E' E3) (MsgP.mono M2 sub)⟩
end Mine
end

section
open PySem PySem.W PySem.W.X PySem.Spec PySem.Calls PyProof.Rows
namespace Mine
local macro_rules | `(tactic| k_room) => `(tactic| ktr_room)
local macro_rules | `(tactic| units_room) => `(tactic| ktr_units)
local macro_rules | `(tactic| k_units) => `(tactic| ktr_units)
local macro_rules | `(tactic| walk_at "call builtin:len") => `(tactic| (k_here; (with_reducible show wpAny _ _ (call (Value.builtin "len") [Value.ref _]) _ _ _); k_dflt (refine' len_txt ?k1 ?k2 ?k3 ?_; (case k1 => first | is_list | exact News.isList (by k_asm) (by k_mem)); (case k2 => with_reducible assumption); (case k3 => omega); k_whole)))
local macro_rules | `(tactic| walk_at "subscriptTail") => `(tactic| (k_here; (with_reducible show wpAny _ _ (subscriptTail _ _ (Value.ref _) (Value.int _ _)) _ _ _); (with_unfolding_all refine' item_txt ?k1 ?k2 ?k3 ?k4 ?k5 ?_ ?k6 ?k7; (case k1 => first | is_list | exact News.isList (by k_asm) (by k_mem)); (case k2 => with_reducible assumption); (case k3 => omega); (case k4 => first | decide | omega); (case k5 => omega); (case k6 => with_unfolding_all rfl); (case k7 => intro _; with_unfolding_all rfl); k_whole); intro _))
variable {w : World} {mean : ExcName → Option Value} {mg mb : Str → Option Value} {A A₀ : Around} {cn : Str} {cs : Scope} {a : Addr} {ccd : Value} {cl : List (Str × Addr)} {outer : List Env} {base h₀ : Heap} {L : Addr} {m : Str → Option Value} {news : List (Addr × Obj)} {s : Shared} {Q E : Value → Shared → Prop}
section
variable {prog : Program} {w : World} {A : Around} {E : Value → Shared → Prop} {h : Heap} {g : Array GenState} {d : Drawn} {t : Nat} {os : OsState}
set_option maxRecDepth 100000 in
theorem make_std {C : Addr} {id : String} {oc : Value} {od : Option Addr} {cd : ClassData} {sl : Array (Option Value)} {rest : List Value} {R : Result → Shared → Prop} (hC : h.get? C = some ⟨oc, od, .cls cd, sl⟩) (e4 : cd.mro.isEmpty = false)
    (call : Looks (model prog w) h (specialOf (.ref C) "__call__") (some (.builtin "type.__call__"))) (typ : Looks (model prog w) h (isInstance (.ref C) (.type "type")) true) (made : Looks (model prog w) h (Bind.madeBy (.ref C)) (some id))
    (hnew : wpAny (model prog w) (A.under (.builtin "type.__call__" ⟨.ref C :: rest, []⟩)) (PySem.call (.builtin id) (.ref C :: rest))
      (fun v s' => ∃ x C' fI, v = .ref x ∧ Looks (model prog w) s'.heap (typeOf (.ref x)) (.ref C') ∧ Looks (model prog w) s'.heap (isSubtype (.ref C') (.ref C)) true ∧ Looks (model prog w) s'.heap (typeLookup (.ref C') "__init__") (some (.ref fI)) ∧
        (∀ self, Looks (model prog w) s'.heap (bindSpecial (.ref fI) self) (.ref fI, [self])) ∧
        wpAny (model prog w) (A.under (.builtin "type.__call__" ⟨.ref C :: rest, []⟩)) (PySem.call (.ref fI) (.ref x :: rest)) (fun r s'' => r = .none ∧ R (.ok (.ret (.ref x))) s'') (fun e s'' => R (.error e) s'') s')
      (fun e s' => R (.error e) s') ⟨h, g, d, t, os⟩) :
    codeAny (model prog w) A (.call (.ref C) ⟨rest, []⟩) R ⟨h, g, d, t, os⟩ := by
  refine codeAny_of_tree ?_
  show wpAny _ _ (callAny (.ref C) _) _ _ _
  refine nd_load hC ?_
  show wpAny _ _ (callAny.viaDunder (.ref C) _) _ _ _
  unfold callAny.viaDunder
  refine wpAny_bind (call.at ?_)
  dsimp only
  rw [tc_bind]
  refine wpAny_bind (wpAny_pure (wpAny_bind (wpAny_pure ?_)))
  refine wpAny_pure (a := Fin.again (.call (.builtin "type.__call__") ⟨.ref C :: rest, []⟩)) (And.intro rfl ?_)
  refine codeAny_call_builtin_at (Code.quiet_builtin _ (by decide +kernel)) entry_typeCall (check_slot tc_kind tc_split typ (tc_args _ _ _) ?_)
  unfold Builtin.«type.__call__»
  have hm : Looks (model prog w) h (mroOf (.ref C)) cd.mro := ((Looks.ld (part := none) hC).andThen .now).andThen .now
  repeat (first | simp only [e4, Bool.false_eq_true, if_false] | with_reducible refine wpAny_mono hnew ?_ (fun e s' z => z) | lk)
  intro v s' hv
  obtain ⟨x, C', fI, rfl, t1, s1, i1, b1, hi⟩ := hv
  have b2 := b1 (.ref x)
  obtain ⟨h1, g1, d1, k1, os1⟩ := s'
  have hi' : wpAny (model prog w) (A.under (.builtin "type.__call__" ⟨.ref C :: rest, []⟩)) (PySem.call (.ref fI) ([.ref x] ++ rest)) (fun r s'' => r = .none ∧ R (.ok (.ret (.ref x))) s'') (fun e s'' => R (.error e) s'') ⟨h1, g1, d1, k1, os1⟩ := hi
  unfold isInstance callSpecial? specialOf
  repeat (first | with_reducible refine wpAny_mono hi' ?_ (fun e s'' z => z) | lk)
  intro r s'' z
  obtain ⟨rfl, z⟩ := z
  exact wpAny_pure (wpAny_pure z)
end
theorem m_218 {w : World} : makesIn (hd.heap_39 w.params) 218 = true := by kernel_rfl
theorem m_218c {w : World} : clsOk (hd.heap_39 w.params) 218 = true := by kernel_rfl
theorem m_218i {w : World} : findIn (hd.heap_39 w.params) (.ref 218) "__init__" = some (some (.ref 208)) := by kernel_rfl
theorem m_218s {w : World} : mroIn (hd.heap_39 w.params) 218 (.ref 218) = some true := by kernel_rfl
theorem c_clsP {l : Addr} {vs : List Value} {n : Nat} {ws : List Str} {mk : Str} {t1 : Tok} (C : Cx w mean mg mb A A₀ base h₀ outer cn cs a ccd cl L m ((l, listOf vs.toArray n) :: news) s.heap 12) (hS : StrsAre vs ws) (hb : ws.length ≤ 10)
    (ret : RetM h₀ L m ((l, listOf vs.toArray n) :: news) s Q fun led x => MsgP w led x 218 mk ws) :
    wpAny (model PySem.Challenge.rw_ez0290_01.row.prog w) A (call (.ref 218) [.str mk t1, .ref l]) Q E s := by
  have X₀ := C.X
  have F := C.F
  have N := C.N
  have X : (hd.heap_39 w.params).In s.heap := X₀.keeps F.keep
  obtain ⟨oc, od, cd, sl, hg, _, _, e4⟩ := clsOk_of X m_218c
  obtain ⟨hh, g, d, t, os⟩ := s
  have Y := makes_of (M := model PySem.Challenge.rw_ez0290_01.row.prog w) X m_218
  have hi := looks_findIn (M := model PySem.Challenge.rw_ez0290_01.row.prog w) X m_218i
  refine wpAny_call (make_std hg e4 Y.call Y.typ Y.made (wpAny_call (new_K Y hi (.inl rfl) ?_)))
  have F' := (F.push emptyDict).push (instObj 218 hh.objs.size)
  have N' := (N.push F emptyDict).push (F.push _) (instObj 218 hh.objs.size)
  rw [Heap.size_push] at N'
  refine ⟨hh.objs.size + 1, 218, 208, rfl, (InstAt.of_news N' (.head _) (.tail _ (.head _))).type, looks_mroIn (X₀.keeps F'.keep) m_218s, looks_findIn (X₀.keeps F'.keep) m_218i, fun self => bind_fn (X₀.keeps F'.keep) self fn_208, ?_⟩
  refine c_initP (s := ⟨(hh.push emptyDict).push (instObj 218 hh.objs.size), g, d, t, os⟩) (cx_mk C F' N' (by omega)) at_218 (fun p hp => Heap.lt_size (N p hp).1) (Nat.lt_succ_self _) hS hb ?_
  intro h2 tk2 led2 F2 N2 E2 M2
  exact ⟨rfl, ret _ h2 tk2 led2 F2 N2 E2 M2⟩
end Mine
end

section
open PySem PySem.W PySem.Spec PySem.Calls PyProof.Rows Builtin PySem.NumText
set_option maxRecDepth 100000
namespace Mine
open PySem.W.KIN
theorem wp_text16 {M : Model} {A : Around} {E : Value → Shared → Prop} {s : Shared} {Q : Value → Shared → Prop} {v : Value} {text : List Nat} {n : Int}
    (hs : (text.takeWhile (· != 0)).length ≤ 640) (hr : (int_private% "readNumeral") 0 16 (text.takeWhile (· != 0)) = (int_private% "Numeral.value") n)
    (ha : ((text.takeWhile (· != 0)).length == text.length) = true) (h : Q (.int n s.toks) { s with toks := s.toks + 1 }) :
    wpAny M A ((int_private% "intFromText") v text 16) Q E s := by
  obtain ⟨hp, g, d, tk, os⟩ := s
  repeat (any_goals (first
    | assumption
    | (with_reducible refine wpAny_ite_true (decide_eq_true hs) ?_)
    | (with_reducible refine wpAny_ite_true (decide_eq_true ha) ?_)
    | wp_step))
  all_goals (try rw [hr])
  all_goals (try dsimp only)
  repeat (any_goals (first
    | assumption
    | (with_reducible refine wpAny_ite_true (decide_eq_true hs) ?_)
    | (with_reducible refine wpAny_ite_true (decide_eq_true ha) ?_)
    | wp_step))
set_option maxHeartbeats 4000000 in
theorem gives_text16 {x : PySem.Str} {u u2 : Tok} {n : Int} (hs : (numSeenOf x).length ≤ 640) (hr : (int_private% "readNumeral") 0 16 (numSeenOf x) = (int_private% "Numeral.value") n) (ha : ((numSeenOf x).length == (numTextOf x).length) = true) :
    Gives (Builtin.«int.__new__» ⟨[.type "int", .str x u, .int 16 u2], []⟩) (.int n) :=
  .of_wp fun M A E s Q h => by
    obtain ⟨hp, g, d, tk, os⟩ := s
    have f1 := F.conv_sub_int
    have f2 := F.madeHere_int
    have f6 : typeOf (.str x u) = pure (.type "str") := rfl
    have hk := Hid.mk (And.intro hs (And.intro hr ha))
    clear hs hr ha
    repeat (any_goals (first
      | assumption
      | ((with_reducible show wpAny _ _ ((int_private% "intFromText") _ _ _) _ _ _); refine wp_text16 hk.out.1 hk.out.2.1 hk.out.2.2 ?_)
      | wp_step))
    all_goals first | exact ⟨_, rfl, h⟩ | skip
theorem typeCall_int_2 (a b : Value) : checkTypeCall "int" ⟨[a, b], []⟩ = pure () := by kernel_rfl
theorem newCall_int_2 (a b : Value) : checkBuiltinCall "int.__new__" ⟨[.type "int", a, b], []⟩ = pure () := by kernel_rfl
/-- a text that int(., 16) reads -/
def Hex16 (x : Str) (n : Int) : Prop := (numSeenOf x).length ≤ 640 ∧ (int_private% "readNumeral") 0 16 (numSeenOf x) = (int_private% "Numeral.value") n ∧ ((numSeenOf x).length == (numTextOf x).length) = true
section
variable {prog : Program} {w : World} {A : Around} {E : Value → Shared → Prop} {s : Shared} {Q : Value → Shared → Prop} {x y z : PySem.Str} {t u : Tok} {n : Int}
theorem call_int16 (H : Hex16 x n) (h : Q (.int n s.toks) { s with toks := s.toks + 1 }) : wpAny (model prog w) A (call (.type "int") [.str x t, .int 16 u]) Q E s :=
  callType_new F.called_int F.newNe_int (typeCall_int_2 _ _) (newCall_int_2 _ _) (fun obj => F.args_object_init_3 obj _ _) F.entry_int_new (gives_text16 H.1 H.2.1 H.2.2).meets (show (Made.int n).post _ s from ⟨rfl, h⟩)
theorem p_in {T : Addr} {items : Array Value} {ys : List Str} (hT : IsTup s.heap T items) (hi : StrsAre items.toList ys) (e : (ys.any fun z => z == x) = true) (h : Q (.bool true) s) : wpAny (model prog w) A (compareOp .In (.str x u) (.ref T)) Q E s :=
  in_tuple_strs hT hi (by rw [e]; exact h)
theorem p_upper (e : Txt.upper x = y) (hx : x.length ≤ 1000) (h : ∀ k, Q (.str y k) { s with toks := s.toks + 1 }) : wpAny (model prog w) A (call (.builtin "str.upper") [.str x t]) Q E s :=
  SCL.upper (by omega) fun _ => by rw [e]; exact h _
theorem p_len (e : x.length = 2) (h : ∀ k, Q (.int 2 k) { s with toks := s.toks + 1 + 1 }) : wpAny (model prog w) A (call (.builtin "len") [.str x t]) Q E s :=
  len_str (by rw [e]; decide) (by rw [e]; exact h _)
theorem p_len4 (e : x.length = 4) (h : ∀ k, Q (.int 4 k) { s with toks := s.toks + 1 + 1 }) : wpAny (model prog w) A (call (.builtin "len") [.str x t]) Q E s :=
  len_str (by rw [e]; decide) (by rw [e]; exact h _)
theorem p_truthy {Q : Bool → Shared → Prop} (e : x.length = 2) (h : Q true { s with toks := s.toks + 1 + 1 }) : wpAny (model prog w) A (truthy (.str x t)) Q E s :=
  P.truthy_str (by rw [e]; decide) (by rw [e]; exact h)
theorem p_ne (h : Q (.bool false) s) : wpAny (model prog w) A (compareOp .NotEq (.int n t) (.int n u)) Q E s := by
  have e : (n != n) = false := by simp
  exact ne_int (by rw [e]; exact h)
variable {h₀ : Heap} {L : Addr} {m : Str → Option Value} {news : List (Addr × Obj)} {value slice : PySem.Expr} {i j : Int} {ui uj : Tok}
theorem p_split {ws : List Str} (F : Fr h₀ L s.heap m) (N : News h₀ L s.heap news) (hy : (y.length == 0) = false) (e : Txt.split x y = ws) (hsz : x.length ≤ 1000)
    (h : ∀ D vs h' k, StrsAre vs ws → Fr h₀ L h' m → News h₀ L h' ((D, listOf vs.toArray 0) :: news) → (∀ p ∈ news, p.1 < D) → Q (.ref D) { s with heap := h', toks := k }) :
    wpAny (model prog w) A (call (.builtin "str.split") [.str x t, .str y u]) Q E s :=
  KSpl.split1 F N hy (fun D l h' k e1 e2 F' N' l1 => h D _ h' k (by rw [e1, e] at e2; exact e2) F' N' l1) (by rw [sizeLine_eq]; omega)
theorem p_ns (F : Fr h₀ L s.heap m) (N : News h₀ L s.heap news) (e : Txt.slice x none (some j) = y) (hx : x.length ≤ 1000)
    (h : ∀ h' t' k, Fr h₀ L h' m → News h₀ L h' news → Q (.str y t') { s with heap := h', toks := k })
    (hs : subscripted slice false (.str x t) (.ref s.heap.objs.size) = operate [.ref s.heap.objs.size, .str x t] (getItem (.str x t) (.ref s.heap.objs.size))) (hg : ∀ r, letTemporaryGo value (.str x t) r = pure ()) :
    wpAny (model prog w) A (subscriptTail value slice (.str x t) (.ref s.heap.objs.size)) Q E { s with heap := s.heap.push { cls := .type "slice", data := .fields #[.none, .int j uj, .none] } } :=
  slice_strN_ns F N (fun h' t' k F' N' => by rw [e]; exact h h' t' k F' N') hs hg (by rw [sizeLine_eq]; omega)
theorem p_sn (F : Fr h₀ L s.heap m) (N : News h₀ L s.heap news) (e : Txt.slice x (some i) none = y) (hx : x.length ≤ 1000)
    (h : ∀ h' t' k, Fr h₀ L h' m → News h₀ L h' news → Q (.str y t') { s with heap := h', toks := k })
    (hs : subscripted slice false (.str x t) (.ref s.heap.objs.size) = operate [.ref s.heap.objs.size, .str x t] (getItem (.str x t) (.ref s.heap.objs.size))) (hg : ∀ r, letTemporaryGo value (.str x t) r = pure ()) :
    wpAny (model prog w) A (subscriptTail value slice (.str x t) (.ref s.heap.objs.size)) Q E { s with heap := s.heap.push { cls := .type "slice", data := .fields #[.int i ui, .none, .none] } } :=
  slice_strN_sn F N (fun h' t' k F' N' => by rw [e]; exact h h' t' k F' N') hs hg (by rw [sizeLine_eq]; omega)
theorem p_ss (F : Fr h₀ L s.heap m) (N : News h₀ L s.heap news) (e : Txt.slice x (some i) (some j) = y) (hx : x.length ≤ 1000)
    (h : ∀ h' t' k, Fr h₀ L h' m → News h₀ L h' news → Q (.str y t') { s with heap := h', toks := k })
    (hs : subscripted slice false (.str x t) (.ref s.heap.objs.size) = operate [.ref s.heap.objs.size, .str x t] (getItem (.str x t) (.ref s.heap.objs.size))) (hg : ∀ r, letTemporaryGo value (.str x t) r = pure ()) :
    wpAny (model prog w) A (subscriptTail value slice (.str x t) (.ref s.heap.objs.size)) Q E { s with heap := s.heap.push { cls := .type "slice", data := .fields #[.int i ui, .int j uj, .none] } } :=
  slice_strN_ss F N (fun h' t' k F' N' => by rw [e]; exact h h' t' k F' N') hs hg (by rw [sizeLine_eq]; omega)
end
section
variable {w : World} {A : Around} {E : Value → Shared → Prop} {s : Shared} {h₀ : Heap} {L d : Addr} {news : List (Addr × Obj)} {o : Obj} {kvs : List (Str × Value)} {prog : Program}
theorem p_get {ty : Str} {t : Tok} {dflt v : Value} {Q : Value → Shared → Prop} (N : News h₀ L s.heap news) (hp : (d, o) ∈ news) (hd : o.IsDictOf (PySem.strKind prog w) kvs) (lo : (d == sysModules) = false) (hg : (valueAt kvs ty).getD dflt = v) (h : Q v { s with toks := s.toks + 1 }) :
    wpAny (model prog w) A (call (.builtin "dict.get") [.ref d, .str ty t, dflt]) Q E s :=
  kdg_get2 (knd := PySem.strKind prog w) N hp hd lo (strKind_is _ _ _ _) _ rfl (by rw [hg]; exact h)
end
/-- what a class makes of a maker's name and the parts -/
def ClsC (w : World) (mean : ExcName → Option Value) (mg mb : Str → Option Value) (cls : Addr) (mk : Str) (ws : List Str) (MM : List (Addr × Obj) → Addr → Prop) : Prop :=
  ∀ (A A₀ : Around) (base h₀ : Heap) (outer : List Env) (cn : Str) (cs : Scope) (a : Addr) (ccd : Value) (cl : List (Str × Addr)) (L : Addr) (m : Str → Option Value) (news : List (Addr × Obj)) (s : Shared) (Q E : Value → Shared → Prop) (l : Addr) (vs : List Value) (n : Nat) (t : Tok),
    Cx w mean mg mb A A₀ base h₀ outer cn cs a ccd cl L m ((l, listOf vs.toArray n) :: news) s.heap 12 → StrsAre vs ws →
    (∀ x h' tk' led, Fr h₀ L h' m → News h₀ L h' led → Ext ((l, listOf vs.toArray n) :: news) led → MM led x → Q (.ref x) { s with heap := h', toks := tk' }) →
    wpAny (model PySem.Challenge.rw_ez0290_01.row.prog w) A (call (.ref cls) [.str mk t, .ref l]) Q E s
end Mine
end

section
open PySem PySem.W PySem.W.X PySem.Spec PySem.Calls PyProof.Rows
namespace Mine
local macro_rules | `(tactic| k_room) => `(tactic| ktr_room)
local macro_rules | `(tactic| units_room) => `(tactic| ktr_units)
local macro_rules | `(tactic| k_units) => `(tactic| ktr_units)
local macro_rules | `(tactic| walk_at "call builtin:len") => `(tactic| (k_here; (with_reducible show wpAny _ _ (call (Value.builtin "len") [Value.ref _]) _ _ _); k_dflt (refine' len_txt ?k1 ?k2 ?k3 ?_; (case k1 => first | is_list | exact News.isList (by k_asm) (by k_mem)); (case k2 => with_reducible assumption); (case k3 => omega); k_whole)))
local macro_rules | `(tactic| walk_at "subscriptTail") => `(tactic| (k_here; (with_reducible show wpAny _ _ (subscriptTail _ _ (Value.ref _) (Value.int _ _)) _ _ _); (with_unfolding_all refine' item_txt ?k1 ?k2 ?k3 ?k4 ?k5 ?_ ?k6 ?k7; (case k1 => first | is_list | exact News.isList (by k_asm) (by k_mem)); (case k2 => with_reducible assumption); (case k3 => omega); (case k4 => first | decide | omega); (case k5 => omega); (case k6 => with_unfolding_all rfl); (case k7 => intro _; with_unfolding_all rfl); k_whole); intro _))
variable {w : World} {mean : ExcName → Option Value} {mg mb : Str → Option Value} {A A₀ : Around} {cn : Str} {cs : Scope} {a : Addr} {ccd : Value} {cl : List (Str × Addr)} {outer : List Env} {base h₀ : Heap} {L : Addr} {m : Str → Option Value} {news : List (Addr × Obj)} {s : Shared} {Q E : Value → Shared → Prop}
local macro_rules | `(tactic| walk_at "call type:map") => `(tactic| (k_here; k_dflt (refine' m_map ?F ?N ?ha ?_; (case F => k_asm); (case N => k_asm); (case ha => assumption); k_whole); intro M' T' I' h' F' N' W'))
local macro_rules | `(tactic| walk_at "call builtin:_functools.reduce") => `(tactic| (k_here; k_dflt (refine' m_reduce ?hh ?F ?N ?W ?_; (case F => k_asm); (case N => k_asm); (case W => assumption); (case hh => exact rfl); k_whole); intro h' tk' u' F' N'))
local macro_rules | `(tactic| walk_at "m endC") => `(tactic| ((with_reducible rename RetV _ _ _ _ _ _ _ => kret); (refine' kret _ _ _ ?f ?n ?e; (case f => k_asm); (case n => k_asm); (case e => first | exact .int _ _ | exact .bool _ | exact .str _ _))))
set_option maxRecDepth 100000 in
set_option maxHeartbeats 8000000 in
theorem c_ck {x : Str} {t : Tok} (C : Cx w mean mg mb A A₀ base h₀ outer cn cs a ccd cl L m (news) s.heap 10) (ha : x.cps.all (· < 128) = true)
    (ret : RetV h₀ L m news s Q (.int (xorFrom x 0 x.cps.size 0))) :
    wpAny (model PySem.Challenge.rw_ez0290_01.row.prog w) A (call (.ref 113) [.str x t]) Q E s := by
  w_top off
  k_with_none
  obtain ⟨B, F, X, N, T, hk, hA, hh, hdp, hun⟩ := C
  obtain ⟨hd, dp, fr, gd, un⟩ := A
  dsimp only at hA hh hdp hun
  subst hA hh
  revert X; k_fill; intro X
  refine wpAny_call ?_
  k_dflt ktr_enter
  k_steps
  all_goals walk_at "m endC"
end Mine
end

section
open PySem PySem.W PySem.W.X PySem.Spec PySem.Calls PyProof.Rows
namespace Mine
local macro_rules | `(tactic| k_room) => `(tactic| ktr_room)
local macro_rules | `(tactic| units_room) => `(tactic| ktr_units)
local macro_rules | `(tactic| k_units) => `(tactic| ktr_units)
local macro_rules | `(tactic| walk_at "call builtin:len") => `(tactic| (k_here; (with_reducible show wpAny _ _ (call (Value.builtin "len") [Value.ref _]) _ _ _); k_dflt (refine' len_txt ?k1 ?k2 ?k3 ?_; (case k1 => first | is_list | exact News.isList (by k_asm) (by k_mem)); (case k2 => with_reducible assumption); (case k3 => omega); k_whole)))
local macro_rules | `(tactic| walk_at "subscriptTail") => `(tactic| (k_here; (with_reducible show wpAny _ _ (subscriptTail _ _ (Value.ref _) (Value.int _ _)) _ _ _); (with_unfolding_all refine' item_txt ?k1 ?k2 ?k3 ?k4 ?k5 ?_ ?k6 ?k7; (case k1 => first | is_list | exact News.isList (by k_asm) (by k_mem)); (case k2 => with_reducible assumption); (case k3 => omega); (case k4 => first | decide | omega); (case k5 => omega); (case k6 => with_unfolding_all rfl); (case k7 => intro _; with_unfolding_all rfl); k_whole); intro _))
variable {w : World} {mean : ExcName → Option Value} {mg mb : Str → Option Value} {A A₀ : Around} {cn : Str} {cs : Scope} {a : Addr} {ccd : Value} {cl : List (Str × Addr)} {outer : List Env} {base h₀ : Heap} {L : Addr} {m : Str → Option Value} {news : List (Addr × Obj)} {s : Shared} {Q E : Value → Shared → Prop}
theorem w_len3 {prog : Program} {w : World} {A : Around} {E : Value → Shared → Prop} {s : Shared} {Q : Value → Shared → Prop} {x : Str} {t : Tok} (e : x.length = 3) (h : ∀ k, Q (.int 3 k) { s with toks := s.toks + 1 + 1 }) : wpAny (model prog w) A (call (.builtin "len") [.str x t]) Q E s :=
  len_str (by rw [e]; decide) (by rw [e]; exact h _)
local macro_rules | `(tactic| walk_at "call builtin:len") => `(tactic| (k_here; (with_reducible show wpAny _ _ (call (Value.builtin "len") [Value.str _ _]) _ _ _); k_dflt (refine w_len3 (by assumption) ?_); intro _))
set_option maxRecDepth 100000 in
set_option maxHeartbeats 8000000 in
theorem c_wl {x : Str} {t t2 : Tok} (C : Cx w mean mg mb A A₀ base h₀ outer cn cs a ccd cl L m (news) s.heap 10) (hl : x.length = 3) (ha : Txt.isalnum (Txt.replace x (Str.ofString "_") (Str.ofString "a")) = true)
    (ret : RetV h₀ L m news s Q (.bool true)) :
    wpAny (model PySem.Challenge.rw_ez0290_01.row.prog w) A (call (.ref 98) [.str x t, .int 3 t2]) Q E s := by
  w_top off
  k_with_none
  obtain ⟨B, F, X, N, T, hk, hA, hh, hdp, hun⟩ := C
  obtain ⟨hd, dp, fr, gd, un⟩ := A
  dsimp only at hA hh hdp hun
  subst hA hh
  revert X; k_fill; intro X
  refine wpAny_call ?_
  k_dflt ktr_enter
  have hx : x.length ≤ 10 := by omega
  k_steps
  all_goals ((with_reducible rename RetV _ _ _ _ _ _ _ => kret); (refine' kret _ _ _ ?f ?n ?e; (case f => k_asm); (case n => k_asm); (case e => rw [ha]; exact .bool _)))
end Mine
end

section
open PySem PySem.W PySem.W.X PySem.Spec PySem.Calls PyProof.Rows
namespace Mine
local macro_rules | `(tactic| k_room) => `(tactic| ktr_room)
local macro_rules | `(tactic| units_room) => `(tactic| ktr_units)
local macro_rules | `(tactic| k_units) => `(tactic| ktr_units)
local macro_rules | `(tactic| walk_at "call builtin:len") => `(tactic| (k_here; (with_reducible show wpAny _ _ (call (Value.builtin "len") [Value.ref _]) _ _ _); k_dflt (refine' len_txt ?k1 ?k2 ?k3 ?_; (case k1 => first | is_list | exact News.isList (by k_asm) (by k_mem)); (case k2 => with_reducible assumption); (case k3 => omega); k_whole)))
local macro_rules | `(tactic| walk_at "subscriptTail") => `(tactic| (k_here; (with_reducible show wpAny _ _ (subscriptTail _ _ (Value.ref _) (Value.int _ _)) _ _ _); (with_unfolding_all refine' item_txt ?k1 ?k2 ?k3 ?k4 ?k5 ?_ ?k6 ?k7; (case k1 => first | is_list | exact News.isList (by k_asm) (by k_mem)); (case k2 => with_reducible assumption); (case k3 => omega); (case k4 => first | decide | omega); (case k5 => omega); (case k6 => with_unfolding_all rfl); (case k7 => intro _; with_unfolding_all rfl); k_whole); intro _))
variable {w : World} {mean : ExcName → Option Value} {mg mb : Str → Option Value} {A A₀ : Around} {cn : Str} {cs : Scope} {a : Addr} {ccd : Value} {cl : List (Str × Addr)} {outer : List Env} {base h₀ : Heap} {L : Addr} {m : Str → Option Value} {news : List (Addr × Obj)} {s : Shared} {Q E : Value → Shared → Prop}
theorem c_wlE {x : Str} {t t2 : Tok} (C : Cx w mean mg mb A A₀ base h₀ outer cn cs a ccd cl L m news s.heap 10) (hl : x.length = 3) (ha : Txt.isalnum (Txt.replace x (Str.ofString "_") (Str.ofString "a")) = true)
    (ret : ∀ h' tk', Fr h₀ L h' m → News h₀ L h' news → Q (.bool true) { s with heap := h', toks := tk' }) :
    wpAny (model PySem.Challenge.rw_ez0290_01.row.prog w) A (call (.ref 98) [.str x t, .int 3 t2]) Q E s :=
  c_wl C hl ha fun r h' tk' F' N' d => by cases d; exact ret h' tk' F' N'
theorem dat_true {n : List (Addr × Obj)} {r : Value} (h : DatIn n r (.bool true)) : r = .bool true := by cases h; rfl
theorem c_ckE {x : Str} {t : Tok} {ck : Int} (C : Cx w mean mg mb A A₀ base h₀ outer cn cs a ccd cl L m news s.heap 10) (ha : x.cps.all (· < 128) = true) (e : xorFrom x 0 x.cps.size 0 = ck)
    (ret : ∀ t' h' tk', Fr h₀ L h' m → News h₀ L h' news → Q (.int ck t') { s with heap := h', toks := tk' }) :
    wpAny (model PySem.Challenge.rw_ez0290_01.row.prog w) A (call (.ref 113) [.str x t]) Q E s :=
  c_ck C ha fun r h' tk' F' N' d => by rw [e] at d; cases d; exact ret _ h' tk' F' N'
local macro_rules | `(tactic| walk_at "callWith ref") => `(tactic| (k_here; k_dflt (refine' callWith_K ?k1 ?k2 ?_; (case k1 => k_asm); (case k2 => assumption); k_whole)))
local macro_rules | `(tactic| walk_at "call builtin:str.lstrip") => `(tactic| (k_here; (refine KXw.lstrip (by assumption) (by rw [sizeLine_eq]; omega) ?_); intro _ _))
local macro_rules | `(tactic| walk_at "call builtin:str.partition") => `(tactic| (k_here; (refine KXpa.partition (by k_asm) (by k_asm) (by decide) (by assumption) (by assumption) (by assumption) (by rw [sizeLine_eq]; omega) ?_); intro D' _ _ _ _ _ F' N' l1; (try k_lt l1)))
local macro_rules | `(tactic| walk_at "subscriptTail Name Slice str ref") => `(tactic| (k_here; (with_reducible show wpAny _ _ (subscriptTail _ (Expr.Slice none (some _) none _) _ _) _ _ _); k_dflt (refine' p_ns (s := ⟨_, _, _, _, _⟩) ?F ?N ?e ?hx ?_ ?hs ?hg; (case F => k_asm); (case N => k_asm); (case e => assumption); (case hx => first | assumption | omega); (case hs => with_unfolding_all rfl); (case hg => (intro _; with_unfolding_all rfl)); k_whole); intro _ _ _ _ _))
local macro_rules | `(tactic| walk_at "subscriptTail Name Slice str ref") => `(tactic| (k_here; (with_reducible show wpAny _ _ (subscriptTail _ (Expr.Slice (some _) none none _) _ _) _ _ _); k_dflt (refine' p_sn (s := ⟨_, _, _, _, _⟩) ?F ?N ?e ?hx ?_ ?hs ?hg; (case F => k_asm); (case N => k_asm); (case e => assumption); (case hx => first | assumption | omega); (case hs => with_unfolding_all rfl); (case hg => (intro _; with_unfolding_all rfl)); k_whole); intro _ _ _ _ _))
local macro_rules | `(tactic| walk_at "subscriptTail Name Slice str ref") => `(tactic| (k_here; (with_reducible show wpAny _ _ (subscriptTail _ (Expr.Slice (some _) (some _) none _) _ _) _ _ _); k_dflt (refine' p_ss (s := ⟨_, _, _, _, _⟩) ?F ?N ?e ?hx ?_ ?hs ?hg; (case F => k_asm); (case N => k_asm); (case e => assumption); (case hx => first | assumption | omega); (case hs => with_unfolding_all rfl); (case hg => (intro _; with_unfolding_all rfl)); k_whole); intro _ _ _ _ _))
local macro_rules | `(tactic| walk_at "compareOp In str ref") => `(tactic| (k_here; k_dflt (refine' p_in ?a ?b ?c ?_; (case a => exact News.isTup (by k_asm) (by k_mem)); (case b => ((repeat constructor); done)); (case c => assumption); k_whole)))
local macro_rules | `(tactic| walk_at "call ref") => `(tactic| (k_here; (with_reducible show wpAny _ _ (call (Value.ref 98) _) _ _ _); k_dflt (refine' c_wlE ⟨?kB, ?kF, ?kX, ?kN, ?kT, ?kk, ?kA, ?kh, ?kd, ?ku⟩ ?h1 ?h2 ?_; (case kB => k_asm); (case kF => k_asm); (case kX => k_asm); (case kN => k_asm); (case kT => k_asm); (case kA => exact rfl); (case kk => exact rfl); (case kh => exact rfl); (case kd => ktr_room); (case ku => ktr_units); (case h1 => assumption); (case h2 => assumption); k_whole); intro h' tk' F' N'))
local macro_rules | `(tactic| walk_at "call builtin:len") => `(tactic| (k_here; (with_reducible show wpAny _ _ (call (Value.builtin "len") [Value.str _ _]) _ _ _); k_dflt (first | refine p_len (by assumption) ?_ | refine p_len4 (by assumption) ?_); intro _))
local macro_rules | `(tactic| walk_at "call builtin:str.strip") => `(tactic| (k_here; (with_reducible show wpAny _ _ (call (Value.builtin "str.strip") [Value.str _ _, Value.str _ _]) _ _ _); (refine KXw.stripChars (by assumption) (by rw [sizeLine_eq]; omega) ?_); intro _ _))
local macro_rules | `(tactic| walk_at "call builtin:str.upper") => `(tactic| (k_here; (refine p_upper (by assumption) (by first | assumption | omega) ?_); intro _))
local macro_rules | `(tactic| walk_at "call builtin:str.split") => `(tactic| (k_here; (with_reducible show wpAny _ _ (call (Value.builtin "str.split") [Value.str _ _, Value.str _ _]) _ _ _); k_dflt (refine' p_split ?F ?N ?y ?e ?z ?_; (case F => k_asm); (case N => k_asm); (case y => decide); (case e => assumption); (case z => first | assumption | omega); k_whole); intro D' vs' h' k' hS' F' N' l1; (try k_lt l1)))
local macro_rules | `(tactic| walk_at "truthy str") => `(tactic| (k_here; refine p_truthy (by assumption) ?_))
local macro_rules | `(tactic| walk_at "call type:int") => `(tactic| (k_here; (with_reducible show wpAny _ _ (call (Value.type "int") [Value.str _ _, Value.int 16 _]) _ _ _); refine call_int16 (by assumption) ?_))
local macro_rules | `(tactic| walk_at "call ref") => `(tactic| (k_here; (with_reducible show wpAny _ _ (call (Value.ref 113) _) _ _ _); k_dflt (refine' c_ckE ⟨?kB, ?kF, ?kX, ?kN, ?kT, ?kk, ?kA, ?kh, ?kd, ?ku⟩ ?h1 ?h2 ?_; (case kB => k_asm); (case kF => k_asm); (case kX => k_asm); (case kN => k_asm); (case kT => k_asm); (case kA => exact rfl); (case kk => exact rfl); (case kh => exact rfl); (case kd => ktr_room); (case ku => ktr_units); (case h1 => assumption); (case h2 => assumption); k_whole); intro t' h' tk' F' N'))
local macro_rules | `(tactic| walk_at "compareOp NotEq int int") => `(tactic| (k_here; refine p_ne ?_))
local macro_rules | `(tactic| walk_at "getMethod ref") => `(tactic| (k_here; (with_reducible show wpAny _ _ (getMethod (Value.ref _) (Str.ofString "get") _) _ _ _); k_dflt (refine kdg_method (knd := PySem.strKind _ _) (by k_asm) (by k_mem) (by assumption) ?_)))
local macro_rules | `(tactic| walk_at "call builtin:dict.get") => `(tactic| (k_here; k_dflt (refine p_get (by k_asm) (by k_mem) (by assumption) (by assumption) (by assumption) ?_)))
local macro_rules | `(tactic| walk_at "call ref") => `(tactic| (k_here; (with_reducible show wpAny _ _ (call (Value.ref _) [Value.str _ _, Value.ref _]) _ _ _); (with_reducible rename ClsC _ _ _ _ _ _ _ _ => kcc); k_dflt (refine' kcc _ _ _ _ _ _ _ _ _ _ _ _ _ _ _ _ _ _ _ _ ⟨?kB, ?kF, ?kX, ?kN, ?kT, ?kk, ?kA, ?kh, ?kd, ?ku⟩ ?h1 ?_; (case kB => k_asm); (case kF => k_asm); (case kX => k_asm); (case kN => k_asm); (case kT => k_asm); (case kA => exact rfl); (case kk => exact rfl); (case kh => exact rfl); (case kd => ktr_room); (case ku => ktr_units); (case h1 => assumption); k_whole); intro x' h' tk' led' F' N' E' M'))
local macro_rules | `(tactic| walk_at "m ext2") => `(tactic| first | exact ext_nil | (refine Ext.trans ?_ (by assumption); walk_at "m ext3"))
local macro_rules | `(tactic| walk_at "m ext3") => `(tactic| repeat' (first | exact ext_nil | (refine ext_cons (by first | assumption | (k_dflt exact lt_all (by assumption)) | exact lt_two (by assumption) (by assumption)) ?_) | (refine ext_app (by assumption) ?_)))
set_option maxRecDepth 100000 in
set_option maxHeartbeats 8000000 in
theorem c_parse {x y tl b hp w3 h4 ty rest mk : Str} {ws : List Str} {ck : Int} {cls : Addr} {MM : List (Addr × Obj) → Addr → Prop} {t : Tok} {am : Addr} {o : Obj} {kvs : List (Str × Value)} (C : Cx w mean mg mb A A₀ base h₀ outer cn cs a ccd cl L m ((am, o) :: news) s.heap 40) (hkp : keepIn (hd.heap_39 w.params) (.ref cls) = true) (cc : ClsC w mean mg mb cls mk ws MM) (hdo : o.IsDictOf (PySem.strKind PySem.Challenge.rw_ez0290_01.row.prog w) kvs) (hlo : (am == sysModules) = false) (hgt : (valueAt kvs ty).getD (.ref 218) = .ref cls)
    (e1 : Txt.lstrip x = x) (e2 : (Txt.partition x (Str.ofString "*")).fst = y) (e3 : (Txt.partition x (Str.ofString "*")).snd.fst = (Str.ofString "*")) (e4 : (Txt.partition x (Str.ofString "*")).snd.snd = tl) (e5 : Txt.slice y none (some 1) = (Str.ofString "$")) (e6 : Txt.slice y (some 1) none = b) (e7 : Txt.slice b none (some 1) = hp)
    (e8 : ([Str.ofString "P", Str.ofString "p"].any fun z => z == hp) = true) (e9 : Txt.slice b (some 1) (some 4) = w3) (e10 : w3.length = 3) (e11 : Txt.isalnum (Txt.replace w3 (Str.ofString "_") (Str.ofString "a")) = true) (e12 : tl.length = 2) (e13 : Txt.slice tl none (some 2) = tl) (e14 : Txt.stripChars tl (Str.ofString "0123456789ABCDEFabcdef") = (Str.ofString "")) (e15 : Txt.slice tl (some 2) none = (Str.ofString ""))
    (e16 : Txt.slice b none (some 4) = h4) (e17 : Txt.upper h4 = ty) (e18 : Txt.slice b (some 4) none = rest) (e19 : Txt.split rest (Str.ofString ",") = ws) (e20 : Hex16 tl ck) (e21 : xorFrom b 0 b.cps.size 0 = ck) (e22 : b.cps.all (· < 128) = true)
    (e23 : Txt.slice ty (some 5) none = (Str.ofString "")) (e24 : Txt.slice ty (some 4) (some 6) = (Str.ofString "")) (e25 : ty.length = 4) (e26 : Txt.slice ty (some 1) none = mk) (z1 : x.length ≤ 400) (z2 : y.length ≤ 400) (z3 : b.length ≤ 400) (z4 : h4.length ≤ 400) (z5 : rest.length ≤ 400)
    (ret : RetM h₀ L m ((am, o) :: news) s Q MM) :
    wpAny (model PySem.Challenge.rw_ez0290_01.row.prog w) A (call (.ref 124) [.str x t, .ref am]) Q E s := by
  w_top off
  k_with_none
  obtain ⟨B, F, X, N, T, hk, hA, hh, hdp, hun⟩ := C
  obtain ⟨hd, dp, fr, gd, un⟩ := A
  dsimp only at hA hh hdp hun
  subst hA hh
  revert X; k_fill; intro X
  refine wpAny_call ?_
  k_dflt (refine' code_def (binds := [(Str.ofString "line", .str x t), (Str.ofString "kinds", .ref am), (Str.ofString "check", .bool false)]) ?k1 ?k2 ?k3 ?k4 ?k5 ?kA ?kF ?kK ?k6 ?k7 ?k8 ?k9 ?kB ?_ ?c2 ?c3 ?c4 ?c5; (case kA => exact rfl); (case kF => exact rfl); (case kK => assumption); (case k1 => k_asm); (case k2 => k_asm); (case k3 => k_asm); (case k4 => k_asm); (case k5 => k_asm); (case k6 => k_is); (case k7 => k_is); (case k8 => ktr_room); (case k9 => first | exact BindsTo.of_eq rfl | exact binds_K (by k_in) rfl (by k_is) rfl rfl rfl); (case c5 => decide); (case kB => exact locs rfl); (case c2 => exact rfl); (case c3 => exact rfl); (case c4 => exact rfl); k_whole; intro g' L' h' FG' F' N' B' X' T'; (try dsimp only); (try k_fold))
  k_steps
  all_goals ((with_reducible rename RetM _ _ _ _ _ _ _ => kret); (refine' kret _ _ _ _ ?f ?n ?x ?e; (case f => k_asm); (case n => k_asm); (case x => walk_at "m ext2"); (case e => assumption)))
end Mine
end

section
open PySem PySem.W PySem.Spec PySem.Calls PyProof.Rows Builtin
set_option maxRecDepth 100000
namespace Mine
section
variable {prog : Program} {w : World} {A : Around} {E : Value → Shared → Prop} {s : Shared} {K : Frag} {x C f L fG : Addr} {ox : Obj} {od : Obj} {name : Str} {expr : Bool} {h₀ : Heap} {m : Str → Option Value} {news : List (Addr × Obj)} {es : List DictEntry} {n : Nat}
theorem get_bindH {g a : Value} {Q : Value → Shared → Prop} (X : K.In s.heap) (I : InstAt s.heap x ox C (some od)) (hga : findIn K (.ref C) "__getattribute__" = some (some (.builtin "object.__getattribute__")))
    (hf : findObj K C (some od) name = some (.bind g a)) (hk : findIn K (.ref C) "__getattr__" = some (some (.ref fG)))
    (h : wpAny (model prog w) A.in1 (call g [a, .ref x, .ref C]) (fun v s' => wpAny (model prog w) A (handedOut v) Q E s') (fun _ _ => False) { s with toks := s.toks + 1 }) :
    wpAny (model prog w) A (getAttr (.ref x) name expr) Q E s := by
  refine get_open X I hga ?_
  obtain ⟨hh', gg, d, t, os⟩ := s
  have L0 := I.type (M := model prog w)
  have L1 := looks_find (M := model prog w) X I hf
  have L2 := looks_findIn (M := model prog w) X hk
  refine wpAny_bind (wpAny_pure (wpAny_bind (L0.at (wpAny_bind (L1.at (wpAny_bind (L2.at ?_)))))))
  show wpAny _ _ (Builtin.ObjectAttr.bindOrHook _ _ _ _ _ _) _ _ _
  unfold Builtin.ObjectAttr.bindOrHook
  refine wpAny_bind (wpAny_attempt (wpAny_holding ?_))
  show wpAny _ _ (holding [a] (call g [a, .ref x, .ref C]) >>= ret) _ _ _
  exact wpAny_bind (wpAny_holding (wpAny_mono h (fun v s' z => wpAny_pure (wpAny_pure z)) fun _ _ z => z.elim))
theorem methodH {pl : Sem Bool} {Q : Value × List Value → Shared → Prop} (X : K.In s.heap) (I : InstAt s.heap x ox C (some od)) (hga : findIn K (.ref C) "__getattribute__" = some (some (.builtin "object.__getattribute__")))
    (hk : findIn K (.ref C) "__getattr__" = some (some (.ref fG))) (h : wpAny (model prog w) A (getAttr (.ref x) name) (fun v => Q (v, [])) E s) : wpAny (model prog w) A (getMethod (.ref x) name pl) Q E s := by
  have hcan := PySem.F.canon_object_ga
  have u : wpAny (model prog w) A (do return (← getAttr (.ref x) name, ([] : List Value))) Q E s := wpAny_bind (wpAny_mono h (fun _ _ z => wpAny_pure z) fun _ _ z => z)
  unfold getMethod specialOf
  refine wpAny_bind (wpAny_bind (I.type.here ((looks_findIn X hga).here ?_)))
  dsimp only
  rw [hcan, if_neg (by decide)]
  refine wpAny_bind (wpAny_bind (I.type.here ((looks_findIn X hk).here ?_)))
  exact u
end
structure MethF (w : World) (C : Addr) (name : Str) (f : Addr) : Prop where
  at_ : findIn (hd.heap_39 w.params) (.ref C) name = some (some (.ref f))
  fn : isFn (hd.heap_39 w.params) (.ref f) = true
  get : specialIn (hd.heap_39 w.params) (.ref f) "__get__" = some (some (.builtin "function.__get__"))
  tk : takesIn (hd.heap_39 w.params) (.ref f) = some false
  cp : copiedNames.contains name = false
section
variable {prog : Program} {w : World} {A : Around} {E : Value → Shared → Prop} {s : Shared} {x C f L : Addr} {ox : Obj} {od : Obj} {name : Str} {h₀ : Heap} {m : Str → Option Value} {news : List (Addr × Obj)} {es : List DictEntry} {n : Nat}
theorem hook_method {pl : Sem Bool} {Q : Value × List Value → Shared → Prop} (F : Fr h₀ L s.heap m) (X₀ : (hd.heap_39 w.params).In h₀) (N : News h₀ L s.heap news) (I : InstAt s.heap x ox C (some (dictOf es n))) (GF : GetF w C) (MF : MethF w C name f) (hl : getL name es = some none)
    (h : ∀ q h', Fr h₀ L h' m → News h₀ L h' ((q, methodObj (.ref f) (.ref x)) :: news) → (∀ p ∈ news, p.1 < q) → Q (.ref q, []) { s with heap := h', toks := s.toks + 1 }) :
    wpAny (model prog w) A (getMethod (.ref x) name pl) Q E s := by
  have X := X₀.keeps F.keep
  refine methodH X I GF.ga GF.hook (get_bindH X I GF.ga (findObj_fn GF.dict MF.at_ MF.get MF.tk MF.cp (by show lookIn name (dictOf es n) = _; rw [lookIn_dict, hl])) GF.hook ?_)
  exact wpAny_call (fn_get (s := { s with toks := s.toks + 1 }) X (beq_iff_eq.mp MF.fn) (handed_on rfl (h s.heap.objs.size _ (F.push _) (N.push F _) fun p hp => Heap.lt_size (N p hp).1)))
end
theorem mi_323 {w : World} : MethF w 323 (Str.ofString "identifier") 215 := ⟨by kernel_rfl, by kernel_rfl, by kernel_rfl, by kernel_rfl, by decide +kernel⟩
theorem mr_323 {w : World} : MethF w 323 (Str.ofString "render") 154 := ⟨by kernel_rfl, by kernel_rfl, by kernel_rfl, by kernel_rfl, by decide +kernel⟩
theorem mi_342 {w : World} : MethF w 342 (Str.ofString "identifier") 215 := ⟨by kernel_rfl, by kernel_rfl, by kernel_rfl, by kernel_rfl, by decide +kernel⟩
theorem mr_342 {w : World} : MethF w 342 (Str.ofString "render") 154 := ⟨by kernel_rfl, by kernel_rfl, by kernel_rfl, by kernel_rfl, by decide +kernel⟩
theorem mi_361 {w : World} : MethF w 361 (Str.ofString "identifier") 215 := ⟨by kernel_rfl, by kernel_rfl, by kernel_rfl, by kernel_rfl, by decide +kernel⟩
theorem mr_361 {w : World} : MethF w 361 (Str.ofString "render") 154 := ⟨by kernel_rfl, by kernel_rfl, by kernel_rfl, by kernel_rfl, by decide +kernel⟩
theorem mi_254 {w : World} : MethF w 254 (Str.ofString "identifier") 251 := ⟨by kernel_rfl, by kernel_rfl, by kernel_rfl, by kernel_rfl, by decide +kernel⟩
theorem mr_254 {w : World} : MethF w 254 (Str.ofString "render") 154 := ⟨by kernel_rfl, by kernel_rfl, by kernel_rfl, by kernel_rfl, by decide +kernel⟩
theorem mi_274 {w : World} : MethF w 274 (Str.ofString "identifier") 251 := ⟨by kernel_rfl, by kernel_rfl, by kernel_rfl, by kernel_rfl, by decide +kernel⟩
theorem mr_274 {w : World} : MethF w 274 (Str.ofString "render") 154 := ⟨by kernel_rfl, by kernel_rfl, by kernel_rfl, by kernel_rfl, by decide +kernel⟩
theorem mi_294 {w : World} : MethF w 294 (Str.ofString "identifier") 251 := ⟨by kernel_rfl, by kernel_rfl, by kernel_rfl, by kernel_rfl, by decide +kernel⟩
theorem mr_294 {w : World} : MethF w 294 (Str.ofString "render") 154 := ⟨by kernel_rfl, by kernel_rfl, by kernel_rfl, by kernel_rfl, by decide +kernel⟩
theorem mi_382 {w : World} : MethF w 382 (Str.ofString "identifier") 215 := ⟨by kernel_rfl, by kernel_rfl, by kernel_rfl, by kernel_rfl, by decide +kernel⟩
theorem mr_382 {w : World} : MethF w 382 (Str.ofString "render") 154 := ⟨by kernel_rfl, by kernel_rfl, by kernel_rfl, by kernel_rfl, by decide +kernel⟩
theorem mi_402 {w : World} : MethF w 402 (Str.ofString "identifier") 215 := ⟨by kernel_rfl, by kernel_rfl, by kernel_rfl, by kernel_rfl, by decide +kernel⟩
theorem mr_402 {w : World} : MethF w 402 (Str.ofString "render") 154 := ⟨by kernel_rfl, by kernel_rfl, by kernel_rfl, by kernel_rfl, by decide +kernel⟩
theorem mi_418 {w : World} : MethF w 418 (Str.ofString "identifier") 215 := ⟨by kernel_rfl, by kernel_rfl, by kernel_rfl, by kernel_rfl, by decide +kernel⟩
theorem mr_418 {w : World} : MethF w 418 (Str.ofString "render") 154 := ⟨by kernel_rfl, by kernel_rfl, by kernel_rfl, by kernel_rfl, by decide +kernel⟩
theorem mi_218 {w : World} : MethF w 218 (Str.ofString "identifier") 215 := ⟨by kernel_rfl, by kernel_rfl, by kernel_rfl, by kernel_rfl, by decide +kernel⟩
theorem mr_218 {w : World} : MethF w 218 (Str.ofString "render") 154 := ⟨by kernel_rfl, by kernel_rfl, by kernel_rfl, by kernel_rfl, by decide +kernel⟩
end Mine
end

section
open PySem PySem.W PySem.Spec PySem.Calls PyProof.Rows Builtin
set_option maxRecDepth 100000
namespace Mine
def hexD (n : Nat) : Nat := if n < 10 then 48 + n else 55 + n
def hex2 (n : Nat) : Str := ⟨#[hexD (n / 16), hexD (n % 16)]⟩
theorem hex2_len (n : Nat) : (hex2 n).length = 2 := rfl
def pctX : Str.Percent := { ljust := [48].reverse.contains 45, sign := [48].reverse.contains 43, blank := [48].reverse.contains 32, alt := [48].reverse.contains 35, zero := [48].reverse.contains 48, width := some (0 * 10 + (50 - 48)), «type» := 88 }
def txtX (n : Nat) : List Nat := Str.percentInt pctX false (List.map Char.toNat (Nat.toDigits 16 n))
def okX (n : Nat) : Bool := match Str.percentField pctX true (txtX n) with
  | none => (⟨(txtX n).toArray⟩ : Str) == hex2 n
  | some l => (⟨l.toArray⟩ : Str) == hex2 n
theorem okX_all : ∀ n : Nat, n < 128 → okX n = true := by decide +kernel
section
variable {prog : Program} {w : World} {A : Around} {E : Value → Shared → Prop} {s : Shared} {t u : Tok} {Q : Value → Shared → Prop}
set_option maxHeartbeats 2000000 in
theorem meets_X (n : Nat) (hn : n < 128) : Meets («str.__mod__» ⟨[.str ⟨#[42, 37, 48, 50, 88]⟩ t, .int n u], []⟩) (fun _ R s => ∀ t' k, R (.ok (.ret (.str (Str.ofString "*" ++ hex2 n) t'))) { s with toks := k }) := by
  apply KPc.meets_of
  intro _ _ _ _ _ _ _
  rw [KPc.entry_is]
  unfold Builtin.Str.percentFormat
  refine wpAny_bind (wpAny_isInstance (typeIs_int _ _ _) F.sub_int_tuple ?_)
  refine wpAny_bind (wpAny_of_eq (a := none) rfl ?_)
  refine wpAny_bind (wpAny_of_eq (KPc.fills _ _) ?_)
  kpc_if
  refine wpAny_bind (wpAny_pure ?_)
  refine wpAny_bind ?_
  rw [KPc.range_list]
  refine KPc.start ?_
  intro _ _
  refine KPc.turn ?_; kpc_check; (repeat kpc_if)
  refine wpAny_pure ?_; kpc_piece
  refine KPc.turn ?_; kpc_check; (repeat kpc_if)
  refine wpAny_bind ?_; refine wpAny_holding ?_; (repeat kpc_if)
  refine wpAny_bind (wpAny_of_eq (a := (n : Int)) rfl ?_)
  (repeat kpc_if)
  refine wpAny_bind (wpAny_pure ?_)
  refine wpAny_pure ?_
  have hneg : decide ((n : Int) < 0) = false := decide_eq_false (by omega)
  have hab : ((n : Int)).natAbs = n := Int.natAbs_natCast n
  rw [hneg, hab]
  have hok := okX_all n hn
  unfold okX at hok
  dsimp only
  split
  · rename_i heq
    rw [show Str.percentField pctX true (txtX n) = none from heq] at hok
    refine wpAny_pure ?_
    refine KPc.after_add (by kpc_g) (y := hex2 n) (eq_of_beq hok) (by kpc_obj) ?_
    intro w' g'
    replace g' := KPc.good_mono (K := 3) g' (by rw [hex2_len]; decide +kernel)
    refine KPc.turn ?_; kpc_check; (repeat kpc_if)
    kpc_close
  · rename_i l heq
    rw [show Str.percentField pctX true (txtX n) = some l from heq] at hok
    refine wpAny_pure ?_
    refine KPc.after_add (by kpc_g) (y := hex2 n) (eq_of_beq hok) (by kpc_obj) ?_
    intro w' g'
    replace g' := KPc.good_mono (K := 3) g' (by rw [hex2_len]; decide +kernel)
    refine KPc.turn ?_; kpc_check; (repeat kpc_if)
    kpc_close
theorem mod_X {n : Nat} (hn : n < 128) (h : ∀ t' k, Q (.str (Str.ofString "*" ++ hex2 n) t') { s with toks := k }) : wpAny (model prog w) A (binaryOp .Mod (.str (Str.ofString "*%02X") t) (.int n u)) Q E s :=
  KPc.mod_lit (X' := ⟨#[42, 37, 48, 50, 88]⟩) (by decide +kernel) (shown (N := 2 ^ 1920) (by omega) (by omega) (Int.le_refl _)) (fun _ _ => meets_X n hn) h
end
end Mine
end

section
open PySem PySem.W PySem.W.X PySem.Spec PySem.Calls PyProof.Rows
namespace Mine
local macro_rules | `(tactic| k_room) => `(tactic| ktr_room)
local macro_rules | `(tactic| units_room) => `(tactic| ktr_units)
local macro_rules | `(tactic| k_units) => `(tactic| ktr_units)
local macro_rules | `(tactic| walk_at "call builtin:len") => `(tactic| (k_here; (with_reducible show wpAny _ _ (call (Value.builtin "len") [Value.ref _]) _ _ _); k_dflt (refine' len_txt ?k1 ?k2 ?k3 ?_; (case k1 => first | is_list | exact News.isList (by k_asm) (by k_mem)); (case k2 => with_reducible assumption); (case k3 => omega); k_whole)))
local macro_rules | `(tactic| walk_at "subscriptTail") => `(tactic| (k_here; (with_reducible show wpAny _ _ (subscriptTail _ _ (Value.ref _) (Value.int _ _)) _ _ _); (with_unfolding_all refine' item_txt ?k1 ?k2 ?k3 ?k4 ?k5 ?_ ?k6 ?k7; (case k1 => first | is_list | exact News.isList (by k_asm) (by k_mem)); (case k2 => with_reducible assumption); (case k3 => omega); (case k4 => first | decide | omega); (case k5 => omega); (case k6 => with_unfolding_all rfl); (case k7 => intro _; with_unfolding_all rfl); k_whole); intro _))
variable {w : World} {mean : ExcName → Option Value} {mg mb : Str → Option Value} {A A₀ : Around} {cn : Str} {cs : Scope} {a : Addr} {ccd : Value} {cl : List (Str × Addr)} {outer : List Env} {base h₀ : Heap} {L : Addr} {m : Str → Option Value} {news : List (Addr × Obj)} {s : Shared} {Q E : Value → Shared → Prop}
theorem p_add {prog : Program} {w : World} {A : Around} {E : Value → Shared → Prop} {s : Shared} {x y z : Str} {t u : Tok} {Q : Value → Shared → Prop} (e : x ++ y = z) (hz : z.length ≤ 1000) (h : ∀ t' k, Q (.str z t') { s with toks := k }) : wpAny (model prog w) A (binaryOp .Add (.str x t) (.str y u)) Q E s :=
  KOpn.add (by rw [← PySem.Str.length_append, e]; omega) fun t' k _ => by rw [e]; exact h t' k
theorem p_iadd {prog : Program} {w : World} {A : Around} {E : Value → Shared → Prop} {s : Shared} {x y z : Str} {t u : Tok} {Q : Value → Shared → Prop} (e : x ++ y = z) (hz : z.length ≤ 1000) (h : ∀ t' k, Q (.str z t') { s with toks := k }) : wpAny (model prog w) A (inplaceOp .Add (.str x t) (.str y u)) Q E s :=
  SBL.iadd (hsz := by rw [sizeLine_eq, ← PySem.Str.length_append, e]; omega) fun t' k _ => by rw [e]; exact h t' k
theorem p_join {prog : Program} {w : World} {A : Around} {E : Value → Shared → Prop} {s : Shared} {x jn : Str} {t : Tok} {Q : Value → Shared → Prop} {D : Addr} {vs : List Value} {ys : List Str} (hl : s.heap.IsList D vs.toArray) (hi : StrsAre vs ys) (hsep : x.length ≤ 16) (hw : (ys.map (·.length)).sum + ys.length ≤ 1000) (e : Txt.join x ys = jn)
    (h : ∀ t' k, Q (.str jn t') { s with toks := k }) : wpAny (model prog w) A (call (.builtin "str.join") [.str x t, .ref D]) Q E s :=
  join_listW hl hi hsep (by omega) (by rw [e]; exact h)
local macro_rules | `(tactic| walk_at "getMethod ref") => `(tactic| (k_here; k_dflt (refine' hook_method ?F ?X ?N ?I ?gf ?mf ?hl ?_; (case F => k_asm); (case X => k_asm); (case N => k_asm); (case I => k_inst); (case gf => assumption); (case mf => assumption); (case hl => assumption)); k_whole; intro q' h' F' N' l1; (try k_lt l1)))
local macro_rules | `(tactic| walk_at "getAttr ref") => `(tactic| (k_here; k_dflt (refine' get_own2 ?k1 ?k2 ?k3 ?k4 ?k5 ?k6 ?k7 ?k8 ?_; (case k1 => k_asm); (case k2 => k_asm); (case k3 => k_inst); (case k4 => exact GetF.ga (by assumption)); (case k5 => exact GetF.dict (by assumption)); (case k6 => first | exact GetF.m3 (by assumption) | exact GetF.m1 (by assumption) | exact GetF.m2 (by assumption)); (case k7 => assumption); (case k8 => k_handed)); k_whole))
local macro_rules | `(tactic| walk_at "binaryOp Add str str") => `(tactic| first | ((refine p_add (by assumption) (by first | assumption | omega) ?_); intro _ _) | (refine KOpn.add ?sz ?_; (case sz => first | omega | (simp only [PySem.Str.length_append]; omega)); intro _ _ _))
local macro_rules | `(tactic| walk_at "inplaceOp Add str str") => `(tactic| ((refine p_iadd (by assumption) (by first | assumption | omega) ?_); intro _ _))
local macro_rules | `(tactic| walk_at "call builtin:str.join") => `(tactic| (k_here; k_dflt (refine p_join (News.isList (by k_asm) (by k_mem)) (by assumption) (by decide) (by assumption) (by assumption) ?_); intro _ _))
local macro_rules | `(tactic| walk_at "call ref") => `(tactic| (k_here; (with_reducible show wpAny _ _ (call (Value.ref 113) _) _ _ _); k_dflt (refine' c_ckE ⟨?kB, ?kF, ?kX, ?kN, ?kT, ?kk, ?kA, ?kh, ?kd, ?ku⟩ ?h1 ?h2 ?_; (case kF => k_asm); (case kB => k_asm); (case kX => k_asm); (case kN => k_asm); (case kT => k_asm); (case kA => exact rfl); (case kk => exact rfl); (case kh => exact rfl); (case kd => ktr_room); (case ku => ktr_units); (case h1 => assumption); (case h2 => assumption); k_whole); intro t' h' tk' F' N'))
local macro_rules | `(tactic| walk_at "binaryOp Mod str int") => `(tactic| (k_here; (refine mod_X (by assumption) ?_); intro _ _))
set_option maxRecDepth 100000 in
set_option maxHeartbeats 8000000 in
theorem c_render215 {es : List DictEntry} {x dx l Kl : Addr} {vs : List Value} {n nd : Nat} {ws : List Str} {mk out b jn r2 : Str} {t2 : Tok} {ck : Nat} (C : Cx w mean mg mb A A₀ base h₀ outer cn cs a ccd cl L m ((x, instObj Kl dx) :: (dx, dictOf es nd) :: (l, listOf vs.toArray n) :: news) s.heap 40) (GF : GetF w Kl) (MI : MethF w Kl (Str.ofString "identifier") 215) (hS : StrsAre vs ws) (hb : ws.length ≤ 10) (hD : getL (Str.ofString "data") es = some (some (.ref l))) (hM : getL (Str.ofString "manufacturer") es = some (some (.str mk t2))) (hI : getL (Str.ofString "identifier") es = some none) (hk5 : mk.length ≤ 5) (hj : Txt.join (Str.ofString ",") ws = jn) (hjw : (ws.map (·.length)).sum + ws.length ≤ 1000) (hjl : jn.length ≤ 300) (e1 : Str.ofString "P" ++ mk ++ jn = b) (hbl : b.length ≤ 400) (hck : ck < 128) (e2 : b.cps.all (· < 128) = true) (e3 : xorFrom b 0 b.cps.size 0 = (ck : Int)) (e4 : b ++ (Str.ofString "*" ++ hex2 ck) = r2) (e5 : Str.ofString "$" ++ r2 = out) (hr2 : r2.length ≤ 410) (hout : out.length ≤ 420)
    (ret : RetV h₀ L m ((x, instObj Kl dx) :: (dx, dictOf es nd) :: (l, listOf vs.toArray n) :: news) s Q (.str out)) :
    codeAny (model PySem.Challenge.rw_ez0290_01.row.prog w) A (.call (.ref 154) ⟨[.ref x, .bool true, .bool true, .bool false], []⟩) (fun r s' => match r with | .ok (.ret v) => Q v s' | .ok _ => False | .error e => E e s') s := by
  w_top off
  k_with_none
  obtain ⟨B, F, X, N, T, hk, hA, hh, hdp, hun⟩ := C
  obtain ⟨hd, dp, fr, gd, un⟩ := A
  dsimp only at hA hh hdp hun
  subst hA hh
  revert X; k_fill; intro X
  k_dflt (refine' code_def (binds := [(Str.ofString "self", .ref x), (Str.ofString "checksum", .bool true), (Str.ofString "dollar", .bool true), (Str.ofString "newline", .bool false)]) ?k1 ?k2 ?k3 ?k4 ?k5 ?kA ?kF ?kK ?k6 ?k7 ?k8 ?k9 ?kB ?_ ?c2 ?c3 ?c4 ?c5; (case kA => exact rfl); (case kF => exact rfl); (case kK => assumption); (case k1 => k_asm); (case k2 => k_asm); (case k3 => k_asm); (case k4 => k_asm); (case k5 => k_asm); (case k6 => k_is); (case k7 => k_is); (case k8 => ktr_room); (case k9 => first | exact BindsTo.of_eq rfl | exact binds_K (by k_in) rfl (by k_is) rfl rfl rfl); (case c5 => decide); (case kB => exact locs rfl); (case c2 => exact rfl); (case c3 => exact rfl); (case c4 => exact rfl); k_whole; intro g' L' h' FG' F' N' B' X' T'; (try dsimp only); (try k_fold))
  k_steps
  all_goals ((with_reducible rename RetV _ _ _ _ _ _ _ => kret); (refine' kret _ _ _ ?zf ?zn ?ze; (case zf => k_asm); (case zn => exact news_1 (by k_asm)); (case ze => exact .str _ _)))
end Mine
end

section
open PySem PySem.W PySem.W.X PySem.Spec PySem.Calls PyProof.Rows
namespace Mine
local macro_rules | `(tactic| walk_at "no such key") => `(tactic| fail "none")
local macro_rules | `(tactic| k_room) => `(tactic| ktr_room)
local macro_rules | `(tactic| units_room) => `(tactic| ktr_units)
local macro_rules | `(tactic| k_units) => `(tactic| ktr_units)
local macro_rules | `(tactic| walk_at "call builtin:len") => `(tactic| (k_here; (with_reducible show wpAny _ _ (call (Value.builtin "len") [Value.ref _]) _ _ _); k_dflt (refine' len_txt ?k1 ?k2 ?k3 ?_; (case k1 => first | is_list | exact News.isList (by k_asm) (by k_mem)); (case k2 => with_reducible assumption); (case k3 => omega); k_whole)))
local macro_rules | `(tactic| walk_at "subscriptTail") => `(tactic| (k_here; (with_reducible show wpAny _ _ (subscriptTail _ _ (Value.ref _) (Value.int _ _)) _ _ _); (with_unfolding_all refine' item_txt ?k1 ?k2 ?k3 ?k4 ?k5 ?_ ?k6 ?k7; (case k1 => first | is_list | exact News.isList (by k_asm) (by k_mem)); (case k2 => with_reducible assumption); (case k3 => omega); (case k4 => first | decide | omega); (case k5 => omega); (case k6 => with_unfolding_all rfl); (case k7 => intro _; with_unfolding_all rfl); k_whole); intro _))
variable {w : World} {mean : ExcName → Option Value} {mg mb : Str → Option Value} {A A₀ : Around} {cn : Str} {cs : Scope} {a : Addr} {ccd : Value} {cl : List (Str × Addr)} {outer : List Env} {base h₀ : Heap} {L : Addr} {m : Str → Option Value} {news : List (Addr × Obj)} {s : Shared} {Q E : Value → Shared → Prop}
local macro_rules | `(tactic| walk_at "getMethod ref") => `(tactic| (k_here; k_dflt (refine' hook_method ?F ?X ?N ?I ?gf ?mf ?hl ?_; (case F => k_asm); (case X => k_asm); (case N => k_asm); (case I => k_inst); (case gf => assumption); (case mf => assumption); (case hl => assumption)); k_whole; intro q' h' F' N' l1; (try k_lt l1)))
local macro_rules | `(tactic| walk_at "getAttr ref") => `(tactic| (k_here; k_dflt (refine' get_own2 ?k1 ?k2 ?k3 ?k4 ?k5 ?k6 ?k7 ?k8 ?_; (case k1 => k_asm); (case k2 => k_asm); (case k3 => k_inst); (case k4 => exact GetF.ga (by assumption)); (case k5 => exact GetF.dict (by assumption)); (case k6 => first | exact GetF.m3 (by assumption) | exact GetF.m1 (by assumption) | exact GetF.m2 (by assumption)); (case k7 => assumption); (case k8 => k_handed)); k_whole))
local macro_rules | `(tactic| walk_at "binaryOp Add str str") => `(tactic| first | ((refine p_add (by assumption) (by first | assumption | omega) ?_); intro _ _) | (refine KOpn.add ?sz ?_; (case sz => first | omega | (simp only [PySem.Str.length_append]; omega)); intro _ _ _))
local macro_rules | `(tactic| walk_at "inplaceOp Add str str") => `(tactic| ((refine p_iadd (by assumption) (by first | assumption | omega) ?_); intro _ _))
local macro_rules | `(tactic| walk_at "call builtin:str.join") => `(tactic| (k_here; k_dflt (refine p_join (News.isList (by k_asm) (by k_mem)) (by assumption) (by decide) (by assumption) (by assumption) ?_); intro _ _))
local macro_rules | `(tactic| walk_at "call ref") => `(tactic| (k_here; (with_reducible show wpAny _ _ (call (Value.ref 113) _) _ _ _); k_dflt (refine' c_ckE ⟨?kB, ?kF, ?kX, ?kN, ?kT, ?kk, ?kA, ?kh, ?kd, ?ku⟩ ?h1 ?h2 ?_; (case kF => k_asm); (case kB => k_asm); (case kX => k_asm); (case kN => k_asm); (case kT => k_asm); (case kA => exact rfl); (case kk => exact rfl); (case kh => exact rfl); (case kd => ktr_room); (case ku => ktr_units); (case h1 => assumption); (case h2 => assumption); k_whole); intro t' h' tk' F' N'))
local macro_rules | `(tactic| walk_at "binaryOp Mod str int") => `(tactic| (k_here; (refine mod_X (by assumption) ?_); intro _ _))
set_option maxRecDepth 100000 in
set_option maxHeartbeats 8000000 in
theorem c_render251 {es : List DictEntry} {x dx l Kl : Addr} {vs : List Value} {n nd : Nat} {ws : List Str} {mk out b jn r2 : Str} {t2 : Tok} {ck : Nat} (C : Cx w mean mg mb A A₀ base h₀ outer cn cs a ccd cl L m ((x, instObj Kl dx) :: (dx, dictOf es nd) :: (l, listOf vs.toArray n) :: news) s.heap 40) (GF : GetF w Kl) (MI : MethF w Kl (Str.ofString "identifier") 251) (hS : StrsAre vs ws) (hb : ws.length ≤ 10) (hD : getL (Str.ofString "data") es = some (some (.ref l))) (hM : getL (Str.ofString "sentence_type") es = some (some (.str mk t2))) (hI : getL (Str.ofString "identifier") es = some none) (hk5 : mk.length ≤ 15) (hj : Txt.join (Str.ofString ",") ws = jn) (hjw : (ws.map (·.length)).sum + ws.length ≤ 1000) (hjl : jn.length ≤ 300) (e1 : Str.ofString "P" ++ mk ++ Str.ofString "," ++ jn = b) (hbl : b.length ≤ 400) (hck : ck < 128) (e2 : b.cps.all (· < 128) = true) (e3 : xorFrom b 0 b.cps.size 0 = (ck : Int)) (e4 : b ++ (Str.ofString "*" ++ hex2 ck) = r2) (e5 : Str.ofString "$" ++ r2 = out) (hr2 : r2.length ≤ 410) (hout : out.length ≤ 420)
    (ret : RetV h₀ L m ((x, instObj Kl dx) :: (dx, dictOf es nd) :: (l, listOf vs.toArray n) :: news) s Q (.str out)) :
    codeAny (model PySem.Challenge.rw_ez0290_01.row.prog w) A (.call (.ref 154) ⟨[.ref x, .bool true, .bool true, .bool false], []⟩) (fun r s' => match r with | .ok (.ret v) => Q v s' | .ok _ => False | .error e => E e s') s := by
  w_top off
  k_with_none
  obtain ⟨B, F, X, N, T, hk, hA, hh, hdp, hun⟩ := C
  obtain ⟨hd, dp, fr, gd, un⟩ := A
  dsimp only at hA hh hdp hun
  subst hA hh
  revert X; k_fill; intro X
  k_dflt (refine' code_def (binds := [(Str.ofString "self", .ref x), (Str.ofString "checksum", .bool true), (Str.ofString "dollar", .bool true), (Str.ofString "newline", .bool false)]) ?k1 ?k2 ?k3 ?k4 ?k5 ?kA ?kF ?kK ?k6 ?k7 ?k8 ?k9 ?kB ?_ ?c2 ?c3 ?c4 ?c5; (case kA => exact rfl); (case kF => exact rfl); (case kK => assumption); (case k1 => k_asm); (case k2 => k_asm); (case k3 => k_asm); (case k4 => k_asm); (case k5 => k_asm); (case k6 => k_is); (case k7 => k_is); (case k8 => ktr_room); (case k9 => first | exact BindsTo.of_eq rfl | exact binds_K (by k_in) rfl (by k_is) rfl rfl rfl); (case c5 => decide); (case kB => exact locs rfl); (case c2 => exact rfl); (case c3 => exact rfl); (case c4 => exact rfl); k_whole; intro g' L' h' FG' F' N' B' X' T'; (try dsimp only); (try k_fold))
  k_steps
  all_goals ((with_reducible rename RetV _ _ _ _ _ _ _ => kret); (refine' kret _ _ _ ?zf ?zn ?ze; (case zf => k_asm); (case zn => exact news_1 (by k_asm)); (case ze => exact .str _ _)))
end Mine
end

section
open PySem PySem.W PySem.Spec PySem.Calls PyProof.Rows
open Sem (wp)
set_option maxRecDepth 100000
namespace Mine
/-- the law's two lists, apart from the rest of the ledger -/
structure St (h₀ : Heap) (L : Addr) (m : Str → Option Value) (tA dA : Addr) (tvs dvs : List Value) (tn dn : Nat) (D : List (Addr × Obj)) (h : Heap) : Prop where
  F : Fr h₀ L h m
  N : News h₀ L h ((tA, listOf tvs.toArray tn) :: (dA, listOf dvs.toArray dn) :: D)
  td : dA ≠ tA
  ot : ∀ p ∈ D, p.1 ≠ tA
  od : ∀ p ∈ D, p.1 ≠ dA
section
variable {prog : Program} {w : World} {A : Around} {E : Value → Shared → Prop} {s : Shared} {h₀ h h' : Heap} {L tA dA : Addr} {m m' : Str → Option Value} {tvs dvs : List Value} {tn dn : Nat} {D tl : List (Addr × Obj)} {v : Value} {Q : Value → Shared → Prop}
theorem St.grow (S : St h₀ L m tA dA tvs dvs tn dn D h) (F' : Fr h₀ L h' m') (N' : News h₀ L h' (tl ++ (tA, listOf tvs.toArray tn) :: (dA, listOf dvs.toArray dn) :: D))
    (off : ∀ q ∈ (tA, listOf tvs.toArray tn) :: (dA, listOf dvs.toArray dn) :: D, ∀ p ∈ tl, p.1 ≠ q.1) : St h₀ L m' tA dA tvs dvs tn dn (tl ++ D) h' := by
  refine ⟨F', fun p hp => N' p ?_, S.td, fun p hp => ?_, fun p hp => ?_⟩
  · rcases List.mem_cons.mp hp with rfl | hp
    · exact List.mem_append_right _ (.head _)
    · rcases List.mem_cons.mp hp with rfl | hp
      · exact List.mem_append_right _ (.tail _ (.head _))
      · rcases List.mem_append.mp hp with hp | hp
        · exact List.mem_append_left _ hp
        · exact List.mem_append_right _ (.tail _ (.tail _ hp))
  · rcases List.mem_append.mp hp with hp | hp
    · exact off _ (.head _) p hp
    · exact S.ot p hp
  · rcases List.mem_append.mp hp with hp | hp
    · exact off _ (.tail _ (.head _)) p hp
    · exact S.od p hp
theorem St.same (S : St h₀ L m tA dA tvs dvs tn dn D h) (F' : Fr h₀ L h' m') (N' : News h₀ L h' ((tA, listOf tvs.toArray tn) :: (dA, listOf dvs.toArray dn) :: D)) : St h₀ L m' tA dA tvs dvs tn dn D h' := ⟨F', N', S.td, S.ot, S.od⟩
theorem app_told (S : St h₀ L m tA dA tvs dvs tn dn D s.heap) (hsz : tvs.length ≤ 1000) (hq : ∀ h', St h₀ L m tA dA (tvs ++ [v]) dvs (tn + 1) dn D h' → Q .none { s with heap := h' }) :
    wpAny (model prog w) A (call (.builtin "list.append") [.ref tA, v]) Q E s := by
  refine append_K S.F S.N (.head fun p hp => ?_) (fun h' F' N' => hq h' ⟨F', ?_, S.td, S.ot, S.od⟩) (by rw [sizeLine_eq]; simp; omega)
  · rcases List.mem_cons.mp hp with rfl | hp
    · exact S.td
    · exact S.ot p hp
  · have e : tvs.toArray.push v = (tvs ++ [v]).toArray := by simp
    rw [← e]; exact N'
theorem app_due (S : St h₀ L m tA dA tvs dvs tn dn D s.heap) (hsz : dvs.length ≤ 1000) (hq : ∀ h', St h₀ L m tA dA tvs (dvs ++ [v]) tn (dn + 1) D h' → Q .none { s with heap := h' }) :
    wpAny (model prog w) A (call (.builtin "list.append") [.ref dA, v]) Q E s := by
  refine append_K S.F S.N (.tail (Ne.symm S.td) (.head fun p hp => S.od p hp)) (fun h' F' N' => hq h' ⟨F', ?_, S.td, S.ot, S.od⟩) (by rw [sizeLine_eq]; simp; omega)
  have e : dvs.toArray.push v = (dvs ++ [v]).toArray := by simp
  rw [← e]; exact N'
end
section
variable {prog : Program} {w : World} {A : Around} {E : Value → Shared → Prop} {s : Shared} {h₀ : Heap} {L a : Addr} {m : Str → Option Value} {cn : Str} {cs : Scope} {ccd : Value} {cl : List (Str × Addr)} {news : List (Addr × Obj)} {o : Obj}
/-- a list's append as a statement, its argument walked in the own logic -/
theorem wpC_append {lA : Addr} {items : Array Value} {n : Nat} {x : Str} {e : PySem.Expr} {p1 p2 p3 p4 : Pos} {Q : Flow → Shared → Prop} (F : Fr h₀ L s.heap m) (N : News h₀ L s.heap news) (hl : (lA, listOf items n) ∈ news) (hv : m x = some (.ref lA))
    (h : wpC (model prog w) A (eval e (envX cn cs L a ccd cl)) (fun v s' => wpC (model prog w) A (call (.builtin "list.append") [.ref lA, v]) (fun v' s'' => match v' with | .ref _ => False | _ => Q .next s'') E s') E s)
    (hk : cs.kind = .function) (hx : (envX cn cs L a ccd cl).kindOf x = some .local) (hd : (x == ("__debug__" : Str)) = false)
    (hi : interactive (envX cn cs L a ccd cl) = false) (hs : swapsWith (.Call (.Attribute (.Name x p1) (Str.ofString "append") p2) [e] [] p3) none p4.line (envX cn cs L a ccd cl) = pure false)
    (he : eval (.Call (.Attribute (.Name x p1) (Str.ofString "append") p2) [e] [] p3) (envX cn cs L a ccd cl) = (do
      let ov ← eval (.Name x p1) (envX cn cs L a ccd cl)
      standAt p2.atName
      let (f, first) ← holding [ov] (getMethod ov (Str.ofString "append") (do return (← importBound (.Name x p1) (envX cn cs L a ccd cl)).getD true))
      callWith p3 f first (backTo p3 (starEach [e] (envX cn cs L a ccd cl))) []))
    (hst : starEach [e] (envX cn cs L a ccd cl) = (false, eval e (envX cn cs L a ccd cl)) :: starEach [] (envX cn cs L a ccd cl)) :
    wpC (model prog w) A (exec (.Expr (.Call (.Attribute (.Name x p1) (Str.ofString "append") p2) [e] [] p3) p4) (envX cn cs L a ccd cl)) Q E s := by
  refine wpC_Expr (wpC_MethodCall ?_ he) hi hs
  refine wpC_of (nameX_L F hv ?_ hk hx hd)
  refine wpC_of (listMethod_K N hl PySem.F.slot_list_append PySem.F.type_list_append ?_)
  refine wpC_callB ?_ hst rfl
  refine wpC_args_cons ?_ hst
  refine wpC_mono h (fun v s' h' => wpC_args_nil h') fun _ _ z => z
end
end Mine
end

section
open PySem PySem.W PySem.W.X PySem.Spec PySem.Calls PyProof.Rows
namespace Mine
local macro_rules | `(tactic| k_room) => `(tactic| ktr_room)
local macro_rules | `(tactic| units_room) => `(tactic| ktr_units)
local macro_rules | `(tactic| k_units) => `(tactic| ktr_units)
local macro_rules | `(tactic| walk_at "call builtin:len") => `(tactic| (k_here; (with_reducible show wpAny _ _ (call (Value.builtin "len") [Value.ref _]) _ _ _); k_dflt (refine' len_txt ?k1 ?k2 ?k3 ?_; (case k1 => first | is_list | exact News.isList (by k_asm) (by k_mem)); (case k2 => with_reducible assumption); (case k3 => omega); k_whole)))
local macro_rules | `(tactic| walk_at "subscriptTail") => `(tactic| (k_here; (with_reducible show wpAny _ _ (subscriptTail _ _ (Value.ref _) (Value.int _ _)) _ _ _); (with_unfolding_all refine' item_txt ?k1 ?k2 ?k3 ?k4 ?k5 ?_ ?k6 ?k7; (case k1 => first | is_list | exact News.isList (by k_asm) (by k_mem)); (case k2 => with_reducible assumption); (case k3 => omega); (case k4 => first | decide | omega); (case k5 => omega); (case k6 => with_unfolding_all rfl); (case k7 => intro _; with_unfolding_all rfl); k_whole); intro _))
variable {w : World} {mean : ExcName → Option Value} {mg mb : Str → Option Value} {A A₀ : Around} {cn : Str} {cs : Scope} {a : Addr} {ccd : Value} {cl : List (Str × Addr)} {outer : List Env} {base h₀ : Heap} {L : Addr} {m : Str → Option Value} {news : List (Addr × Obj)} {s : Shared} {Q E : Value → Shared → Prop}
local macro_rules | `(tactic| walk_at "m mem") => `(tactic| first | exact List.mem_cons_self | (refine List.mem_cons_of_mem _ ?_; walk_at "m mem") | (refine List.mem_append_right _ ?_; walk_at "m mem") | assumption)
local macro_rules | `(tactic| walk_at "m gf") => `(tactic| first | exact gf_342 | exact gf_361 | exact gf_323 | exact gf_274 | exact gf_294 | exact gf_254 | exact gf_402 | exact gf_418 | exact gf_382 | exact gf_218)
local macro_rules | `(tactic| walk_at "getAttr ref") => `(tactic| (k_here; k_dflt (refine' get_own2 ?k1 ?k2 ?k3 ?k4 ?k5 ?k6 ?k7 ?k8 ?_; (case k1 => k_asm); (case k2 => k_asm); (case k3 => k_inst); (case k4 => apply GetF.ga; walk_at "m gf"); (case k5 => apply GetF.dict; walk_at "m gf"); (case k6 => first | (apply GetF.m3; walk_at "m gf") | (apply GetF.m1; walk_at "m gf") | (apply GetF.m2; walk_at "m gf")); (case k7 => k_get); (case k8 => k_handed)); k_whole))
local macro_rules | `(tactic| walk_at "m ext") => `(tactic| repeat' (first | exact ext_nil | (refine ext_cons (by first | assumption | (k_dflt exact lt_all (by assumption)) | exact lt_two (by assumption) (by assumption)) ?_) | (refine ext_app (by assumption) ?_)))
local macro_rules | `(tactic| walk_at "m hf") => `(tactic| first | exact hf_342 | exact hf_361 | exact hf_323 | exact hf_274 | exact hf_294 | exact hf_254 | exact hf_402 | exact hf_418 | exact hf_382 | exact hf_218)
local macro_rules | `(tactic| walk_at "call builtin:isinstance") => `(tactic| (k_here; (with_reducible show wpAny _ _ (call _ [Value.ref _, Value.ref _]) _ _ _); k_dflt (first
  | (refine' hk_tup ?c ?Z ?X ?p ?ee ?_; (case c => k_inst); (case X => k_in); (case Z => walk_at "m hf"); (case p => kit_tp); (case ee => kit_is); k_whole; intro _)
  | (refine' hk_one ?c ?Z ?X ?ee ?_; (case c => k_inst); (case X => k_in); (case Z => walk_at "m hf"); (case ee => kit_is); k_whole; intro _))))
local macro_rules | `(tactic| walk_at "m sub") => `(tactic| (intro p' hp'; repeat' (first | exact hp' | exact List.mem_append_left _ hp' | exact List.mem_cons_of_mem _ hp' | refine List.mem_cons_of_mem _ ?_ | refine List.mem_append_right _ ?_)))
local macro_rules | `(tactic| walk_at "m rd") => `(tactic| first | exact RdIn.str _ _ | exact RdIn.none | exact RdIn.bool _ | exact RdIn.int _ _ | (refine' RdIn.mono ?ms (by assumption); (case ms => walk_at "m sub")) | exact rd_listOf (by walk_at "m mem") RdAll.nil | (refine' rd_txt ?mm ?ma; (case mm => walk_at "m mem"); (case ma => assumption)))
local macro_rules | `(tactic| walk_at "m rds") => `(tactic| first | exact RdAll.nil | (refine' RdAll.cons ?m1 ?m2; (case m1 => walk_at "m rd"); (case m2 => walk_at "m rds")))
local macro_rules | `(tactic| walk_at "m end") => `(tactic| ((with_reducible rename RetK _ _ _ _ _ _ _ _ => kret); (with_reducible rename News _ _ _ _ => kN'); (with_reducible rename (_ = Dat.list _) => ke'); exact ret_extK kret (by k_asm) kN' (by walk_at "m extk") (rd_listOf (by walk_at "m mem") (by walk_at "m rds")) ke'))
local macro_rules | `(tactic| walk_at "m extk") => `(tactic| first | exact extk_nil | (apply extk_cons; (first | assumption | (k_dflt exact lt_all (by assumption)) | exact lt_two (by assumption) (by assumption)); walk_at "m extk") | (apply extk_app; assumption; walk_at "m extk"))
local macro_rules | `(tactic| walk_at "newList") => `(tactic| (k_here; k_dflt (refine' newList_K ?k1 ?k2 ?_; (case k1 => k_asm); (case k2 => k_asm); k_whole); intro l' h' F' N' l1; (try k_sweep)))
local macro_rules | `(tactic| walk_at "m idx") => `(tactic| first | exact at_0 | exact at_1 | exact at_2 | exact at_3 | exact at_4 | exact at_5 | exact at_6)
local macro_rules | `(tactic| walk_at "m cf") => `(tactic| first | exact cf_342 | exact cf_361 | exact cf_402 | exact cf_418 | exact cf_294)
local macro_rules | `(tactic| walk_at "m fa") => `(tactic| first | exact fa_342 | exact fa_361 | exact fa_402 | exact fa_418 | exact fa_294)
local macro_rules | `(tactic| walk_at "m fj") => `(tactic| first | exact fj_342 | exact fj_361 | exact fj_402 | exact fj_418 | exact fj_294)
set_option maxRecDepth 100000 in
set_option maxHeartbeats 8000000 in
theorem c_readSRF {x dx l : Addr} {k1 k2 k3 t1 t2 : Tok} {st mk : Str} {nd n : Nat} {vs : List Value} {ws : List Str} {dd : Dat} (C : Cx w mean mg mb A A₀ base h₀ outer cn cs a ccd cl L m ((x, instObj 323 dx) :: (dx, dictOf [⟨PyData.keyHash w.params (Str.ofString "sentence_type"), .str (Str.ofString "sentence_type") k1, .str st t1⟩, ⟨PyData.keyHash w.params (Str.ofString "manufacturer"), .str (Str.ofString "manufacturer") k2, .str mk t2⟩, ⟨PyData.keyHash w.params (Str.ofString "data"), .str (Str.ofString "data") k3, .ref l⟩] nd) :: (l, listOf vs.toArray n) :: news) s.heap 20) (hS : StrsAre vs ws) (hb : ws.length ≤ 10) (he : dd = .list [txtD "SRF", .str mk, .str st, lstD ws, .list []])
    (ret : RetK h₀ L m ((x, instObj 323 dx) :: (dx, dictOf [⟨PyData.keyHash w.params (Str.ofString "sentence_type"), .str (Str.ofString "sentence_type") k1, .str st t1⟩, ⟨PyData.keyHash w.params (Str.ofString "manufacturer"), .str (Str.ofString "manufacturer") k2, .str mk t2⟩, ⟨PyData.keyHash w.params (Str.ofString "data"), .str (Str.ofString "data") k3, .ref l⟩] nd) :: (l, listOf vs.toArray n) :: news) ([(l, listOf vs.toArray n)]) s Q dd) :
    wpAny (model PySem.Challenge.rw_ez0290_01.row.prog w) A (call (.ref 521) [.ref x]) Q E s := by
  w_top off
  k_with_none
  obtain ⟨B, F, X, N, T, hk, hA, hh, hdp, hun⟩ := C
  obtain ⟨hd, dp, fr, gd, un⟩ := A
  dsimp only at hA hh hdp hun
  subst hA hh
  revert X; k_fill; intro X
  refine wpAny_call ?_
  k_dflt (refine' code_def (binds := [(Str.ofString "msg", .ref x)]) ?k1 ?k2 ?k3 ?k4 ?k5 ?kA ?kF ?kK ?k6 ?k7 ?k8 ?k9 ?kB ?_ ?c2 ?c3 ?c4 ?c5; (case kA => exact rfl); (case kF => exact rfl); (case kK => assumption); (case k1 => k_asm); (case k2 => k_asm); (case k3 => k_asm); (case k4 => k_asm); (case k5 => k_asm); (case k6 => k_is); (case k7 => k_is); (case k8 => ktr_room); (case k9 => exact BindsTo.of_eq rfl); (case c5 => decide); (case kB => exact locs rfl); (case c2 => exact rfl); (case c3 => exact rfl); (case c4 => exact rfl); k_whole; intro g' L' h' FG' F' N' B' X' T'; (try dsimp only); (try k_fold))
  k_steps
  all_goals walk_at "m end"
set_option maxRecDepth 100000 in
set_option maxHeartbeats 8000000 in
theorem c_readSXN {x dx l : Addr} {k2 k3 t2 : Tok} {mk : Str} {nd n : Nat} {vs : List Value} {ws : List Str} {dd : Dat} (C : Cx w mean mg mb A A₀ base h₀ outer cn cs a ccd cl L m ((x, instObj 382 dx) :: (dx, dictOf [⟨PyData.keyHash w.params (Str.ofString "manufacturer"), .str (Str.ofString "manufacturer") k2, .str mk t2⟩, ⟨PyData.keyHash w.params (Str.ofString "data"), .str (Str.ofString "data") k3, .ref l⟩] nd) :: (l, listOf vs.toArray n) :: news) s.heap 20) (hS : StrsAre vs ws) (hb : ws.length ≤ 10) (he : dd = .list [txtD "SXN", .str mk, txtD "", lstD ws, .list []])
    (ret : RetK h₀ L m ((x, instObj 382 dx) :: (dx, dictOf [⟨PyData.keyHash w.params (Str.ofString "manufacturer"), .str (Str.ofString "manufacturer") k2, .str mk t2⟩, ⟨PyData.keyHash w.params (Str.ofString "data"), .str (Str.ofString "data") k3, .ref l⟩] nd) :: (l, listOf vs.toArray n) :: news) ([(l, listOf vs.toArray n)]) s Q dd) :
    wpAny (model PySem.Challenge.rw_ez0290_01.row.prog w) A (call (.ref 521) [.ref x]) Q E s := by
  w_top off
  k_with_none
  obtain ⟨B, F, X, N, T, hk, hA, hh, hdp, hun⟩ := C
  obtain ⟨hd, dp, fr, gd, un⟩ := A
  dsimp only at hA hh hdp hun
  subst hA hh
  revert X; k_fill; intro X
  refine wpAny_call ?_
  k_dflt (refine' code_def (binds := [(Str.ofString "msg", .ref x)]) ?k1 ?k2 ?k3 ?k4 ?k5 ?kA ?kF ?kK ?k6 ?k7 ?k8 ?k9 ?kB ?_ ?c2 ?c3 ?c4 ?c5; (case kA => exact rfl); (case kF => exact rfl); (case kK => assumption); (case k1 => k_asm); (case k2 => k_asm); (case k3 => k_asm); (case k4 => k_asm); (case k5 => k_asm); (case k6 => k_is); (case k7 => k_is); (case k8 => ktr_room); (case k9 => exact BindsTo.of_eq rfl); (case c5 => decide); (case kB => exact locs rfl); (case c2 => exact rfl); (case c3 => exact rfl); (case c4 => exact rfl); k_whole; intro g' L' h' FG' F' N' B' X' T'; (try dsimp only); (try k_fold))
  k_steps
  all_goals walk_at "m end"
set_option maxRecDepth 100000 in
set_option maxHeartbeats 8000000 in
theorem c_readNOR {x dx l : Addr} {k1 k2 k3 t1 t2 : Tok} {st mk : Str} {nd n : Nat} {vs : List Value} {ws : List Str} {dd : Dat} (C : Cx w mean mg mb A A₀ base h₀ outer cn cs a ccd cl L m ((x, instObj 254 dx) :: (dx, dictOf [⟨PyData.keyHash w.params (Str.ofString "sentence_type"), .str (Str.ofString "sentence_type") k1, .str st t1⟩, ⟨PyData.keyHash w.params (Str.ofString "manufacturer"), .str (Str.ofString "manufacturer") k2, .str mk t2⟩, ⟨PyData.keyHash w.params (Str.ofString "data"), .str (Str.ofString "data") k3, .ref l⟩] nd) :: (l, listOf vs.toArray n) :: news) s.heap 20) (hS : StrsAre vs ws) (hb : ws.length ≤ 10) (he : dd = .list [txtD "NOR", .str mk, .str st, lstD ws, .list []])
    (ret : RetK h₀ L m ((x, instObj 254 dx) :: (dx, dictOf [⟨PyData.keyHash w.params (Str.ofString "sentence_type"), .str (Str.ofString "sentence_type") k1, .str st t1⟩, ⟨PyData.keyHash w.params (Str.ofString "manufacturer"), .str (Str.ofString "manufacturer") k2, .str mk t2⟩, ⟨PyData.keyHash w.params (Str.ofString "data"), .str (Str.ofString "data") k3, .ref l⟩] nd) :: (l, listOf vs.toArray n) :: news) ([(l, listOf vs.toArray n)]) s Q dd) :
    wpAny (model PySem.Challenge.rw_ez0290_01.row.prog w) A (call (.ref 521) [.ref x]) Q E s := by
  w_top off
  k_with_none
  obtain ⟨B, F, X, N, T, hk, hA, hh, hdp, hun⟩ := C
  obtain ⟨hd, dp, fr, gd, un⟩ := A
  dsimp only at hA hh hdp hun
  subst hA hh
  revert X; k_fill; intro X
  refine wpAny_call ?_
  k_dflt (refine' code_def (binds := [(Str.ofString "msg", .ref x)]) ?k1 ?k2 ?k3 ?k4 ?k5 ?kA ?kF ?kK ?k6 ?k7 ?k8 ?k9 ?kB ?_ ?c2 ?c3 ?c4 ?c5; (case kA => exact rfl); (case kF => exact rfl); (case kK => assumption); (case k1 => k_asm); (case k2 => k_asm); (case k3 => k_asm); (case k4 => k_asm); (case k5 => k_asm); (case k6 => k_is); (case k7 => k_is); (case k8 => ktr_room); (case k9 => exact BindsTo.of_eq rfl); (case c5 => decide); (case kB => exact locs rfl); (case c2 => exact rfl); (case c3 => exact rfl); (case c4 => exact rfl); k_whole; intro g' L' h' FG' F' N' B' X' T'; (try dsimp only); (try k_fold))
  k_steps
  all_goals walk_at "m end"
set_option maxRecDepth 100000 in
set_option maxHeartbeats 8000000 in
theorem c_readWT4 {x dx l : Addr} {k1 k2 k3 t1 t2 : Tok} {st mk : Str} {nd n : Nat} {vs : List Value} {ws : List Str} {dd : Dat} (C : Cx w mean mg mb A A₀ base h₀ outer cn cs a ccd cl L m ((x, instObj 274 dx) :: (dx, dictOf [⟨PyData.keyHash w.params (Str.ofString "sentence_type"), .str (Str.ofString "sentence_type") k1, .str st t1⟩, ⟨PyData.keyHash w.params (Str.ofString "manufacturer"), .str (Str.ofString "manufacturer") k2, .str mk t2⟩, ⟨PyData.keyHash w.params (Str.ofString "data"), .str (Str.ofString "data") k3, .ref l⟩] nd) :: (l, listOf vs.toArray n) :: news) s.heap 20) (hS : StrsAre vs ws) (hb : ws.length ≤ 10) (he : dd = .list [txtD "NORWT4", .str mk, .str st, lstD ws, .list []])
    (ret : RetK h₀ L m ((x, instObj 274 dx) :: (dx, dictOf [⟨PyData.keyHash w.params (Str.ofString "sentence_type"), .str (Str.ofString "sentence_type") k1, .str st t1⟩, ⟨PyData.keyHash w.params (Str.ofString "manufacturer"), .str (Str.ofString "manufacturer") k2, .str mk t2⟩, ⟨PyData.keyHash w.params (Str.ofString "data"), .str (Str.ofString "data") k3, .ref l⟩] nd) :: (l, listOf vs.toArray n) :: news) ([(l, listOf vs.toArray n)]) s Q dd) :
    wpAny (model PySem.Challenge.rw_ez0290_01.row.prog w) A (call (.ref 521) [.ref x]) Q E s := by
  w_top off
  k_with_none
  obtain ⟨B, F, X, N, T, hk, hA, hh, hdp, hun⟩ := C
  obtain ⟨hd, dp, fr, gd, un⟩ := A
  dsimp only at hA hh hdp hun
  subst hA hh
  revert X; k_fill; intro X
  refine wpAny_call ?_
  k_dflt (refine' code_def (binds := [(Str.ofString "msg", .ref x)]) ?k1 ?k2 ?k3 ?k4 ?k5 ?kA ?kF ?kK ?k6 ?k7 ?k8 ?k9 ?kB ?_ ?c2 ?c3 ?c4 ?c5; (case kA => exact rfl); (case kF => exact rfl); (case kK => assumption); (case k1 => k_asm); (case k2 => k_asm); (case k3 => k_asm); (case k4 => k_asm); (case k5 => k_asm); (case k6 => k_is); (case k7 => k_is); (case k8 => ktr_room); (case k9 => exact BindsTo.of_eq rfl); (case c5 => decide); (case kB => exact locs rfl); (case c2 => exact rfl); (case c3 => exact rfl); (case c4 => exact rfl); k_whole; intro g' L' h' FG' F' N' B' X' T'; (try dsimp only); (try k_fold))
  k_steps
  all_goals walk_at "m end"
set_option maxRecDepth 100000 in
set_option maxHeartbeats 8000000 in
theorem c_readP {x dx l : Addr} {k2 k3 t2 : Tok} {mk : Str} {nd n : Nat} {vs : List Value} {ws : List Str} {dd : Dat} (C : Cx w mean mg mb A A₀ base h₀ outer cn cs a ccd cl L m ((x, instObj 218 dx) :: (dx, dictOf [⟨PyData.keyHash w.params (Str.ofString "manufacturer"), .str (Str.ofString "manufacturer") k2, .str mk t2⟩, ⟨PyData.keyHash w.params (Str.ofString "data"), .str (Str.ofString "data") k3, .ref l⟩] nd) :: (l, listOf vs.toArray n) :: news) s.heap 20) (hS : StrsAre vs ws) (hb : ws.length ≤ 10) (he : dd = .list [txtD "plain", .str mk, txtD "", lstD ws, .list []])
    (ret : RetK h₀ L m ((x, instObj 218 dx) :: (dx, dictOf [⟨PyData.keyHash w.params (Str.ofString "manufacturer"), .str (Str.ofString "manufacturer") k2, .str mk t2⟩, ⟨PyData.keyHash w.params (Str.ofString "data"), .str (Str.ofString "data") k3, .ref l⟩] nd) :: (l, listOf vs.toArray n) :: news) ([(l, listOf vs.toArray n)]) s Q dd) :
    wpAny (model PySem.Challenge.rw_ez0290_01.row.prog w) A (call (.ref 521) [.ref x]) Q E s := by
  w_top off
  k_with_none
  obtain ⟨B, F, X, N, T, hk, hA, hh, hdp, hun⟩ := C
  obtain ⟨hd, dp, fr, gd, un⟩ := A
  dsimp only at hA hh hdp hun
  subst hA hh
  revert X; k_fill; intro X
  refine wpAny_call ?_
  k_dflt (refine' code_def (binds := [(Str.ofString "msg", .ref x)]) ?k1 ?k2 ?k3 ?k4 ?k5 ?kA ?kF ?kK ?k6 ?k7 ?k8 ?k9 ?kB ?_ ?c2 ?c3 ?c4 ?c5; (case kA => exact rfl); (case kF => exact rfl); (case kK => assumption); (case k1 => k_asm); (case k2 => k_asm); (case k3 => k_asm); (case k4 => k_asm); (case k5 => k_asm); (case k6 => k_is); (case k7 => k_is); (case k8 => ktr_room); (case k9 => exact BindsTo.of_eq rfl); (case c5 => decide); (case kB => exact locs rfl); (case c2 => exact rfl); (case c3 => exact rfl); (case c4 => exact rfl); k_whole; intro g' L' h' FG' F' N' B' X' T'; (try dsimp only); (try k_fold))
  k_steps
  all_goals walk_at "m end"
end Mine
end

section
open PySem PySem.W PySem.W.X PySem.Spec PySem.Calls PyProof.Rows
namespace Mine
local macro_rules | `(tactic| k_room) => `(tactic| ktr_room)
local macro_rules | `(tactic| units_room) => `(tactic| ktr_units)
local macro_rules | `(tactic| k_units) => `(tactic| ktr_units)
local macro_rules | `(tactic| walk_at "call builtin:len") => `(tactic| (k_here; (with_reducible show wpAny _ _ (call (Value.builtin "len") [Value.ref _]) _ _ _); k_dflt (refine' len_txt ?k1 ?k2 ?k3 ?_; (case k1 => first | is_list | exact News.isList (by k_asm) (by k_mem)); (case k2 => with_reducible assumption); (case k3 => omega); k_whole)))
local macro_rules | `(tactic| walk_at "subscriptTail") => `(tactic| (k_here; (with_reducible show wpAny _ _ (subscriptTail _ _ (Value.ref _) (Value.int _ _)) _ _ _); (with_unfolding_all refine' item_txt ?k1 ?k2 ?k3 ?k4 ?k5 ?_ ?k6 ?k7; (case k1 => first | is_list | exact News.isList (by k_asm) (by k_mem)); (case k2 => with_reducible assumption); (case k3 => omega); (case k4 => first | decide | omega); (case k5 => omega); (case k6 => with_unfolding_all rfl); (case k7 => intro _; with_unfolding_all rfl); k_whole); intro _))
variable {w : World} {mean : ExcName → Option Value} {mg mb : Str → Option Value} {A A₀ : Around} {cn : Str} {cs : Scope} {a : Addr} {ccd : Value} {cl : List (Str × Addr)} {outer : List Env} {base h₀ : Heap} {L : Addr} {m : Str → Option Value} {news : List (Addr × Obj)} {s : Shared} {Q E : Value → Shared → Prop}
local macro_rules | `(tactic| walk_at "m mem") => `(tactic| first | exact List.mem_cons_self | (refine List.mem_cons_of_mem _ ?_; walk_at "m mem") | (refine List.mem_append_right _ ?_; walk_at "m mem") | assumption)
local macro_rules | `(tactic| walk_at "m gf") => `(tactic| first | exact gf_342 | exact gf_361 | exact gf_323 | exact gf_274 | exact gf_294 | exact gf_254 | exact gf_402 | exact gf_418 | exact gf_382 | exact gf_218)
local macro_rules | `(tactic| walk_at "getAttr ref") => `(tactic| (k_here; k_dflt (refine' get_own2 ?k1 ?k2 ?k3 ?k4 ?k5 ?k6 ?k7 ?k8 ?_; (case k1 => k_asm); (case k2 => k_asm); (case k3 => k_inst); (case k4 => apply GetF.ga; walk_at "m gf"); (case k5 => apply GetF.dict; walk_at "m gf"); (case k6 => first | (apply GetF.m3; walk_at "m gf") | (apply GetF.m1; walk_at "m gf") | (apply GetF.m2; walk_at "m gf")); (case k7 => k_get); (case k8 => k_handed)); k_whole))
local macro_rules | `(tactic| walk_at "m ext") => `(tactic| repeat' (first | exact ext_nil | (refine ext_cons (by first | assumption | (k_dflt exact lt_all (by assumption)) | exact lt_two (by assumption) (by assumption)) ?_) | (refine ext_app (by assumption) ?_)))
local macro_rules | `(tactic| walk_at "m hf") => `(tactic| first | exact hf_342 | exact hf_361 | exact hf_323 | exact hf_274 | exact hf_294 | exact hf_254 | exact hf_402 | exact hf_418 | exact hf_382 | exact hf_218)
local macro_rules | `(tactic| walk_at "call builtin:isinstance") => `(tactic| (k_here; (with_reducible show wpAny _ _ (call _ [Value.ref _, Value.ref _]) _ _ _); k_dflt (first
  | (refine' hk_tup ?c ?Z ?X ?p ?ee ?_; (case c => k_inst); (case X => k_in); (case Z => walk_at "m hf"); (case p => kit_tp); (case ee => kit_is); k_whole; intro _)
  | (refine' hk_one ?c ?Z ?X ?ee ?_; (case c => k_inst); (case X => k_in); (case Z => walk_at "m hf"); (case ee => kit_is); k_whole; intro _))))
local macro_rules | `(tactic| walk_at "m sub") => `(tactic| (intro p' hp'; repeat' (first | exact hp' | exact List.mem_append_left _ hp' | exact List.mem_cons_of_mem _ hp' | refine List.mem_cons_of_mem _ ?_ | refine List.mem_append_right _ ?_)))
local macro_rules | `(tactic| walk_at "m rd") => `(tactic| first | exact RdIn.str _ _ | exact RdIn.none | exact RdIn.bool _ | exact RdIn.int _ _ | (refine' RdIn.mono ?ms (by assumption); (case ms => walk_at "m sub")) | exact rd_listOf (by walk_at "m mem") RdAll.nil | (refine' rd_txt ?mm ?ma; (case mm => walk_at "m mem"); (case ma => assumption)))
local macro_rules | `(tactic| walk_at "m rds") => `(tactic| first | exact RdAll.nil | (refine' RdAll.cons ?m1 ?m2; (case m1 => walk_at "m rd"); (case m2 => walk_at "m rds")))
local macro_rules | `(tactic| walk_at "m end") => `(tactic| ((with_reducible rename RetK _ _ _ _ _ _ _ _ => kret); (with_reducible rename News _ _ _ _ => kN'); (with_reducible rename (_ = Dat.list _) => ke'); exact ret_extK kret (by k_asm) kN' (by walk_at "m extk") (rd_listOf (by walk_at "m mem") (by walk_at "m rds")) ke'))
local macro_rules | `(tactic| walk_at "m extk") => `(tactic| first | exact extk_nil | (apply extk_cons; (first | assumption | (k_dflt exact lt_all (by assumption)) | exact lt_two (by assumption) (by assumption)); walk_at "m extk") | (apply extk_app; assumption; walk_at "m extk"))
local macro_rules | `(tactic| walk_at "newList") => `(tactic| (k_here; k_dflt (refine' newList_K ?k1 ?k2 ?_; (case k1 => k_asm); (case k2 => k_asm); k_whole); intro l' h' F' N' l1; (try k_sweep)))
local macro_rules | `(tactic| walk_at "m idx") => `(tactic| first | exact at_0 | exact at_1 | exact at_2 | exact at_3 | exact at_4 | exact at_5 | exact at_6)
local macro_rules | `(tactic| walk_at "m cf") => `(tactic| first | exact cf_342 | exact cf_361 | exact cf_402 | exact cf_418 | exact cf_294)
local macro_rules | `(tactic| walk_at "m fa") => `(tactic| first | exact fa_342 | exact fa_361 | exact fa_402 | exact fa_418 | exact fa_294)
local macro_rules | `(tactic| walk_at "m fj") => `(tactic| first | exact fj_342 | exact fj_361 | exact fj_402 | exact fj_418 | exact fj_294)
local macro_rules | `(tactic| walk_at "getAttr ref") => `(tactic| (k_here; k_dflt (refine' attr_plain ⟨?kB, ?kF, ?kX, ?kN, ?kT, ?kk, ?kA, ?kh, ?kd, ?ku⟩ ?gf ?cf ?fa ?fj ?sh ?hi ?hS ?hb ?hD ?hM ?hc ?ha ?_; (case kB => k_asm); (case kF => k_asm); (case kX => k_asm); (case kN => k_asm); (case kT => k_asm); (case kA => exact rfl); (case kk => exact rfl); (case kh => exact rfl); (case kd => ktr_room); (case ku => ktr_units); (case gf => walk_at "m gf"); (case cf => walk_at "m cf"); (case fa => walk_at "m fa"); (case fj => walk_at "m fj"); (case sh => decide); (case hi => walk_at "m idx"); (case hS => assumption); (case hb => omega); (case hD => k_get); (case hM => k_get); (case hc => decide +kernel); (case ha => kernel_rfl); k_whole); intro r' h' tk' F' N' d'))
local macro_rules | `(tactic| walk_at "call ref") => `(tactic| (k_here; (with_reducible show wpAny _ _ (call (Value.ref 514) _) _ _ _); k_dflt (refine' c_kindedO (ds := readsD _ false 4) ⟨?kB, ?kF, ?kX, ?kN, ?kT, ?kk, ?kA, ?kh, ?kd, ?ku⟩ ?hr ?hf ?hb ?_; (case kB => k_asm); (case kF => k_asm); (case kX => k_asm); (case kN => k_asm); (case kT => k_asm); (case kA => exact rfl); (case kk => exact rfl); (case kh => exact rfl); (case kd => ktr_room); (case ku => ktr_units); (case hr => exact rd_listOf (by walk_at "m mem") (by walk_at "m rdv")); (case hf => first | exact kinds_reads _ _ _ | exact kinds_readsF _ _ _ _); (case hb => ((try simp only [List.length_append, List.length_cons, List.length_nil, readsD_length]); decide)); k_whole); intro r' h' tk' tl' F' N' ne' rd'; (obtain ⟨a', e'⟩ := rd_ref rd'); subst e'; (try k_sweep)))
local macro_rules | `(tactic| walk_at "m rdv") => `(tactic| first | exact RdAll.nil | (refine' RdAll.cons (rd_flat (by assumption) (flatD_read _ _ _)) ?rest; (case rest => walk_at "m rdv")))
set_option maxRecDepth 100000 in
set_option maxHeartbeats 8000000 in
theorem c_read103 {x dx l : Addr} {k1 k2 k3 t1 t2 : Tok} {st mk : Str} {nd n : Nat} {vs : List Value} {ws : List Str} {dd : Dat} (C : Cx w mean mg mb A A₀ base h₀ outer cn cs a ccd cl L m ((x, instObj 342 dx) :: (dx, dictOf [⟨PyData.keyHash w.params (Str.ofString "sentence_type"), .str (Str.ofString "sentence_type") k1, .str st t1⟩, ⟨PyData.keyHash w.params (Str.ofString "manufacturer"), .str (Str.ofString "manufacturer") k2, .str mk t2⟩, ⟨PyData.keyHash w.params (Str.ofString "data"), .str (Str.ofString "data") k3, .ref l⟩] nd) :: (l, listOf vs.toArray n) :: news) s.heap 30) (hS : StrsAre vs ws) (hb : ws.length ≤ 10) (he : dd = .list [txtD "SRF103", .str mk, .str st, lstD ws, .list ((readsD ws false 4).map kindD)])
    (ret : RetK h₀ L m ((x, instObj 342 dx) :: (dx, dictOf [⟨PyData.keyHash w.params (Str.ofString "sentence_type"), .str (Str.ofString "sentence_type") k1, .str st t1⟩, ⟨PyData.keyHash w.params (Str.ofString "manufacturer"), .str (Str.ofString "manufacturer") k2, .str mk t2⟩, ⟨PyData.keyHash w.params (Str.ofString "data"), .str (Str.ofString "data") k3, .ref l⟩] nd) :: (l, listOf vs.toArray n) :: news) ([(l, listOf vs.toArray n)]) s Q dd) :
    wpAny (model PySem.Challenge.rw_ez0290_01.row.prog w) A (call (.ref 521) [.ref x]) Q E s := by
  w_top off
  k_with_none
  obtain ⟨B, F, X, N, T, hk, hA, hh, hdp, hun⟩ := C
  obtain ⟨hd, dp, fr, gd, un⟩ := A
  dsimp only at hA hh hdp hun
  subst hA hh
  revert X; k_fill; intro X
  refine wpAny_call ?_
  k_dflt (refine' code_def (binds := [(Str.ofString "msg", .ref x)]) ?k1 ?k2 ?k3 ?k4 ?k5 ?kA ?kF ?kK ?k6 ?k7 ?k8 ?k9 ?kB ?_ ?c2 ?c3 ?c4 ?c5; (case kA => exact rfl); (case kF => exact rfl); (case kK => assumption); (case k1 => k_asm); (case k2 => k_asm); (case k3 => k_asm); (case k4 => k_asm); (case k5 => k_asm); (case k6 => k_is); (case k7 => k_is); (case k8 => ktr_room); (case k9 => exact BindsTo.of_eq rfl); (case c5 => decide); (case kB => exact locs rfl); (case c2 => exact rfl); (case c3 => exact rfl); (case c4 => exact rfl); k_whole; intro g' L' h' FG' F' N' B' X' T'; (try dsimp only); (try k_fold))
  k_steps
  all_goals walk_at "m end"
end Mine
end

section
open PySem PySem.W PySem.W.X PySem.Spec PySem.Calls PyProof.Rows
namespace Mine
local macro_rules | `(tactic| walk_at "no such key") => `(tactic| fail "none")
local macro_rules | `(tactic| k_room) => `(tactic| ktr_room)
local macro_rules | `(tactic| units_room) => `(tactic| ktr_units)
local macro_rules | `(tactic| k_units) => `(tactic| ktr_units)
local macro_rules | `(tactic| walk_at "call builtin:len") => `(tactic| (k_here; (with_reducible show wpAny _ _ (call (Value.builtin "len") [Value.ref _]) _ _ _); k_dflt (refine' len_txt ?k1 ?k2 ?k3 ?_; (case k1 => first | is_list | exact News.isList (by k_asm) (by k_mem)); (case k2 => with_reducible assumption); (case k3 => omega); k_whole)))
local macro_rules | `(tactic| walk_at "subscriptTail") => `(tactic| (k_here; (with_reducible show wpAny _ _ (subscriptTail _ _ (Value.ref _) (Value.int _ _)) _ _ _); (with_unfolding_all refine' item_txt ?k1 ?k2 ?k3 ?k4 ?k5 ?_ ?k6 ?k7; (case k1 => first | is_list | exact News.isList (by k_asm) (by k_mem)); (case k2 => with_reducible assumption); (case k3 => omega); (case k4 => first | decide | omega); (case k5 => omega); (case k6 => with_unfolding_all rfl); (case k7 => intro _; with_unfolding_all rfl); k_whole); intro _))
variable {w : World} {mean : ExcName → Option Value} {mg mb : Str → Option Value} {A A₀ : Around} {cn : Str} {cs : Scope} {a : Addr} {ccd : Value} {cl : List (Str × Addr)} {outer : List Env} {base h₀ : Heap} {L : Addr} {m : Str → Option Value} {news : List (Addr × Obj)} {s : Shared} {Q E : Value → Shared → Prop}
local macro_rules | `(tactic| walk_at "m mem") => `(tactic| first | exact List.mem_cons_self | (refine List.mem_cons_of_mem _ ?_; walk_at "m mem") | (refine List.mem_append_right _ ?_; walk_at "m mem") | assumption)
local macro_rules | `(tactic| walk_at "m gf") => `(tactic| first | exact gf_342 | exact gf_361 | exact gf_323 | exact gf_274 | exact gf_294 | exact gf_254 | exact gf_402 | exact gf_418 | exact gf_382 | exact gf_218)
local macro_rules | `(tactic| walk_at "getAttr ref") => `(tactic| (k_here; k_dflt (refine' get_own2 ?k1 ?k2 ?k3 ?k4 ?k5 ?k6 ?k7 ?k8 ?_; (case k1 => k_asm); (case k2 => k_asm); (case k3 => k_inst); (case k4 => apply GetF.ga; walk_at "m gf"); (case k5 => apply GetF.dict; walk_at "m gf"); (case k6 => first | (apply GetF.m3; walk_at "m gf") | (apply GetF.m1; walk_at "m gf") | (apply GetF.m2; walk_at "m gf")); (case k7 => k_get); (case k8 => k_handed)); k_whole))
local macro_rules | `(tactic| walk_at "m ext") => `(tactic| repeat' (first | exact ext_nil | (refine ext_cons (by first | assumption | (k_dflt exact lt_all (by assumption)) | exact lt_two (by assumption) (by assumption)) ?_) | (refine ext_app (by assumption) ?_)))
local macro_rules | `(tactic| walk_at "m hf") => `(tactic| first | exact hf_342 | exact hf_361 | exact hf_323 | exact hf_274 | exact hf_294 | exact hf_254 | exact hf_402 | exact hf_418 | exact hf_382 | exact hf_218)
local macro_rules | `(tactic| walk_at "call builtin:isinstance") => `(tactic| (k_here; (with_reducible show wpAny _ _ (call _ [Value.ref _, Value.ref _]) _ _ _); k_dflt (first
  | (refine' hk_tup ?c ?Z ?X ?p ?ee ?_; (case c => k_inst); (case X => k_in); (case Z => walk_at "m hf"); (case p => kit_tp); (case ee => kit_is); k_whole; intro _)
  | (refine' hk_one ?c ?Z ?X ?ee ?_; (case c => k_inst); (case X => k_in); (case Z => walk_at "m hf"); (case ee => kit_is); k_whole; intro _))))
local macro_rules | `(tactic| walk_at "m sub") => `(tactic| (intro p' hp'; repeat' (first | exact hp' | exact List.mem_append_left _ hp' | exact List.mem_cons_of_mem _ hp' | refine List.mem_cons_of_mem _ ?_ | refine List.mem_append_right _ ?_)))
local macro_rules | `(tactic| walk_at "m rd") => `(tactic| first | exact RdIn.str _ _ | exact RdIn.none | exact RdIn.bool _ | exact RdIn.int _ _ | (refine' RdIn.mono ?ms (by assumption); (case ms => walk_at "m sub")) | exact rd_listOf (by walk_at "m mem") RdAll.nil | (refine' rd_txt ?mm ?ma; (case mm => walk_at "m mem"); (case ma => assumption)))
local macro_rules | `(tactic| walk_at "m rds") => `(tactic| first | exact RdAll.nil | (refine' RdAll.cons ?m1 ?m2; (case m1 => walk_at "m rd"); (case m2 => walk_at "m rds")))
local macro_rules | `(tactic| walk_at "m end") => `(tactic| ((with_reducible rename RetK _ _ _ _ _ _ _ _ => kret); (with_reducible rename News _ _ _ _ => kN'); (with_reducible rename (_ = Dat.list _) => ke'); exact ret_extK kret (by k_asm) kN' (by walk_at "m extk") (rd_listOf (by walk_at "m mem") (by walk_at "m rds")) ke'))
local macro_rules | `(tactic| walk_at "m extk") => `(tactic| first | exact extk_nil | (apply extk_cons; (first | assumption | (k_dflt exact lt_all (by assumption)) | exact lt_two (by assumption) (by assumption)); walk_at "m extk") | (apply extk_app; assumption; walk_at "m extk"))
local macro_rules | `(tactic| walk_at "newList") => `(tactic| (k_here; k_dflt (refine' newList_K ?k1 ?k2 ?_; (case k1 => k_asm); (case k2 => k_asm); k_whole); intro l' h' F' N' l1; (try k_sweep)))
local macro_rules | `(tactic| walk_at "m idx") => `(tactic| first | exact at_0 | exact at_1 | exact at_2 | exact at_3 | exact at_4 | exact at_5 | exact at_6)
local macro_rules | `(tactic| walk_at "m cf") => `(tactic| first | exact cf_342 | exact cf_361 | exact cf_402 | exact cf_418 | exact cf_294)
local macro_rules | `(tactic| walk_at "m fa") => `(tactic| first | exact fa_342 | exact fa_361 | exact fa_402 | exact fa_418 | exact fa_294)
local macro_rules | `(tactic| walk_at "m fj") => `(tactic| first | exact fj_342 | exact fj_361 | exact fj_402 | exact fj_418 | exact fj_294)
local macro_rules | `(tactic| walk_at "getAttr ref") => `(tactic| (k_here; k_dflt (refine' attr_plain ⟨?kB, ?kF, ?kX, ?kN, ?kT, ?kk, ?kA, ?kh, ?kd, ?ku⟩ ?gf ?cf ?fa ?fj ?sh ?hi ?hS ?hb ?hD ?hM ?hc ?ha ?_; (case kB => k_asm); (case kF => k_asm); (case kX => k_asm); (case kN => k_asm); (case kT => k_asm); (case kA => exact rfl); (case kk => exact rfl); (case kh => exact rfl); (case kd => ktr_room); (case ku => ktr_units); (case gf => walk_at "m gf"); (case cf => walk_at "m cf"); (case fa => walk_at "m fa"); (case fj => walk_at "m fj"); (case sh => decide); (case hi => walk_at "m idx"); (case hS => assumption); (case hb => omega); (case hD => k_get); (case hM => k_get); (case hc => decide +kernel); (case ha => kernel_rfl); k_whole); intro r' h' tk' F' N' d'))
local macro_rules | `(tactic| walk_at "call ref") => `(tactic| (k_here; (with_reducible show wpAny _ _ (call (Value.ref 514) _) _ _ _); k_dflt (refine' c_kindedO (ds := readsD _ false 6) ⟨?kB, ?kF, ?kX, ?kN, ?kT, ?kk, ?kA, ?kh, ?kd, ?ku⟩ ?hr ?hf ?hb ?_; (case kB => k_asm); (case kF => k_asm); (case kX => k_asm); (case kN => k_asm); (case kT => k_asm); (case kA => exact rfl); (case kk => exact rfl); (case kh => exact rfl); (case kd => ktr_room); (case ku => ktr_units); (case hr => exact rd_listOf (by walk_at "m mem") (by walk_at "m rdv")); (case hf => first | exact kinds_reads _ _ _ | exact kinds_readsF _ _ _ _); (case hb => ((try simp only [List.length_append, List.length_cons, List.length_nil, readsD_length]); decide)); k_whole); intro r' h' tk' tl' F' N' ne' rd'; (obtain ⟨a', e'⟩ := rd_ref rd'); subst e'; (try k_sweep)))
local macro_rules | `(tactic| walk_at "m rdv") => `(tactic| first | exact RdAll.nil | (refine' RdAll.cons (rd_flat (by assumption) (flatD_read _ _ _)) ?rest; (case rest => walk_at "m rdv")))
set_option maxRecDepth 100000 in
set_option maxHeartbeats 8000000 in
theorem c_read100 {x dx l : Addr} {k1 k2 k3 t1 t2 : Tok} {st mk : Str} {nd n : Nat} {vs : List Value} {ws : List Str} {dd : Dat} (C : Cx w mean mg mb A A₀ base h₀ outer cn cs a ccd cl L m ((x, instObj 361 dx) :: (dx, dictOf [⟨PyData.keyHash w.params (Str.ofString "sentence_type"), .str (Str.ofString "sentence_type") k1, .str st t1⟩, ⟨PyData.keyHash w.params (Str.ofString "manufacturer"), .str (Str.ofString "manufacturer") k2, .str mk t2⟩, ⟨PyData.keyHash w.params (Str.ofString "data"), .str (Str.ofString "data") k3, .ref l⟩] nd) :: (l, listOf vs.toArray n) :: news) s.heap 30) (hS : StrsAre vs ws) (hb : ws.length ≤ 10) (he : dd = .list [txtD "SRF100", .str mk, .str st, lstD ws, .list ((readsD ws false 6).map kindD)])
    (ret : RetK h₀ L m ((x, instObj 361 dx) :: (dx, dictOf [⟨PyData.keyHash w.params (Str.ofString "sentence_type"), .str (Str.ofString "sentence_type") k1, .str st t1⟩, ⟨PyData.keyHash w.params (Str.ofString "manufacturer"), .str (Str.ofString "manufacturer") k2, .str mk t2⟩, ⟨PyData.keyHash w.params (Str.ofString "data"), .str (Str.ofString "data") k3, .ref l⟩] nd) :: (l, listOf vs.toArray n) :: news) ([(l, listOf vs.toArray n)]) s Q dd) :
    wpAny (model PySem.Challenge.rw_ez0290_01.row.prog w) A (call (.ref 521) [.ref x]) Q E s := by
  w_top off
  k_with_none
  obtain ⟨B, F, X, N, T, hk, hA, hh, hdp, hun⟩ := C
  obtain ⟨hd, dp, fr, gd, un⟩ := A
  dsimp only at hA hh hdp hun
  subst hA hh
  revert X; k_fill; intro X
  refine wpAny_call ?_
  k_dflt (refine' code_def (binds := [(Str.ofString "msg", .ref x)]) ?k1 ?k2 ?k3 ?k4 ?k5 ?kA ?kF ?kK ?k6 ?k7 ?k8 ?k9 ?kB ?_ ?c2 ?c3 ?c4 ?c5; (case kA => exact rfl); (case kF => exact rfl); (case kK => assumption); (case k1 => k_asm); (case k2 => k_asm); (case k3 => k_asm); (case k4 => k_asm); (case k5 => k_asm); (case k6 => k_is); (case k7 => k_is); (case k8 => ktr_room); (case k9 => exact BindsTo.of_eq rfl); (case c5 => decide); (case kB => exact locs rfl); (case c2 => exact rfl); (case c3 => exact rfl); (case c4 => exact rfl); k_whole; intro g' L' h' FG' F' N' B' X' T'; (try dsimp only); (try k_fold))
  k_steps
  all_goals walk_at "m end"
end Mine
end

section
open PySem PySem.W PySem.W.X PySem.Spec PySem.Calls PyProof.Rows
namespace Mine
local macro_rules | `(tactic| k_room) => `(tactic| ktr_room)
local macro_rules | `(tactic| units_room) => `(tactic| ktr_units)
local macro_rules | `(tactic| k_units) => `(tactic| ktr_units)
local macro_rules | `(tactic| walk_at "call builtin:len") => `(tactic| (k_here; (with_reducible show wpAny _ _ (call (Value.builtin "len") [Value.ref _]) _ _ _); k_dflt (refine' len_txt ?k1 ?k2 ?k3 ?_; (case k1 => first | is_list | exact News.isList (by k_asm) (by k_mem)); (case k2 => with_reducible assumption); (case k3 => omega); k_whole)))
local macro_rules | `(tactic| walk_at "subscriptTail") => `(tactic| (k_here; (with_reducible show wpAny _ _ (subscriptTail _ _ (Value.ref _) (Value.int _ _)) _ _ _); (with_unfolding_all refine' item_txt ?k1 ?k2 ?k3 ?k4 ?k5 ?_ ?k6 ?k7; (case k1 => first | is_list | exact News.isList (by k_asm) (by k_mem)); (case k2 => with_reducible assumption); (case k3 => omega); (case k4 => first | decide | omega); (case k5 => omega); (case k6 => with_unfolding_all rfl); (case k7 => intro _; with_unfolding_all rfl); k_whole); intro _))
variable {w : World} {mean : ExcName → Option Value} {mg mb : Str → Option Value} {A A₀ : Around} {cn : Str} {cs : Scope} {a : Addr} {ccd : Value} {cl : List (Str × Addr)} {outer : List Env} {base h₀ : Heap} {L : Addr} {m : Str → Option Value} {news : List (Addr × Obj)} {s : Shared} {Q E : Value → Shared → Prop}
local macro_rules | `(tactic| walk_at "m mem") => `(tactic| first | exact List.mem_cons_self | (refine List.mem_cons_of_mem _ ?_; walk_at "m mem") | (refine List.mem_append_right _ ?_; walk_at "m mem") | assumption)
local macro_rules | `(tactic| walk_at "m gf") => `(tactic| first | exact gf_342 | exact gf_361 | exact gf_323 | exact gf_274 | exact gf_294 | exact gf_254 | exact gf_402 | exact gf_418 | exact gf_382 | exact gf_218)
local macro_rules | `(tactic| walk_at "getAttr ref") => `(tactic| (k_here; k_dflt (refine' get_own2 ?k1 ?k2 ?k3 ?k4 ?k5 ?k6 ?k7 ?k8 ?_; (case k1 => k_asm); (case k2 => k_asm); (case k3 => k_inst); (case k4 => apply GetF.ga; walk_at "m gf"); (case k5 => apply GetF.dict; walk_at "m gf"); (case k6 => first | (apply GetF.m3; walk_at "m gf") | (apply GetF.m1; walk_at "m gf") | (apply GetF.m2; walk_at "m gf")); (case k7 => k_get); (case k8 => k_handed)); k_whole))
local macro_rules | `(tactic| walk_at "m ext") => `(tactic| repeat' (first | exact ext_nil | (refine ext_cons (by first | assumption | (k_dflt exact lt_all (by assumption)) | exact lt_two (by assumption) (by assumption)) ?_) | (refine ext_app (by assumption) ?_)))
local macro_rules | `(tactic| walk_at "m hf") => `(tactic| first | exact hf_342 | exact hf_361 | exact hf_323 | exact hf_274 | exact hf_294 | exact hf_254 | exact hf_402 | exact hf_418 | exact hf_382 | exact hf_218)
local macro_rules | `(tactic| walk_at "call builtin:isinstance") => `(tactic| (k_here; (with_reducible show wpAny _ _ (call _ [Value.ref _, Value.ref _]) _ _ _); k_dflt (first
  | (refine' hk_tup ?c ?Z ?X ?p ?ee ?_; (case c => k_inst); (case X => k_in); (case Z => walk_at "m hf"); (case p => kit_tp); (case ee => kit_is); k_whole; intro _)
  | (refine' hk_one ?c ?Z ?X ?ee ?_; (case c => k_inst); (case X => k_in); (case Z => walk_at "m hf"); (case ee => kit_is); k_whole; intro _))))
local macro_rules | `(tactic| walk_at "m sub") => `(tactic| (intro p' hp'; repeat' (first | exact hp' | exact List.mem_append_left _ hp' | exact List.mem_cons_of_mem _ hp' | refine List.mem_cons_of_mem _ ?_ | refine List.mem_append_right _ ?_)))
local macro_rules | `(tactic| walk_at "m rd") => `(tactic| first | exact RdIn.str _ _ | exact RdIn.none | exact RdIn.bool _ | exact RdIn.int _ _ | (refine' RdIn.mono ?ms (by assumption); (case ms => walk_at "m sub")) | exact rd_listOf (by walk_at "m mem") RdAll.nil | (refine' rd_txt ?mm ?ma; (case mm => walk_at "m mem"); (case ma => assumption)))
local macro_rules | `(tactic| walk_at "m rds") => `(tactic| first | exact RdAll.nil | (refine' RdAll.cons ?m1 ?m2; (case m1 => walk_at "m rd"); (case m2 => walk_at "m rds")))
local macro_rules | `(tactic| walk_at "m end") => `(tactic| ((with_reducible rename RetK _ _ _ _ _ _ _ _ => kret); (with_reducible rename News _ _ _ _ => kN'); (with_reducible rename (_ = Dat.list _) => ke'); exact ret_extK kret (by k_asm) kN' (by walk_at "m extk") (rd_listOf (by walk_at "m mem") (by walk_at "m rds")) ke'))
local macro_rules | `(tactic| walk_at "m extk") => `(tactic| first | exact extk_nil | (apply extk_cons; (first | assumption | (k_dflt exact lt_all (by assumption)) | exact lt_two (by assumption) (by assumption)); walk_at "m extk") | (apply extk_app; assumption; walk_at "m extk"))
local macro_rules | `(tactic| walk_at "newList") => `(tactic| (k_here; k_dflt (refine' newList_K ?k1 ?k2 ?_; (case k1 => k_asm); (case k2 => k_asm); k_whole); intro l' h' F' N' l1; (try k_sweep)))
local macro_rules | `(tactic| walk_at "m idx") => `(tactic| first | exact at_0 | exact at_1 | exact at_2 | exact at_3 | exact at_4 | exact at_5 | exact at_6)
local macro_rules | `(tactic| walk_at "m cf") => `(tactic| first | exact cf_342 | exact cf_361 | exact cf_402 | exact cf_418 | exact cf_294)
local macro_rules | `(tactic| walk_at "m fa") => `(tactic| first | exact fa_342 | exact fa_361 | exact fa_402 | exact fa_418 | exact fa_294)
local macro_rules | `(tactic| walk_at "m fj") => `(tactic| first | exact fj_342 | exact fj_361 | exact fj_402 | exact fj_418 | exact fj_294)
local macro_rules | `(tactic| walk_at "call ref") => `(tactic| (k_here; (with_reducible show wpAny _ _ (call (Value.ref 514) _) _ _ _); k_dflt (refine' c_kindedO (ds := [readD _ true 1, readD _ true 2]) ⟨?kB, ?kF, ?kX, ?kN, ?kT, ?kk, ?kA, ?kh, ?kd, ?ku⟩ ?hr ?hf ?hb ?_; (case kB => k_asm); (case kF => k_asm); (case kX => k_asm); (case kN => k_asm); (case kT => k_asm); (case kA => exact rfl); (case kk => exact rfl); (case kh => exact rfl); (case kd => ktr_room); (case ku => ktr_units); (case hr => exact rd_listOf (by walk_at "m mem") (by walk_at "m rdv")); (case hf => walk_at "m kn"); (case hb => exact Nat.le_of_ble_eq_true rfl); k_whole); intro r' h' tk' tl' F' N' ne' rd'; (obtain ⟨a', e'⟩ := rd_ref rd'); subst e'; (try k_sweep)))
local macro_rules | `(tactic| walk_at "m rdv") => `(tactic| first | exact RdAll.nil | (refine' RdAll.cons (rd_nil (by assumption)) ?rest; (case rest => walk_at "m rdv")) | (refine' RdAll.cons (rd_flat (by assumption) (flat_frame _)) ?rest; (case rest => walk_at "m rdv")))
local macro_rules | `(tactic| walk_at "m kn") => `(tactic| first | exact kinds_nil | (refine' kinds_cons (kinds_read _ _ _) ?rest; (case rest => walk_at "m kn")) | (refine' kinds_cons (kinds_frame _) ?rest; (case rest => walk_at "m kn")))
set_option maxRecDepth 100000 in
set_option maxHeartbeats 8000000 in
theorem c_read21 {x dx l : Addr} {k2 k3 t2 : Tok} {mk : Str} {nd n : Nat} {vs : List Value} {ws : List Str} {dd : Dat} (C : Cx w mean mg mb A A₀ base h₀ [] cn cs a ccd [] L m ((x, instObj 418 dx) :: (dx, dictOf [⟨PyData.keyHash w.params (Str.ofString "manufacturer"), .str (Str.ofString "manufacturer") k2, .str mk t2⟩, ⟨PyData.keyHash w.params (Str.ofString "data"), .str (Str.ofString "data") k3, .ref l⟩] nd) :: (l, listOf vs.toArray n) :: news) s.heap 30) (XB : (hd.heap_39 w.params).In base) (TB : Top hd.view_39 LL mean mg mb base) (hS : StrsAre vs ws) (hb : ws.length ≤ 10) (hw : ∀ x ∈ ws, WordOk x) (he : dd = .list [txtD "SXN21", .str mk, txtD "", lstD ws, .list (([readD ws true 1, readD ws true 2]).map kindD)])
    (ret : RetK h₀ L m ((x, instObj 418 dx) :: (dx, dictOf [⟨PyData.keyHash w.params (Str.ofString "manufacturer"), .str (Str.ofString "manufacturer") k2, .str mk t2⟩, ⟨PyData.keyHash w.params (Str.ofString "data"), .str (Str.ofString "data") k3, .ref l⟩] nd) :: (l, listOf vs.toArray n) :: news) ([(l, listOf vs.toArray n)]) s Q dd) :
    wpC (model PySem.Challenge.rw_ez0290_01.row.prog w) A (call (.ref 521) [.ref x]) Q E s := by
  w_top off
  k_with_none
  obtain ⟨B, F, X, N, T, hk, hA, hh, hdp, hun⟩ := C
  obtain ⟨hd, dp, fr, gd, un⟩ := A
  dsimp only at hA hh hdp hun
  subst hA hh
  revert X; k_fill; intro X
  refine wpC_call ?_
  k_dflt (refine' code_defS0C (binds := [(Str.ofString "msg", .ref x)]) ?k1 ?k2 ?k3 ?k4 ?k5 ?kA ?k6 ?k7 ?k8 ?k9 ?kB ?_ ?kK ?c2 ?c3 ?c4 ?c5; (case kA => exact rfl); (case kK => assumption); (case k1 => k_asm); (case k2 => k_asm); (case k3 => k_asm); (case k4 => k_asm); (case k5 => k_asm); (case k6 => k_is); (case k7 => k_is); (case k8 => ktr_room); (case k9 => exact BindsTo.of_eq rfl); (case c5 => decide); (case kB => exact locs rfl); (case c2 => exact rfl); (case c3 => exact rfl); (case c4 => exact rfl); k_whole; intro g' L' h' FG' F' N' B' X' T' D'; (try dsimp only); (try k_fold))
  have T0 := KtsTurn.refl (fs := [envOf cn cs L a ccd].filterMap (·.frame)) (g := g')
  refine wpC_execs_app (l₁ := [_, _, _, _]) (l₂ := _ :: _) ?_
  k_steps
  dsimp only
  refine wpC_execs_cons (wpC_If (wpC_of ?_))
  k_steps
  refine wpC_execs_cons (wpC_Return (wpC_List ?_))
  refine wpC_args_cons (wpC_of ?_)
  k_steps
  refine wpC_args_cons (wpC_of ?_)
  k_steps
  refine wpC_args_cons (wpC_of ?_)
  k_steps
  refine wpC_args_cons (wpC_of ?_)
  k_steps
  refine wpC_args_cons (wpC_Call (wpC_of ?_))
  k_steps
  refine wpC_callF ?_
  refine wpC_args_cons (wpC_List ?_)
  refine wpC_args_cons (wpC_Attribute (wpC_of ?_))
  k_steps
  k_dflt (refine' attr_int (fl := fl_418) (i := 1) ⟨?kB, ?kF, ?kX, ?kN, ?kT, ?kk, ?kA, ?kh, ?kd, ?ku⟩ XB TB ?kD gf_418 cf_418 fa_418 fj_418 ?sh ?hi hS hb hw ?hD ?hM ?hc ?ha ?_; (case kF => k_asm); (case kB => k_asm); (case kX => k_asm); (case kN => first | k_asm | exact news_1 (by k_asm)); (case kT => k_asm); (case kA => exact rfl); (case kk => exact rfl); (case kh => exact rfl); (case kd => ktr_room); (case ku => ktr_units); (case kD => k_asm); (case sh => decide); (case hi => exact at_1); (case hD => k_get); (case hM => k_get); (case hc => decide +kernel); (case ha => kernel_rfl))
  intro r' h' tk' g'' U' F' N' B' X' T' D' d'
  replace T0 := T0.trans U'
  refine wpC_args_cons (wpC_Attribute (wpC_of ?_))
  k_steps
  k_dflt (refine' attr_int (fl := fl_418) (i := 2) ⟨?kB, ?kF, ?kX, ?kN, ?kT, ?kk, ?kA, ?kh, ?kd, ?ku⟩ XB TB ?kD gf_418 cf_418 fa_418 fj_418 ?sh ?hi hS hb hw ?hD ?hM ?hc ?ha ?_; (case kF => k_asm); (case kB => k_asm); (case kX => k_asm); (case kN => first | k_asm | exact news_1 (by k_asm)); (case kT => k_asm); (case kA => exact rfl); (case kk => exact rfl); (case kh => exact rfl); (case kd => ktr_room); (case ku => ktr_units); (case kD => k_asm); (case sh => decide); (case hi => exact at_2); (case hD => k_get); (case hM => k_get); (case hc => decide +kernel); (case ha => kernel_rfl))
  intro r' h' tk' g'' U' F' N' B' X' T' D' d'
  replace T0 := T0.trans U'
  refine wpC_args_nil (wpC_of ?_)
  k_steps
  refine wpC_args_nil ⟨fn_obj (Frag.In.keeps (by k_asm) (Fr.keep (by k_asm))) fn_514, wpC_of ?_⟩
  k_steps
  refine wpC_args_nil (wpC_of ?_)
  k_steps
  all_goals walk_at "m end"
end Mine
end

section
open PySem PySem.W PySem.W.X PySem.Spec PySem.Calls PyProof.Rows
namespace Mine
local macro_rules | `(tactic| walk_at "no such key") => `(tactic| fail "none")
local macro_rules | `(tactic| k_room) => `(tactic| ktr_room)
local macro_rules | `(tactic| units_room) => `(tactic| ktr_units)
local macro_rules | `(tactic| k_units) => `(tactic| ktr_units)
local macro_rules | `(tactic| walk_at "call builtin:len") => `(tactic| (k_here; (with_reducible show wpAny _ _ (call (Value.builtin "len") [Value.ref _]) _ _ _); k_dflt (refine' len_txt ?k1 ?k2 ?k3 ?_; (case k1 => first | is_list | exact News.isList (by k_asm) (by k_mem)); (case k2 => with_reducible assumption); (case k3 => omega); k_whole)))
local macro_rules | `(tactic| walk_at "subscriptTail") => `(tactic| (k_here; (with_reducible show wpAny _ _ (subscriptTail _ _ (Value.ref _) (Value.int _ _)) _ _ _); (with_unfolding_all refine' item_txt ?k1 ?k2 ?k3 ?k4 ?k5 ?_ ?k6 ?k7; (case k1 => first | is_list | exact News.isList (by k_asm) (by k_mem)); (case k2 => with_reducible assumption); (case k3 => omega); (case k4 => first | decide | omega); (case k5 => omega); (case k6 => with_unfolding_all rfl); (case k7 => intro _; with_unfolding_all rfl); k_whole); intro _))
variable {w : World} {mean : ExcName → Option Value} {mg mb : Str → Option Value} {A A₀ : Around} {cn : Str} {cs : Scope} {a : Addr} {ccd : Value} {cl : List (Str × Addr)} {outer : List Env} {base h₀ : Heap} {L : Addr} {m : Str → Option Value} {news : List (Addr × Obj)} {s : Shared} {Q E : Value → Shared → Prop}
local macro_rules | `(tactic| walk_at "m mem") => `(tactic| first | exact List.mem_cons_self | (refine List.mem_cons_of_mem _ ?_; walk_at "m mem") | (refine List.mem_append_right _ ?_; walk_at "m mem") | assumption)
local macro_rules | `(tactic| walk_at "m gf") => `(tactic| first | exact gf_342 | exact gf_361 | exact gf_323 | exact gf_274 | exact gf_294 | exact gf_254 | exact gf_402 | exact gf_418 | exact gf_382 | exact gf_218)
local macro_rules | `(tactic| walk_at "getAttr ref") => `(tactic| (k_here; k_dflt (refine' get_own2 ?k1 ?k2 ?k3 ?k4 ?k5 ?k6 ?k7 ?k8 ?_; (case k1 => k_asm); (case k2 => k_asm); (case k3 => k_inst); (case k4 => apply GetF.ga; walk_at "m gf"); (case k5 => apply GetF.dict; walk_at "m gf"); (case k6 => first | (apply GetF.m3; walk_at "m gf") | (apply GetF.m1; walk_at "m gf") | (apply GetF.m2; walk_at "m gf")); (case k7 => k_get); (case k8 => k_handed)); k_whole))
local macro_rules | `(tactic| walk_at "m ext") => `(tactic| repeat' (first | exact ext_nil | (refine ext_cons (by first | assumption | (k_dflt exact lt_all (by assumption)) | exact lt_two (by assumption) (by assumption)) ?_) | (refine ext_app (by assumption) ?_)))
local macro_rules | `(tactic| walk_at "m hf") => `(tactic| first | exact hf_342 | exact hf_361 | exact hf_323 | exact hf_274 | exact hf_294 | exact hf_254 | exact hf_402 | exact hf_418 | exact hf_382 | exact hf_218)
local macro_rules | `(tactic| walk_at "call builtin:isinstance") => `(tactic| (k_here; (with_reducible show wpAny _ _ (call _ [Value.ref _, Value.ref _]) _ _ _); k_dflt (first
  | (refine' hk_tup ?c ?Z ?X ?p ?ee ?_; (case c => k_inst); (case X => k_in); (case Z => walk_at "m hf"); (case p => kit_tp); (case ee => kit_is); k_whole; intro _)
  | (refine' hk_one ?c ?Z ?X ?ee ?_; (case c => k_inst); (case X => k_in); (case Z => walk_at "m hf"); (case ee => kit_is); k_whole; intro _))))
local macro_rules | `(tactic| walk_at "m sub") => `(tactic| (intro p' hp'; repeat' (first | exact hp' | exact List.mem_append_left _ hp' | exact List.mem_cons_of_mem _ hp' | refine List.mem_cons_of_mem _ ?_ | refine List.mem_append_right _ ?_)))
local macro_rules | `(tactic| walk_at "m rd") => `(tactic| first | exact RdIn.str _ _ | exact RdIn.none | exact RdIn.bool _ | exact RdIn.int _ _ | (refine' RdIn.mono ?ms (by assumption); (case ms => walk_at "m sub")) | exact rd_listOf (by walk_at "m mem") RdAll.nil | (refine' rd_txt ?mm ?ma; (case mm => walk_at "m mem"); (case ma => assumption)))
local macro_rules | `(tactic| walk_at "m rds") => `(tactic| first | exact RdAll.nil | (refine' RdAll.cons ?m1 ?m2; (case m1 => walk_at "m rd"); (case m2 => walk_at "m rds")))
local macro_rules | `(tactic| walk_at "m end") => `(tactic| ((with_reducible rename RetK _ _ _ _ _ _ _ _ => kret); (with_reducible rename News _ _ _ _ => kN'); (with_reducible rename (_ = Dat.list _) => ke'); exact ret_extK kret (by k_asm) kN' (by walk_at "m extk") (rd_listOf (by walk_at "m mem") (by walk_at "m rds")) ke'))
local macro_rules | `(tactic| walk_at "m extk") => `(tactic| first | exact extk_nil | (apply extk_cons; (first | assumption | (k_dflt exact lt_all (by assumption)) | exact lt_two (by assumption) (by assumption)); walk_at "m extk") | (apply extk_app; assumption; walk_at "m extk"))
local macro_rules | `(tactic| walk_at "newList") => `(tactic| (k_here; k_dflt (refine' newList_K ?k1 ?k2 ?_; (case k1 => k_asm); (case k2 => k_asm); k_whole); intro l' h' F' N' l1; (try k_sweep)))
local macro_rules | `(tactic| walk_at "m idx") => `(tactic| first | exact at_0 | exact at_1 | exact at_2 | exact at_3 | exact at_4 | exact at_5 | exact at_6)
local macro_rules | `(tactic| walk_at "m cf") => `(tactic| first | exact cf_342 | exact cf_361 | exact cf_402 | exact cf_418 | exact cf_294)
local macro_rules | `(tactic| walk_at "m fa") => `(tactic| first | exact fa_342 | exact fa_361 | exact fa_402 | exact fa_418 | exact fa_294)
local macro_rules | `(tactic| walk_at "m fj") => `(tactic| first | exact fj_342 | exact fj_361 | exact fj_402 | exact fj_418 | exact fj_294)
local macro_rules | `(tactic| walk_at "call ref") => `(tactic| (k_here; (with_reducible show wpAny _ _ (call (Value.ref 514) _) _ _ _); k_dflt (refine' c_kindedO (ds := [readD _ true 1, readD _ true 2, readD _ true 3, readD _ true 4, readD _ true 5]) ⟨?kB, ?kF, ?kX, ?kN, ?kT, ?kk, ?kA, ?kh, ?kd, ?ku⟩ ?hr ?hf ?hb ?_; (case kB => k_asm); (case kF => k_asm); (case kX => k_asm); (case kN => k_asm); (case kT => k_asm); (case kA => exact rfl); (case kk => exact rfl); (case kh => exact rfl); (case kd => ktr_room); (case ku => ktr_units); (case hr => exact rd_listOf (by walk_at "m mem") (by walk_at "m rdv")); (case hf => walk_at "m kn"); (case hb => exact Nat.le_of_ble_eq_true rfl); k_whole); intro r' h' tk' tl' F' N' ne' rd'; (obtain ⟨a', e'⟩ := rd_ref rd'); subst e'; (try k_sweep)))
local macro_rules | `(tactic| walk_at "m rdv") => `(tactic| first | exact RdAll.nil | (refine' RdAll.cons (rd_nil (by assumption)) ?rest; (case rest => walk_at "m rdv")) | (refine' RdAll.cons (rd_flat (by assumption) (flat_frame _)) ?rest; (case rest => walk_at "m rdv")))
local macro_rules | `(tactic| walk_at "m kn") => `(tactic| first | exact kinds_nil | (refine' kinds_cons (kinds_read _ _ _) ?rest; (case rest => walk_at "m kn")) | (refine' kinds_cons (kinds_frame _) ?rest; (case rest => walk_at "m kn")))
set_option maxRecDepth 100000 in
set_option maxHeartbeats 8000000 in
theorem c_read20 {x dx l : Addr} {k2 k3 t2 : Tok} {mk : Str} {nd n : Nat} {vs : List Value} {ws : List Str} {dd : Dat} (C : Cx w mean mg mb A A₀ base h₀ [] cn cs a ccd [] L m ((x, instObj 402 dx) :: (dx, dictOf [⟨PyData.keyHash w.params (Str.ofString "manufacturer"), .str (Str.ofString "manufacturer") k2, .str mk t2⟩, ⟨PyData.keyHash w.params (Str.ofString "data"), .str (Str.ofString "data") k3, .ref l⟩] nd) :: (l, listOf vs.toArray n) :: news) s.heap 30) (XB : (hd.heap_39 w.params).In base) (TB : Top hd.view_39 LL mean mg mb base) (hS : StrsAre vs ws) (hb : ws.length ≤ 10) (hw : ∀ x ∈ ws, WordOk x) (he : dd = .list [txtD "SXN20", .str mk, txtD "", lstD ws, .list (([readD ws true 1, readD ws true 2, readD ws true 3, readD ws true 4, readD ws true 5]).map kindD)])
    (ret : RetK h₀ L m ((x, instObj 402 dx) :: (dx, dictOf [⟨PyData.keyHash w.params (Str.ofString "manufacturer"), .str (Str.ofString "manufacturer") k2, .str mk t2⟩, ⟨PyData.keyHash w.params (Str.ofString "data"), .str (Str.ofString "data") k3, .ref l⟩] nd) :: (l, listOf vs.toArray n) :: news) ([(l, listOf vs.toArray n)]) s Q dd) :
    wpC (model PySem.Challenge.rw_ez0290_01.row.prog w) A (call (.ref 521) [.ref x]) Q E s := by
  w_top off
  k_with_none
  obtain ⟨B, F, X, N, T, hk, hA, hh, hdp, hun⟩ := C
  obtain ⟨hd, dp, fr, gd, un⟩ := A
  dsimp only at hA hh hdp hun
  subst hA hh
  revert X; k_fill; intro X
  refine wpC_call ?_
  k_dflt (refine' code_defS0C (binds := [(Str.ofString "msg", .ref x)]) ?k1 ?k2 ?k3 ?k4 ?k5 ?kA ?k6 ?k7 ?k8 ?k9 ?kB ?_ ?kK ?c2 ?c3 ?c4 ?c5; (case kA => exact rfl); (case kK => assumption); (case k1 => k_asm); (case k2 => k_asm); (case k3 => k_asm); (case k4 => k_asm); (case k5 => k_asm); (case k6 => k_is); (case k7 => k_is); (case k8 => ktr_room); (case k9 => exact BindsTo.of_eq rfl); (case c5 => decide); (case kB => exact locs rfl); (case c2 => exact rfl); (case c3 => exact rfl); (case c4 => exact rfl); k_whole; intro g' L' h' FG' F' N' B' X' T' D'; (try dsimp only); (try k_fold))
  have T0 := KtsTurn.refl (fs := [envOf cn cs L a ccd].filterMap (·.frame)) (g := g')
  refine wpC_execs_app (l₁ := [_, _, _]) (l₂ := _ :: _) ?_
  k_steps
  dsimp only
  refine wpC_execs_cons (wpC_If (wpC_of ?_))
  k_steps
  refine wpC_execs_cons (wpC_Return (wpC_List ?_))
  refine wpC_args_cons (wpC_of ?_)
  k_steps
  refine wpC_args_cons (wpC_of ?_)
  k_steps
  refine wpC_args_cons (wpC_of ?_)
  k_steps
  refine wpC_args_cons (wpC_of ?_)
  k_steps
  refine wpC_args_cons (wpC_Call (wpC_of ?_))
  k_steps
  refine wpC_callF ?_
  refine wpC_args_cons (wpC_List ?_)
  refine wpC_args_cons (wpC_Attribute (wpC_of ?_))
  k_steps
  k_dflt (refine' attr_int (fl := fl_402) (i := 1) ⟨?kB, ?kF, ?kX, ?kN, ?kT, ?kk, ?kA, ?kh, ?kd, ?ku⟩ XB TB ?kD gf_402 cf_402 fa_402 fj_402 ?sh ?hi hS hb hw ?hD ?hM ?hc ?ha ?_; (case kF => k_asm); (case kB => k_asm); (case kX => k_asm); (case kN => first | k_asm | exact news_1 (by k_asm)); (case kT => k_asm); (case kA => exact rfl); (case kk => exact rfl); (case kh => exact rfl); (case kd => ktr_room); (case ku => ktr_units); (case kD => k_asm); (case sh => decide); (case hi => exact at_1); (case hD => k_get); (case hM => k_get); (case hc => decide +kernel); (case ha => kernel_rfl))
  intro r' h' tk' g'' U' F' N' B' X' T' D' d'
  replace T0 := T0.trans U'
  refine wpC_args_cons (wpC_Attribute (wpC_of ?_))
  k_steps
  k_dflt (refine' attr_int (fl := fl_402) (i := 2) ⟨?kB, ?kF, ?kX, ?kN, ?kT, ?kk, ?kA, ?kh, ?kd, ?ku⟩ XB TB ?kD gf_402 cf_402 fa_402 fj_402 ?sh ?hi hS hb hw ?hD ?hM ?hc ?ha ?_; (case kF => k_asm); (case kB => k_asm); (case kX => k_asm); (case kN => first | k_asm | exact news_1 (by k_asm)); (case kT => k_asm); (case kA => exact rfl); (case kk => exact rfl); (case kh => exact rfl); (case kd => ktr_room); (case ku => ktr_units); (case kD => k_asm); (case sh => decide); (case hi => exact at_2); (case hD => k_get); (case hM => k_get); (case hc => decide +kernel); (case ha => kernel_rfl))
  intro r' h' tk' g'' U' F' N' B' X' T' D' d'
  replace T0 := T0.trans U'
  refine wpC_args_cons (wpC_Attribute (wpC_of ?_))
  k_steps
  k_dflt (refine' attr_int (fl := fl_402) (i := 3) ⟨?kB, ?kF, ?kX, ?kN, ?kT, ?kk, ?kA, ?kh, ?kd, ?ku⟩ XB TB ?kD gf_402 cf_402 fa_402 fj_402 ?sh ?hi hS hb hw ?hD ?hM ?hc ?ha ?_; (case kF => k_asm); (case kB => k_asm); (case kX => k_asm); (case kN => first | k_asm | exact news_1 (by k_asm)); (case kT => k_asm); (case kA => exact rfl); (case kk => exact rfl); (case kh => exact rfl); (case kd => ktr_room); (case ku => ktr_units); (case kD => k_asm); (case sh => decide); (case hi => exact at_3); (case hD => k_get); (case hM => k_get); (case hc => decide +kernel); (case ha => kernel_rfl))
  intro r' h' tk' g'' U' F' N' B' X' T' D' d'
  replace T0 := T0.trans U'
  refine wpC_args_cons (wpC_Attribute (wpC_of ?_))
  k_steps
  k_dflt (refine' attr_int (fl := fl_402) (i := 4) ⟨?kB, ?kF, ?kX, ?kN, ?kT, ?kk, ?kA, ?kh, ?kd, ?ku⟩ XB TB ?kD gf_402 cf_402 fa_402 fj_402 ?sh ?hi hS hb hw ?hD ?hM ?hc ?ha ?_; (case kF => k_asm); (case kB => k_asm); (case kX => k_asm); (case kN => first | k_asm | exact news_1 (by k_asm)); (case kT => k_asm); (case kA => exact rfl); (case kk => exact rfl); (case kh => exact rfl); (case kd => ktr_room); (case ku => ktr_units); (case kD => k_asm); (case sh => decide); (case hi => exact at_4); (case hD => k_get); (case hM => k_get); (case hc => decide +kernel); (case ha => kernel_rfl))
  intro r' h' tk' g'' U' F' N' B' X' T' D' d'
  replace T0 := T0.trans U'
  refine wpC_args_cons (wpC_Attribute (wpC_of ?_))
  k_steps
  k_dflt (refine' attr_int (fl := fl_402) (i := 5) ⟨?kB, ?kF, ?kX, ?kN, ?kT, ?kk, ?kA, ?kh, ?kd, ?ku⟩ XB TB ?kD gf_402 cf_402 fa_402 fj_402 ?sh ?hi hS hb hw ?hD ?hM ?hc ?ha ?_; (case kF => k_asm); (case kB => k_asm); (case kX => k_asm); (case kN => first | k_asm | exact news_1 (by k_asm)); (case kT => k_asm); (case kA => exact rfl); (case kk => exact rfl); (case kh => exact rfl); (case kd => ktr_room); (case ku => ktr_units); (case kD => k_asm); (case sh => decide); (case hi => exact at_5); (case hD => k_get); (case hM => k_get); (case hc => decide +kernel); (case ha => kernel_rfl))
  intro r' h' tk' g'' U' F' N' B' X' T' D' d'
  replace T0 := T0.trans U'
  refine wpC_args_nil (wpC_of ?_)
  k_steps
  refine wpC_args_nil ⟨fn_obj (Frag.In.keeps (by k_asm) (Fr.keep (by k_asm))) fn_514, wpC_of ?_⟩
  k_steps
  refine wpC_args_nil (wpC_of ?_)
  k_steps
  all_goals walk_at "m end"
end Mine
end

section
open PySem PySem.W PySem.W.X PySem.Spec PySem.Calls PyProof.Rows
namespace Mine
local macro_rules | `(tactic| walk_at "no such key") => `(tactic| fail "none")
local macro_rules | `(tactic| k_room) => `(tactic| ktr_room)
local macro_rules | `(tactic| units_room) => `(tactic| ktr_units)
local macro_rules | `(tactic| k_units) => `(tactic| ktr_units)
local macro_rules | `(tactic| walk_at "call builtin:len") => `(tactic| (k_here; (with_reducible show wpAny _ _ (call (Value.builtin "len") [Value.ref _]) _ _ _); k_dflt (refine' len_txt ?k1 ?k2 ?k3 ?_; (case k1 => first | is_list | exact News.isList (by k_asm) (by k_mem)); (case k2 => with_reducible assumption); (case k3 => omega); k_whole)))
local macro_rules | `(tactic| walk_at "subscriptTail") => `(tactic| (k_here; (with_reducible show wpAny _ _ (subscriptTail _ _ (Value.ref _) (Value.int _ _)) _ _ _); (with_unfolding_all refine' item_txt ?k1 ?k2 ?k3 ?k4 ?k5 ?_ ?k6 ?k7; (case k1 => first | is_list | exact News.isList (by k_asm) (by k_mem)); (case k2 => with_reducible assumption); (case k3 => omega); (case k4 => first | decide | omega); (case k5 => omega); (case k6 => with_unfolding_all rfl); (case k7 => intro _; with_unfolding_all rfl); k_whole); intro _))
variable {w : World} {mean : ExcName → Option Value} {mg mb : Str → Option Value} {A A₀ : Around} {cn : Str} {cs : Scope} {a : Addr} {ccd : Value} {cl : List (Str × Addr)} {outer : List Env} {base h₀ : Heap} {L : Addr} {m : Str → Option Value} {news : List (Addr × Obj)} {s : Shared} {Q E : Value → Shared → Prop}
local macro_rules | `(tactic| walk_at "m mem") => `(tactic| first | exact List.mem_cons_self | (refine List.mem_cons_of_mem _ ?_; walk_at "m mem") | (refine List.mem_append_right _ ?_; walk_at "m mem") | assumption)
local macro_rules | `(tactic| walk_at "m gf") => `(tactic| first | exact gf_342 | exact gf_361 | exact gf_323 | exact gf_274 | exact gf_294 | exact gf_254 | exact gf_402 | exact gf_418 | exact gf_382 | exact gf_218)
local macro_rules | `(tactic| walk_at "getAttr ref") => `(tactic| (k_here; k_dflt (refine' get_own2 ?k1 ?k2 ?k3 ?k4 ?k5 ?k6 ?k7 ?k8 ?_; (case k1 => k_asm); (case k2 => k_asm); (case k3 => k_inst); (case k4 => apply GetF.ga; walk_at "m gf"); (case k5 => apply GetF.dict; walk_at "m gf"); (case k6 => first | (apply GetF.m3; walk_at "m gf") | (apply GetF.m1; walk_at "m gf") | (apply GetF.m2; walk_at "m gf")); (case k7 => k_get); (case k8 => k_handed)); k_whole))
local macro_rules | `(tactic| walk_at "m ext") => `(tactic| repeat' (first | exact ext_nil | (refine ext_cons (by first | assumption | (k_dflt exact lt_all (by assumption)) | exact lt_two (by assumption) (by assumption)) ?_) | (refine ext_app (by assumption) ?_)))
local macro_rules | `(tactic| walk_at "m hf") => `(tactic| first | exact hf_342 | exact hf_361 | exact hf_323 | exact hf_274 | exact hf_294 | exact hf_254 | exact hf_402 | exact hf_418 | exact hf_382 | exact hf_218)
local macro_rules | `(tactic| walk_at "call builtin:isinstance") => `(tactic| (k_here; (with_reducible show wpAny _ _ (call _ [Value.ref _, Value.ref _]) _ _ _); k_dflt (first
  | (refine' hk_tup ?c ?Z ?X ?p ?ee ?_; (case c => k_inst); (case X => k_in); (case Z => walk_at "m hf"); (case p => kit_tp); (case ee => kit_is); k_whole; intro _)
  | (refine' hk_one ?c ?Z ?X ?ee ?_; (case c => k_inst); (case X => k_in); (case Z => walk_at "m hf"); (case ee => kit_is); k_whole; intro _))))
local macro_rules | `(tactic| walk_at "m sub") => `(tactic| (intro p' hp'; repeat' (first | exact hp' | exact List.mem_append_left _ hp' | exact List.mem_cons_of_mem _ hp' | refine List.mem_cons_of_mem _ ?_ | refine List.mem_append_right _ ?_)))
local macro_rules | `(tactic| walk_at "m rd") => `(tactic| first | exact RdIn.str _ _ | exact RdIn.none | exact RdIn.bool _ | exact RdIn.int _ _ | (refine' RdIn.mono ?ms (by assumption); (case ms => walk_at "m sub")) | exact rd_listOf (by walk_at "m mem") RdAll.nil | (refine' rd_txt ?mm ?ma; (case mm => walk_at "m mem"); (case ma => assumption)))
local macro_rules | `(tactic| walk_at "m rds") => `(tactic| first | exact RdAll.nil | (refine' RdAll.cons ?m1 ?m2; (case m1 => walk_at "m rd"); (case m2 => walk_at "m rds")))
local macro_rules | `(tactic| walk_at "m end") => `(tactic| ((with_reducible rename RetK _ _ _ _ _ _ _ _ => kret); (with_reducible rename News _ _ _ _ => kN'); (with_reducible rename (_ = Dat.list _) => ke'); exact ret_extK kret (by k_asm) kN' (by walk_at "m extk") (rd_listOf (by walk_at "m mem") (by walk_at "m rds")) ke'))
local macro_rules | `(tactic| walk_at "m extk") => `(tactic| first | exact extk_nil | (apply extk_cons; (first | assumption | (k_dflt exact lt_all (by assumption)) | exact lt_two (by assumption) (by assumption)); walk_at "m extk") | (apply extk_app; assumption; walk_at "m extk"))
local macro_rules | `(tactic| walk_at "newList") => `(tactic| (k_here; k_dflt (refine' newList_K ?k1 ?k2 ?_; (case k1 => k_asm); (case k2 => k_asm); k_whole); intro l' h' F' N' l1; (try k_sweep)))
local macro_rules | `(tactic| walk_at "m idx") => `(tactic| first | exact at_0 | exact at_1 | exact at_2 | exact at_3 | exact at_4 | exact at_5 | exact at_6)
local macro_rules | `(tactic| walk_at "m cf") => `(tactic| first | exact cf_342 | exact cf_361 | exact cf_402 | exact cf_418 | exact cf_294)
local macro_rules | `(tactic| walk_at "m fa") => `(tactic| first | exact fa_342 | exact fa_361 | exact fa_402 | exact fa_418 | exact fa_294)
local macro_rules | `(tactic| walk_at "m fj") => `(tactic| first | exact fj_342 | exact fj_361 | exact fj_402 | exact fj_418 | exact fj_294)
local macro_rules | `(tactic| walk_at "getAttr ref") => `(tactic| (k_here; k_dflt (refine' attr_str ⟨?kB, ?kF, ?kX, ?kN, ?kT, ?kk, ?kA, ?kh, ?kd, ?ku⟩ ?gf ?cf ?fa ?fj ?sh ?hi ?h6 ?hS ?hb ?hD ?hM ?hc ?ha ?_; (case kB => k_asm); (case kF => k_asm); (case kX => k_asm); (case kN => k_asm); (case kT => k_asm); (case kA => exact rfl); (case kk => exact rfl); (case kh => exact rfl); (case kd => ktr_room); (case ku => ktr_units); (case gf => walk_at "m gf"); (case cf => walk_at "m cf"); (case fa => walk_at "m fa"); (case fj => walk_at "m fj"); (case sh => decide); (case hi => walk_at "m idx"); (case h6 => exact rfl); (case hS => assumption); (case hb => omega); (case hD => k_get); (case hM => k_get); (case hc => decide +kernel); (case ha => kernel_rfl); k_whole); intro r' h' tk' F' N' d'))
local macro_rules | `(tactic| walk_at "call ref") => `(tactic| (k_here; (with_reducible show wpAny _ _ (call (Value.ref 514) _) _ _ _); k_dflt (refine' c_kindedO (ds := [readD _ true 0, readD _ true 1, readD _ true 2, readD _ true 3, frameD _]) ⟨?kB, ?kF, ?kX, ?kN, ?kT, ?kk, ?kA, ?kh, ?kd, ?ku⟩ ?hr ?hf ?hb ?_; (case kB => k_asm); (case kF => k_asm); (case kX => k_asm); (case kN => k_asm); (case kT => k_asm); (case kA => exact rfl); (case kk => exact rfl); (case kh => exact rfl); (case kd => ktr_room); (case ku => ktr_units); (case hr => exact rd_listOf (by walk_at "m mem") (by walk_at "m rdv")); (case hf => walk_at "m kn"); (case hb => exact Nat.le_of_ble_eq_true rfl); k_whole); intro r' h' tk' tl' F' N' ne' rd'; (obtain ⟨a', e'⟩ := rd_ref rd'); subst e'; (try k_sweep)))
local macro_rules | `(tactic| walk_at "m rdv") => `(tactic| first | exact RdAll.nil | (refine' RdAll.cons (rd_nil (by assumption)) ?rest; (case rest => walk_at "m rdv")) | (refine' RdAll.cons (rd_flat (by assumption) (flat_frame _)) ?rest; (case rest => walk_at "m rdv")))
local macro_rules | `(tactic| walk_at "m kn") => `(tactic| first | exact kinds_nil | (refine' kinds_cons (kinds_read _ _ _) ?rest; (case rest => walk_at "m kn")) | (refine' kinds_cons (kinds_frame _) ?rest; (case rest => walk_at "m kn")))
set_option maxRecDepth 100000 in
set_option maxHeartbeats 8000000 in
theorem c_readI1 {x dx l : Addr} {k1 k2 k3 t1 t2 : Tok} {st mk : Str} {nd n : Nat} {vs : List Value} {ws : List Str} {dd : Dat} (C : Cx w mean mg mb A A₀ base h₀ [] cn cs a ccd [] L m ((x, instObj 294 dx) :: (dx, dictOf [⟨PyData.keyHash w.params (Str.ofString "sentence_type"), .str (Str.ofString "sentence_type") k1, .str st t1⟩, ⟨PyData.keyHash w.params (Str.ofString "manufacturer"), .str (Str.ofString "manufacturer") k2, .str mk t2⟩, ⟨PyData.keyHash w.params (Str.ofString "data"), .str (Str.ofString "data") k3, .ref l⟩] nd) :: (l, listOf vs.toArray n) :: news) s.heap 30) (XB : (hd.heap_39 w.params).In base) (TB : Top hd.view_39 LL mean mg mb base) (hS : StrsAre vs ws) (hb : ws.length ≤ 10) (hw : ∀ x ∈ ws, WordOk x) (he : dd = .list [txtD "NORI1", .str mk, .str st, lstD ws, .list (([readD ws true 0, readD ws true 1, readD ws true 2, readD ws true 3, frameD ws]).map kindD)])
    (ret : RetK h₀ L m ((x, instObj 294 dx) :: (dx, dictOf [⟨PyData.keyHash w.params (Str.ofString "sentence_type"), .str (Str.ofString "sentence_type") k1, .str st t1⟩, ⟨PyData.keyHash w.params (Str.ofString "manufacturer"), .str (Str.ofString "manufacturer") k2, .str mk t2⟩, ⟨PyData.keyHash w.params (Str.ofString "data"), .str (Str.ofString "data") k3, .ref l⟩] nd) :: (l, listOf vs.toArray n) :: news) ([(l, listOf vs.toArray n)]) s Q dd) :
    wpC (model PySem.Challenge.rw_ez0290_01.row.prog w) A (call (.ref 521) [.ref x]) Q E s := by
  w_top off
  k_with_none
  obtain ⟨B, F, X, N, T, hk, hA, hh, hdp, hun⟩ := C
  obtain ⟨hd, dp, fr, gd, un⟩ := A
  dsimp only at hA hh hdp hun
  subst hA hh
  revert X; k_fill; intro X
  refine wpC_call ?_
  k_dflt (refine' code_defS0C (binds := [(Str.ofString "msg", .ref x)]) ?k1 ?k2 ?k3 ?k4 ?k5 ?kA ?k6 ?k7 ?k8 ?k9 ?kB ?_ ?kK ?c2 ?c3 ?c4 ?c5; (case kA => exact rfl); (case kK => assumption); (case k1 => k_asm); (case k2 => k_asm); (case k3 => k_asm); (case k4 => k_asm); (case k5 => k_asm); (case k6 => k_is); (case k7 => k_is); (case k8 => ktr_room); (case k9 => exact BindsTo.of_eq rfl); (case c5 => decide); (case kB => exact locs rfl); (case c2 => exact rfl); (case c3 => exact rfl); (case c4 => exact rfl); k_whole; intro g' L' h' FG' F' N' B' X' T' D'; (try dsimp only); (try k_fold))
  have T0 := KtsTurn.refl (fs := [envOf cn cs L a ccd].filterMap (·.frame)) (g := g')
  refine wpC_execs_app (l₁ := [_, _, _, _, _, _, _]) (l₂ := _ :: _) ?_
  k_steps
  dsimp only
  refine wpC_execs_cons (wpC_If (wpC_of ?_))
  k_steps
  refine wpC_execs_cons (wpC_Return (wpC_List ?_))
  refine wpC_args_cons (wpC_of ?_)
  k_steps
  refine wpC_args_cons (wpC_of ?_)
  k_steps
  refine wpC_args_cons (wpC_of ?_)
  k_steps
  refine wpC_args_cons (wpC_of ?_)
  k_steps
  refine wpC_args_cons (wpC_Call (wpC_of ?_))
  k_steps
  refine wpC_callF ?_
  refine wpC_args_cons (wpC_List ?_)
  refine wpC_args_cons (wpC_Attribute (wpC_of ?_))
  k_steps
  k_dflt (refine' attr_int (fl := fl_294) (i := 0) ⟨?kB, ?kF, ?kX, ?kN, ?kT, ?kk, ?kA, ?kh, ?kd, ?ku⟩ XB TB ?kD gf_294 cf_294 fa_294 fj_294 ?sh ?hi hS hb hw ?hD ?hM ?hc ?ha ?_; (case kF => k_asm); (case kB => k_asm); (case kX => k_asm); (case kN => first | k_asm | exact news_1 (by k_asm)); (case kT => k_asm); (case kA => exact rfl); (case kk => exact rfl); (case kh => exact rfl); (case kd => ktr_room); (case ku => ktr_units); (case kD => k_asm); (case sh => decide); (case hi => exact at_0); (case hD => k_get); (case hM => k_get); (case hc => decide +kernel); (case ha => kernel_rfl))
  intro r' h' tk' g'' U' F' N' B' X' T' D' d'
  replace T0 := T0.trans U'
  refine wpC_args_cons (wpC_Attribute (wpC_of ?_))
  k_steps
  k_dflt (refine' attr_int (fl := fl_294) (i := 1) ⟨?kB, ?kF, ?kX, ?kN, ?kT, ?kk, ?kA, ?kh, ?kd, ?ku⟩ XB TB ?kD gf_294 cf_294 fa_294 fj_294 ?sh ?hi hS hb hw ?hD ?hM ?hc ?ha ?_; (case kF => k_asm); (case kB => k_asm); (case kX => k_asm); (case kN => first | k_asm | exact news_1 (by k_asm)); (case kT => k_asm); (case kA => exact rfl); (case kk => exact rfl); (case kh => exact rfl); (case kd => ktr_room); (case ku => ktr_units); (case kD => k_asm); (case sh => decide); (case hi => exact at_1); (case hD => k_get); (case hM => k_get); (case hc => decide +kernel); (case ha => kernel_rfl))
  intro r' h' tk' g'' U' F' N' B' X' T' D' d'
  replace T0 := T0.trans U'
  refine wpC_args_cons (wpC_Attribute (wpC_of ?_))
  k_steps
  k_dflt (refine' attr_int (fl := fl_294) (i := 2) ⟨?kB, ?kF, ?kX, ?kN, ?kT, ?kk, ?kA, ?kh, ?kd, ?ku⟩ XB TB ?kD gf_294 cf_294 fa_294 fj_294 ?sh ?hi hS hb hw ?hD ?hM ?hc ?ha ?_; (case kF => k_asm); (case kB => k_asm); (case kX => k_asm); (case kN => first | k_asm | exact news_1 (by k_asm)); (case kT => k_asm); (case kA => exact rfl); (case kk => exact rfl); (case kh => exact rfl); (case kd => ktr_room); (case ku => ktr_units); (case kD => k_asm); (case sh => decide); (case hi => exact at_2); (case hD => k_get); (case hM => k_get); (case hc => decide +kernel); (case ha => kernel_rfl))
  intro r' h' tk' g'' U' F' N' B' X' T' D' d'
  replace T0 := T0.trans U'
  refine wpC_args_cons (wpC_Attribute (wpC_of ?_))
  k_steps
  k_dflt (refine' attr_int (fl := fl_294) (i := 3) ⟨?kB, ?kF, ?kX, ?kN, ?kT, ?kk, ?kA, ?kh, ?kd, ?ku⟩ XB TB ?kD gf_294 cf_294 fa_294 fj_294 ?sh ?hi hS hb hw ?hD ?hM ?hc ?ha ?_; (case kF => k_asm); (case kB => k_asm); (case kX => k_asm); (case kN => first | k_asm | exact news_1 (by k_asm)); (case kT => k_asm); (case kA => exact rfl); (case kk => exact rfl); (case kh => exact rfl); (case kd => ktr_room); (case ku => ktr_units); (case kD => k_asm); (case sh => decide); (case hi => exact at_3); (case hD => k_get); (case hM => k_get); (case hc => decide +kernel); (case ha => kernel_rfl))
  intro r' h' tk' g'' U' F' N' B' X' T' D' d'
  replace T0 := T0.trans U'
  refine wpC_args_cons (wpC_of ?_)
  k_steps
  refine wpC_args_nil (wpC_of ?_)
  k_steps
  refine wpC_args_nil ⟨fn_obj (Frag.In.keeps (by k_asm) (Fr.keep (by k_asm))) fn_514, wpC_of ?_⟩
  k_steps
  refine wpC_args_nil (wpC_of ?_)
  k_steps
  all_goals walk_at "m end"
end Mine
end

section
open PySem PySem.W PySem.Spec PySem.Calls PyProof.Rows
set_option maxRecDepth 100000
namespace Mine
/-- what _law_read makes of a message, told in the law's own frame -/
def ReadC (w : World) (mean : ExcName → Option Value) (mg mb : Str → Option Value) (MM : List (Addr × Obj) → Addr → Prop) (dd : Dat) : Prop :=
  ∀ (A A₀ : Around) (base h₀ : Heap) (cn : Str) (cs : Scope) (a : Addr) (ccd : Value) (L : Addr) (m : Str → Option Value) (news : List (Addr × Obj)) (s : Shared) (Q E : Value → Shared → Prop) (x : Addr),
    Cx w mean mg mb A A₀ base h₀ [] cn cs a ccd [] L m news s.heap 31 → (hd.heap_39 w.params).In base → Top hd.view_39 LL mean mg mb base → MM news x →
    (∀ r h' tk' tl l vs n ds, Fr h₀ L h' m → News h₀ L h' (tl ++ news) → (∀ q ∈ news, ∀ p ∈ tl, p.1 ≠ q.1) → (l, listOf vs.toArray n) ∈ news → StrsAre vs ds → ds ≠ [] → RdIn (tl ++ [(l, listOf vs.toArray n)]) r dd → Q r { s with heap := h', toks := tk' }) →
    wpC (model PySem.Challenge.rw_ez0290_01.row.prog w) A (call (.ref 521) [.ref x]) Q E s
/-- what a message says when it is rendered -/
def RenC (w : World) (mean : ExcName → Option Value) (mg mb : Str → Option Value) (MM : List (Addr × Obj) → Addr → Prop) (out : Str) : Prop :=
  ∀ (A A₀ : Around) (base h₀ : Heap) (outer : List Env) (cn : Str) (cs : Scope) (a : Addr) (ccd : Value) (cl : List (Str × Addr)) (L : Addr) (m : Str → Option Value) (news : List (Addr × Obj)) (s : Shared) (Q E : Value → Shared → Prop) (x : Addr),
    Cx w mean mg mb A A₀ base h₀ outer cn cs a ccd cl L m news s.heap 41 → MM news x →
    (∀ t h' tk', Fr h₀ L h' m → News h₀ L h' news → Q (.str out t) { s with heap := h', toks := tk' }) →
    codeAny (model PySem.Challenge.rw_ez0290_01.row.prog w) A (.call (.ref 154) ⟨[.ref x, .bool true, .bool true, .bool false], []⟩) (fun r s' => match r with | .ok (.ret v) => Q v s' | .ok _ => False | .error e => E e s') s
/-- an object with its dictionary, for the method alone -/
def InsG (led : List (Addr × Obj)) (x Kl : Addr) : Prop := ∃ dx es nd, (x, instObj Kl dx) ∈ led ∧ (dx, dictOf es nd) ∈ led ∧ getL (Str.ofString "render") es = some none
section
variable {w : World} {mean : ExcName → Option Value} {mg mb : Str → Option Value} {A A₀ : Around} {cn : Str} {cs : Scope} {a : Addr} {ccd : Value} {cl : List (Str × Addr)} {outer : List Env} {base h₀ h : Heap} {L : Addr} {m : Str → Option Value} {news news' : List (Addr × Obj)}
theorem Cx.sub {k j : Nat} (C : Cx w mean mg mb A A₀ base h₀ outer cn cs a ccd cl L m news h k) (hs : ∀ p ∈ news', p ∈ news) (hj : j ≤ k) : Cx w mean mg mb A A₀ base h₀ outer cn cs a ccd cl L m news' h j :=
  ⟨C.B, C.F, C.X, fun p hp => C.N p (hs p hp), C.T, C.hk, C.hA, C.hh, by have := C.hdp; omega, by have := C.hun; omega⟩
theorem sub3 {p q r : Addr × Obj} (hp : p ∈ news) (hq : q ∈ news) (hr : r ∈ news) : ∀ z ∈ p :: q :: r :: news, z ∈ news := fun z hz => by
  rcases List.mem_cons.mp hz with rfl | hz
  · exact hp
  · rcases List.mem_cons.mp hz with rfl | hz
    · exact hq
    · rcases List.mem_cons.mp hz with rfl | hz
      · exact hr
      · exact hz
theorem app3 {tl : List (Addr × Obj)} {p q r : Addr × Obj} : ∀ z ∈ tl ++ news, z ∈ tl ++ p :: q :: r :: news := fun z hz => by
  rcases List.mem_append.mp hz with hz | hz
  · exact List.mem_append_left _ hz
  · exact List.mem_append_right _ (.tail _ (.tail _ (.tail _ hz)))
end
theorem rc_SRF {w : World} {mean : ExcName → Option Value} {mg mb : Str → Option Value} {st mk : Str} {ds : List Str} {dd : Dat} (hb : ds.length ≤ 10) (hne : ds ≠ []) (he : dd = .list [txtD "SRF", .str mk, .str st, lstD ds, .list []]) : ReadC w mean mg mb (fun led x => MsgS w led x 323 st mk ds) dd := by
  intro A A₀ base h₀ cn cs a ccd L m news s Q E x C XB TB M ret
  obtain ⟨dx, l, k1, k2, k3, t1, t2, nd, n, vs, a1, a2, a3, hS⟩ := M
  exact wpC_of (c_readSRF (C.sub (sub3 a1 a2 a3) (by decide)) hS hb he fun r h' tk' tl F' N' off rd => ret r h' tk' tl l vs n ds F' (fun p hp => N' p (app3 p hp)) (fun q hq => off q (.tail _ (.tail _ (.tail _ hq)))) a3 hS hne rd)
theorem rc_SXN {w : World} {mean : ExcName → Option Value} {mg mb : Str → Option Value} {mk : Str} {ds : List Str} {dd : Dat} (hb : ds.length ≤ 10) (hne : ds ≠ []) (he : dd = .list [txtD "SXN", .str mk, txtD "", lstD ds, .list []]) : ReadC w mean mg mb (fun led x => MsgP w led x 382 mk ds) dd := by
  intro A A₀ base h₀ cn cs a ccd L m news s Q E x C XB TB M ret
  obtain ⟨dx, l, k2, k3, t2, nd, n, vs, a1, a2, a3, hS⟩ := M
  exact wpC_of (c_readSXN (C.sub (sub3 a1 a2 a3) (by decide)) hS hb he fun r h' tk' tl F' N' off rd => ret r h' tk' tl l vs n ds F' (fun p hp => N' p (app3 p hp)) (fun q hq => off q (.tail _ (.tail _ (.tail _ hq)))) a3 hS hne rd)
theorem rc_NOR {w : World} {mean : ExcName → Option Value} {mg mb : Str → Option Value} {st mk : Str} {ds : List Str} {dd : Dat} (hb : ds.length ≤ 10) (hne : ds ≠ []) (he : dd = .list [txtD "NOR", .str mk, .str st, lstD ds, .list []]) : ReadC w mean mg mb (fun led x => MsgS w led x 254 st mk ds) dd := by
  intro A A₀ base h₀ cn cs a ccd L m news s Q E x C XB TB M ret
  obtain ⟨dx, l, k1, k2, k3, t1, t2, nd, n, vs, a1, a2, a3, hS⟩ := M
  exact wpC_of (c_readNOR (C.sub (sub3 a1 a2 a3) (by decide)) hS hb he fun r h' tk' tl F' N' off rd => ret r h' tk' tl l vs n ds F' (fun p hp => N' p (app3 p hp)) (fun q hq => off q (.tail _ (.tail _ (.tail _ hq)))) a3 hS hne rd)
theorem rc_WT4 {w : World} {mean : ExcName → Option Value} {mg mb : Str → Option Value} {st mk : Str} {ds : List Str} {dd : Dat} (hb : ds.length ≤ 10) (hne : ds ≠ []) (he : dd = .list [txtD "NORWT4", .str mk, .str st, lstD ds, .list []]) : ReadC w mean mg mb (fun led x => MsgS w led x 274 st mk ds) dd := by
  intro A A₀ base h₀ cn cs a ccd L m news s Q E x C XB TB M ret
  obtain ⟨dx, l, k1, k2, k3, t1, t2, nd, n, vs, a1, a2, a3, hS⟩ := M
  exact wpC_of (c_readWT4 (C.sub (sub3 a1 a2 a3) (by decide)) hS hb he fun r h' tk' tl F' N' off rd => ret r h' tk' tl l vs n ds F' (fun p hp => N' p (app3 p hp)) (fun q hq => off q (.tail _ (.tail _ (.tail _ hq)))) a3 hS hne rd)
theorem rc_P {w : World} {mean : ExcName → Option Value} {mg mb : Str → Option Value} {mk : Str} {ds : List Str} {dd : Dat} (hb : ds.length ≤ 10) (hne : ds ≠ []) (he : dd = .list [txtD "plain", .str mk, txtD "", lstD ds, .list []]) : ReadC w mean mg mb (fun led x => MsgP w led x 218 mk ds) dd := by
  intro A A₀ base h₀ cn cs a ccd L m news s Q E x C XB TB M ret
  obtain ⟨dx, l, k2, k3, t2, nd, n, vs, a1, a2, a3, hS⟩ := M
  exact wpC_of (c_readP (C.sub (sub3 a1 a2 a3) (by decide)) hS hb he fun r h' tk' tl F' N' off rd => ret r h' tk' tl l vs n ds F' (fun p hp => N' p (app3 p hp)) (fun q hq => off q (.tail _ (.tail _ (.tail _ hq)))) a3 hS hne rd)
theorem rc_103 {w : World} {mean : ExcName → Option Value} {mg mb : Str → Option Value} {st mk : Str} {ds : List Str} {dd : Dat} (hb : ds.length ≤ 10) (hne : ds ≠ []) (he : dd = .list [txtD "SRF103", .str mk, .str st, lstD ds, .list ((readsD ds false 4).map kindD)]) : ReadC w mean mg mb (fun led x => MsgS w led x 342 st mk ds) dd := by
  intro A A₀ base h₀ cn cs a ccd L m news s Q E x C XB TB M ret
  obtain ⟨dx, l, k1, k2, k3, t1, t2, nd, n, vs, a1, a2, a3, hS⟩ := M
  exact wpC_of (c_read103 (C.sub (sub3 a1 a2 a3) (by decide)) hS hb he fun r h' tk' tl F' N' off rd => ret r h' tk' tl l vs n ds F' (fun p hp => N' p (app3 p hp)) (fun q hq => off q (.tail _ (.tail _ (.tail _ hq)))) a3 hS hne rd)
theorem rc_100 {w : World} {mean : ExcName → Option Value} {mg mb : Str → Option Value} {st mk : Str} {ds : List Str} {dd : Dat} (hb : ds.length ≤ 10) (hne : ds ≠ []) (he : dd = .list [txtD "SRF100", .str mk, .str st, lstD ds, .list ((readsD ds false 6).map kindD)]) : ReadC w mean mg mb (fun led x => MsgS w led x 361 st mk ds) dd := by
  intro A A₀ base h₀ cn cs a ccd L m news s Q E x C XB TB M ret
  obtain ⟨dx, l, k1, k2, k3, t1, t2, nd, n, vs, a1, a2, a3, hS⟩ := M
  exact wpC_of (c_read100 (C.sub (sub3 a1 a2 a3) (by decide)) hS hb he fun r h' tk' tl F' N' off rd => ret r h' tk' tl l vs n ds F' (fun p hp => N' p (app3 p hp)) (fun q hq => off q (.tail _ (.tail _ (.tail _ hq)))) a3 hS hne rd)
theorem rc_21 {w : World} {mean : ExcName → Option Value} {mg mb : Str → Option Value} {mk : Str} {ds : List Str} {dd : Dat} (hb : ds.length ≤ 10) (hne : ds ≠ []) (hw : ∀ x ∈ ds, WordOk x) (he : dd = .list [txtD "SXN21", .str mk, txtD "", lstD ds, .list (([readD ds true 1, readD ds true 2]).map kindD)]) : ReadC w mean mg mb (fun led x => MsgP w led x 418 mk ds) dd := by
  intro A A₀ base h₀ cn cs a ccd L m news s Q E x C XB TB M ret
  obtain ⟨dx, l, k2, k3, t2, nd, n, vs, a1, a2, a3, hS⟩ := M
  exact c_read21 (C.sub (sub3 a1 a2 a3) (by decide)) XB TB hS hb hw he fun r h' tk' tl F' N' off rd => ret r h' tk' tl l vs n ds F' (fun p hp => N' p (app3 p hp)) (fun q hq => off q (.tail _ (.tail _ (.tail _ hq)))) a3 hS hne rd
theorem rc_20 {w : World} {mean : ExcName → Option Value} {mg mb : Str → Option Value} {mk : Str} {ds : List Str} {dd : Dat} (hb : ds.length ≤ 10) (hne : ds ≠ []) (hw : ∀ x ∈ ds, WordOk x) (he : dd = .list [txtD "SXN20", .str mk, txtD "", lstD ds, .list (([readD ds true 1, readD ds true 2, readD ds true 3, readD ds true 4, readD ds true 5]).map kindD)]) : ReadC w mean mg mb (fun led x => MsgP w led x 402 mk ds) dd := by
  intro A A₀ base h₀ cn cs a ccd L m news s Q E x C XB TB M ret
  obtain ⟨dx, l, k2, k3, t2, nd, n, vs, a1, a2, a3, hS⟩ := M
  exact c_read20 (C.sub (sub3 a1 a2 a3) (by decide)) XB TB hS hb hw he fun r h' tk' tl F' N' off rd => ret r h' tk' tl l vs n ds F' (fun p hp => N' p (app3 p hp)) (fun q hq => off q (.tail _ (.tail _ (.tail _ hq)))) a3 hS hne rd
theorem rc_I1 {w : World} {mean : ExcName → Option Value} {mg mb : Str → Option Value} {st mk : Str} {ds : List Str} {dd : Dat} (hb : ds.length ≤ 10) (hne : ds ≠ []) (hw : ∀ x ∈ ds, WordOk x) (he : dd = .list [txtD "NORI1", .str mk, .str st, lstD ds, .list (([readD ds true 0, readD ds true 1, readD ds true 2, readD ds true 3, frameD ds]).map kindD)]) : ReadC w mean mg mb (fun led x => MsgS w led x 294 st mk ds) dd := by
  intro A A₀ base h₀ cn cs a ccd L m news s Q E x C XB TB M ret
  obtain ⟨dx, l, k1, k2, k3, t1, t2, nd, n, vs, a1, a2, a3, hS⟩ := M
  exact c_readI1 (C.sub (sub3 a1 a2 a3) (by decide)) XB TB hS hb hw he fun r h' tk' tl F' N' off rd => ret r h' tk' tl l vs n ds F' (fun p hp => N' p (app3 p hp)) (fun q hq => off q (.tail _ (.tail _ (.tail _ hq)))) a3 hS hne rd
theorem re_S {w : World} {mean : ExcName → Option Value} {mg mb : Str → Option Value} {Kl : Addr} {st mk out b jn r2 : Str} {ds : List Str} {ck : Nat} (GF : GetF w Kl) (MI : MethF w Kl (Str.ofString "identifier") 215) (hb : ds.length ≤ 10) (hk5 : mk.length ≤ 5) (hj : Txt.join (Str.ofString ",") ds = jn) (hjw : (ds.map (·.length)).sum + ds.length ≤ 1000) (hjl : jn.length ≤ 300) (e1 : Str.ofString "P" ++ mk ++ jn = b) (hbl : b.length ≤ 400) (hck : ck < 128) (e2 : b.cps.all (· < 128) = true) (e3 : xorFrom b 0 b.cps.size 0 = (ck : Int)) (e4 : b ++ (Str.ofString "*" ++ hex2 ck) = r2) (e5 : Str.ofString "$" ++ r2 = out) (hr2 : r2.length ≤ 410) (hout : out.length ≤ 420) : RenC w mean mg mb (fun led x => MsgS w led x Kl st mk ds) out := by
  intro A A₀ base h₀ outer cn cs a ccd cl L m news s Q E x C M ret
  obtain ⟨dx, l, k1, k2, k3, t1, t2, nd, n, vs, a1, a2, a3, hS⟩ := M
  refine c_render215 (C.sub (sub3 a1 a2 a3) (by decide)) GF MI hS hb (by rfl) (by rfl) (by rfl) hk5 hj hjw hjl e1 hbl hck e2 e3 e4 e5 hr2 hout fun r h' tk' F' N' d => ?_
  cases d
  exact ret _ h' tk' F' fun p hp => N' p (.tail _ (.tail _ (.tail _ hp)))
theorem re_P {w : World} {mean : ExcName → Option Value} {mg mb : Str → Option Value} {Kl : Addr} {mk out b jn r2 : Str} {ds : List Str} {ck : Nat} (GF : GetF w Kl) (MI : MethF w Kl (Str.ofString "identifier") 215) (hb : ds.length ≤ 10) (hk5 : mk.length ≤ 5) (hj : Txt.join (Str.ofString ",") ds = jn) (hjw : (ds.map (·.length)).sum + ds.length ≤ 1000) (hjl : jn.length ≤ 300) (e1 : Str.ofString "P" ++ mk ++ jn = b) (hbl : b.length ≤ 400) (hck : ck < 128) (e2 : b.cps.all (· < 128) = true) (e3 : xorFrom b 0 b.cps.size 0 = (ck : Int)) (e4 : b ++ (Str.ofString "*" ++ hex2 ck) = r2) (e5 : Str.ofString "$" ++ r2 = out) (hr2 : r2.length ≤ 410) (hout : out.length ≤ 420) : RenC w mean mg mb (fun led x => MsgP w led x Kl mk ds) out := by
  intro A A₀ base h₀ outer cn cs a ccd cl L m news s Q E x C M ret
  obtain ⟨dx, l, k2, k3, t2, nd, n, vs, a1, a2, a3, hS⟩ := M
  refine c_render215 (C.sub (sub3 a1 a2 a3) (by decide)) GF MI hS hb (by rfl) (by rfl) (by rfl) hk5 hj hjw hjl e1 hbl hck e2 e3 e4 e5 hr2 hout fun r h' tk' F' N' d => ?_
  cases d
  exact ret _ h' tk' F' fun p hp => N' p (.tail _ (.tail _ (.tail _ hp)))
theorem re_N {w : World} {mean : ExcName → Option Value} {mg mb : Str → Option Value} {Kl : Addr} {st mk out b jn r2 : Str} {ds : List Str} {ck : Nat} (GF : GetF w Kl) (MI : MethF w Kl (Str.ofString "identifier") 251) (hb : ds.length ≤ 10) (hk5 : st.length ≤ 15) (hj : Txt.join (Str.ofString ",") ds = jn) (hjw : (ds.map (·.length)).sum + ds.length ≤ 1000) (hjl : jn.length ≤ 300) (e1 : Str.ofString "P" ++ st ++ Str.ofString "," ++ jn = b) (hbl : b.length ≤ 400) (hck : ck < 128) (e2 : b.cps.all (· < 128) = true) (e3 : xorFrom b 0 b.cps.size 0 = (ck : Int)) (e4 : b ++ (Str.ofString "*" ++ hex2 ck) = r2) (e5 : Str.ofString "$" ++ r2 = out) (hr2 : r2.length ≤ 410) (hout : out.length ≤ 420) : RenC w mean mg mb (fun led x => MsgS w led x Kl st mk ds) out := by
  intro A A₀ base h₀ outer cn cs a ccd cl L m news s Q E x C M ret
  obtain ⟨dx, l, k1, k2, k3, t1, t2, nd, n, vs, a1, a2, a3, hS⟩ := M
  refine c_render251 (C.sub (sub3 a1 a2 a3) (by decide)) GF MI hS hb (by rfl) (by rfl) (by rfl) hk5 hj hjw hjl e1 hbl hck e2 e3 e4 e5 hr2 hout fun r h' tk' F' N' d => ?_
  cases d
  exact ret _ h' tk' F' fun p hp => N' p (.tail _ (.tail _ (.tail _ hp)))
theorem insG_S {w : World} {led : List (Addr × Obj)} {x Kl : Addr} {st mk : Str} {ds : List Str} (M : MsgS w led x Kl st mk ds) : InsG led x Kl := by
  obtain ⟨dx, l, k1, k2, k3, t1, t2, nd, n, vs, a1, a2, a3, hS⟩ := M
  exact ⟨dx, _, nd, a1, a2, by rfl⟩
theorem insG_P {w : World} {led : List (Addr × Obj)} {x Kl : Addr} {mk : Str} {ds : List Str} (M : MsgP w led x Kl mk ds) : InsG led x Kl := by
  obtain ⟨dx, l, k2, k3, t2, nd, n, vs, a1, a2, a3, hS⟩ := M
  exact ⟨dx, _, nd, a1, a2, by rfl⟩
end Mine
end

section
open PySem PySem.W PySem.Spec PySem.Calls PyProof.Rows
set_option maxRecDepth 100000
namespace Mine
mutual
/-- a datum as the claim's data, its depth bounded -/
inductive PyOf : Nat → Dat → PyData → Prop
  | none {n} : PyOf n .none .none
  | bool {n} (b : Bool) : PyOf n (.bool b) (.bool b)
  | int {n} (i : Int) : PyOf n (.int i) (.int i)
  | str {n} (x : Str) : PyData.strOk x = true → PyOf n (.str x) (.str x)
  | list {n ds ps} : PyOfAll n ds ps → PyOf (n + 1) (.list ds) (.list ps)
inductive PyOfAll : Nat → List Dat → List PyData → Prop
  | nil {n} : PyOfAll n [] []
  | cons {n d ds p ps} : PyOf n d p → PyOfAll n ds ps → PyOfAll n (d :: ds) (p :: ps)
end
mutual
theorem py_ok : ∀ {n : Nat} {d : Dat} {p : PyData}, PyOf n d p → p.canLay0 = true
  | _, _, _, .none => by simp [PyData.canLay0]
  | _, _, _, .bool b => by simp [PyData.canLay0]
  | _, _, _, .int i => by simp [PyData.canLay0]
  | _, _, _, .str x h => by simpa [PyData.canLay0] using h
  | _, _, _, .list h => by simpa [PyData.canLay0] using py_okAll h
theorem py_okAll : ∀ {n : Nat} {ds : List Dat} {ps : List PyData}, PyOfAll n ds ps → PyData.canLayAll0 ps = true
  | _, _, _, .nil => by simp [PyData.canLayAll0]
  | _, _, _, .cons h r => by simp [PyData.canLayAll0, py_ok h, py_okAll r]
end
mutual
theorem py_depth : ∀ {n : Nat} {d : Dat} {p : PyData}, PyOf n d p → p.depth ≤ n
  | _, _, _, .none => by simp [PyData.depth]
  | _, _, _, .bool b => by simp [PyData.depth]
  | _, _, _, .int i => by simp [PyData.depth]
  | _, _, _, .str x h => by simp [PyData.depth]
  | _, _, _, .list h => by simp only [PyData.depth]; exact Nat.succ_le_succ (py_depthAll h)
theorem py_depthAll : ∀ {n : Nat} {ds : List Dat} {ps : List PyData}, PyOfAll n ds ps → PyData.depthAll ps ≤ n
  | _, _, _, .nil => by simp [PyData.depthAll]
  | _, _, _, .cons h r => by simp only [PyData.depthAll]; exact Nat.max_le.mpr ⟨py_depth h, py_depthAll r⟩
end
theorem PyOfAll.append {n : Nat} : ∀ {ds es : List Dat} {ps qs : List PyData}, PyOfAll n ds ps → PyOfAll n es qs → PyOfAll n (ds ++ es) (ps ++ qs)
  | _, _, _, _, .nil, k => k
  | _, _, _, _, .cons h r, k => .cons h (r.append k)
mutual
theorem rd_reads {led : List (Addr × Obj)} {h : Heap} (N : ∀ q ∈ led, h.get? q.1 = some q.2) : ∀ {n : Nat} {v : Value} {d : Dat} {p : PyData}, RdIn led v d → PyOf n d p → ∃ as, Reads h v p as
  | _, _, _, _, .none, .none => ⟨_, .none⟩
  | _, _, _, _, .bool b, .bool _ => ⟨_, .bool b⟩
  | _, _, _, _, .int i t, .int _ => ⟨_, .int i t⟩
  | _, _, _, _, .str x t, .str _ _ => ⟨_, .str x t⟩
  | _, _, _, _, .list hm hc hd r, .list k => by
    obtain ⟨as, ha⟩ := rd_readsAll N r k
    exact ⟨_, .list (N _ hm) hc hd (by simpa using ha)⟩
theorem rd_readsAll {led : List (Addr × Obj)} {h : Heap} (N : ∀ q ∈ led, h.get? q.1 = some q.2) : ∀ {n : Nat} {vs : List Value} {ds : List Dat} {ps : List PyData}, RdAll led vs ds → PyOfAll n ds ps → ∃ as, ReadsAll h vs ps as
  | _, _, _, _, .nil, .nil => ⟨_, .nil⟩
  | _, _, _, _, .cons h r, .cons k l => by
    obtain ⟨as, ha⟩ := rd_reads N h k
    obtain ⟨bs, hb⟩ := rd_readsAll N r l
    exact ⟨_, .cons ha hb⟩
end
section
variable {prog : Program} {w : World} {A : Around} {E : Value → Shared → Prop} {s : Shared} {h₀ : Heap} {L tA dA : Addr} {m : Str → Option Value} {tvs dvs : List Value} {tn dn : Nat} {D : List (Addr × Obj)} {Q : Value → Shared → Prop} {ds : List Dat} {ps : List PyData} {n : Nat}
theorem eq_lists (S : St h₀ L m tA dA tvs dvs tn dn D s.heap) (r1 : RdAll D tvs ds) (r2 : RdAll D dvs ds) (k : PyOfAll n ds ps) (hn : n ≤ 20) (hu : A.units + 64 < cLine) (h : Q (.bool true) s) :
    wpAny (model prog w) A (compareOp .Eq (.ref tA) (.ref dA)) Q E s := by
  have ND : ∀ q ∈ D, s.heap.get? q.1 = some q.2 := fun q hq => (S.N q (.tail _ (.tail _ hq))).1
  obtain ⟨as, ha⟩ := rd_readsAll ND r1 k
  obtain ⟨bs, hb⟩ := rd_readsAll ND r2 k
  have Ra : Reads s.heap (.ref tA) (.list ps) (tA :: as) := .list (S.N _ (.head _)).1 rfl (n := tn) (vs := tvs.toArray) rfl (by simpa using ha)
  have Rb : Reads s.heap (.ref dA) (.list ps) (dA :: bs) := .list (S.N _ (.tail _ (.head _))).1 rfl (n := dn) (vs := dvs.toArray) rfl (by simpa using hb)
  have hc : (PyData.list ps).canLay0 = true := by simpa [PyData.canLay0] using py_okAll k
  have hd : (PyData.list ps).depth ≤ 21 := by simp only [PyData.depth]; have := py_depthAll k; omega
  refine SeqAt.compareEq_reads Ra Rb hc hc (by rw [Nat.min_self]; omega) ?_
  rw [SeqAt.eqv_refl _ hc]
  exact h
end
end Mine
end

section
open PySem PySem.W PySem.Spec PySem.Calls PyProof.Rows
set_option maxRecDepth 100000
namespace Mine
theorem callC_fullW {prog : Program} {w : World} {A : Around} {R : Result → Shared → Prop} {s : Shared} {name : Str} {params : Arguments} {body : List Stmt} {scope : Scope}
    {dV kV pm cd doc : Value} {a : Addr} {o : Obj} {args : Args} {binds : List (Str × Value)}
    (hroom : A.depth < recursionLimit) (ho : s.heap.get? a = some o) (hdata : o.data = .func { docDef name params body scope pm cd doc with defaults := dV, kwdefaults := kV }) (hlim : s.heap.NoLimit) (hcd : s.heap.CodeRec cd name)
    (hbind : BindsTo s { docDef name params body scope pm cd doc with defaults := dV, kwdefaults := kV } args binds)
    (hloc : ∀ x ∈ binds, scope.names.lookup x.1 = some .local)
    (h : ∀ h₁, Fr s.heap s.heap.objs.size h₁ (fun x => binds.reverse.lookup x) →
      wpC (model prog w) (A.deeper (envOf name scope s.heap.objs.size a cd)) (execs body (envOf name scope s.heap.objs.size a cd))
        (fun f s' => R (.ok (.ret (match f with | .ret v => v | _ => .none))) s')
        (fun e s' => wpAny (model prog w) (A.deeper (envOf name scope s.heap.objs.size a cd)) (leaving (envOf name scope s.heap.objs.size a cd) e)
          (fun _ s'' => R (.error e) s'') (fun e' s'' => R (.error e') s'') s')
        { s with heap := h₁, toks := s.toks + binds.length })
    (hco : scope.isCoroutine = false) (hgen : scope.isGenerator = false) (hk : scope.kind = .function) (hcell : ∀ x ∈ scope.names, x.2 ≠ .cell) :
    codeC (model prog w) A (.call (.ref a) args) R s :=
  codeC_call_def hroom ho hdata hlim hcd rfl hbind hcell hloc (fun h₁ hns hkeep => h h₁ ⟨hns, hkeep, Nat.le_refl _⟩) hco hgen hk
/-- a list is empty or opens with an object -/
def HeadL (vs : List Value) : Prop := vs = [] ∨ ∃ a r, vs = Value.ref a :: r
def Cap (i : Nat) (vs : List Value) : Prop := vs.length ≤ 3 * i ∧ HeadL vs
/-- the law's state between two turns: the iterator at j, i turns done -/
def LInv (h₀ : Heap) (L am : Addr) (oM : Obj) (ls tT tI tA dA : Addr) (tup : Array Value) (j i : Nat) (P : (Str → Option Value) → Prop) (h : Heap) : Prop :=
  ∃ m tvs dvs tn dn D ds oI, St h₀ L m tA dA tvs dvs tn dn ((tI, oI) :: D) h ∧ oI.cls = .type "tuple_iterator" ∧ oI.data = .fields #[.ref tT, .int j 0] ∧ (∀ p ∈ D, p.1 ≠ tI) ∧ (am, oM) ∈ D ∧
    (∃ oT n, (tT, oT) ∈ D ∧ oT.cls = .type "tuple" ∧ oT.data = .seq tup n) ∧ RdAll D tvs ds ∧ RdAll D dvs ds ∧ (∃ ps, PyOfAll 10 ds ps) ∧ Cap i tvs ∧ Cap i dvs ∧
    (m (Str.ofString "told") = some (.ref tA) ∧ m (Str.ofString "due") = some (.ref dA) ∧ m (Str.ofString "makers") = some (.ref am) ∧ m (Str.ofString "script") = some (.ref ls)) ∧ P m
/-- the law's state behind the loop -/
def LEnd (h₀ : Heap) (L tA dA : Addr) (i : Nat) (h : Heap) : Prop :=
  ∃ m tvs dvs tn dn D ds, St h₀ L m tA dA tvs dvs tn dn D h ∧ RdAll D tvs ds ∧ RdAll D dvs ds ∧ (∃ ps, PyOfAll 10 ds ps) ∧ Cap i tvs ∧ Cap i dvs ∧ m (Str.ofString "told") = some (.ref tA) ∧ m (Str.ofString "due") = some (.ref dA)
section
variable {prog : Program} {w : World} {A : Around} {s : Shared} {h₀ : Heap} {L a am ls tT tI tA dA : Addr} {oM : Obj} {tup : Array Value} {cn : Str} {cs : Scope} {ccd : Value} {R : Result → Shared → Prop}
theorem law_loop {body : List Stmt} {pk : Pos} (hh : A.handled = none) (hk : cs.kind = .function) (hx : (envX cn cs L a ccd []).kindOf (Str.ofString "k") = some .local)
    (inv : LInv h₀ L am oM ls tT tI tA dA tup 0 0 (fun _ => True) s.heap)
    (step : ∀ i v h' tk', tup[i]? = some v → LInv h₀ L am oM ls tT tI tA dA tup (i + 1) i (fun m => m (Str.ofString "k") = some v) h' →
      wpC (model prog w) A (execs body (envX cn cs L a ccd [])) (fun f s₃ => match f with | .next | .cont => ∃ h'' tk'', s₃ = { s with heap := h'', toks := tk'' } ∧ LInv h₀ L am oM ls tT tI tA dA tup (i + 1) (i + 1) (fun _ => True) h'' | .brk => R (.ok .next) s₃ | .ret v => R (.ok (.ret v)) s₃)
        (notedBy (model prog w) A (envX cn cs L a ccd []) fun e s' => R (.error e) s') { s with heap := h', toks := tk' })
    (fin : ∀ h' tk', LEnd h₀ L tA dA tup.size h' → R (.ok .next) { s with heap := h', toks := tk' }) :
    codeC (model prog w) A (.forLoop (.Name (Str.ofString "k") pk) (.ref tI) body [] (envX cn cs L a ccd [])) R s := by
  refine codeC_forLoop (fun n s' => ∃ i h' tk', s' = { s with heap := h', toks := tk' } ∧ i ≤ tup.size ∧ n = tup.size + 1 - i ∧ LInv h₀ L am oM ls tT tI tA dA tup i i (fun _ => True) h') ?_ (tup.size + 1) ⟨0, s.heap, s.toks, rfl, Nat.zero_le _, rfl, inv⟩
  rintro n s' ⟨i, h', tk', rfl, hi, rfl, m, tvs, dvs, tn, dn, D, ds, oI, S, c1, c2, c3, c4, ⟨oT, nT, c5, c6, c7⟩, r1, r2, rp, b1, b2, hm, _⟩
  have hIt : h'.IsTupleIter tI tT i := ⟨oI, (S.N _ (.tail _ (.tail _ (.head _)))).1, c1, c2⟩
  have hTt : h'.IsTuple tT tup := ⟨oT, (S.N _ (.tail _ (.tail _ (.tail _ c5)))).1, c6, nT, c7⟩
  have nI := (S.N _ (.tail _ (.tail _ (.head _)))).2
  have tIA : tI ≠ tA := S.ot _ (.head _)
  have tID : tI ≠ dA := S.od _ (.head _)
  have next : ∀ h₁ : Heap, (∀ b o, b ≠ tI → h'.get? b = some o → h₁.get? b = some o) → ∀ o', h₁.get? tI = some o' → St h₀ L m tA dA tvs dvs tn dn ((tI, o') :: D) h₁ := fun h₁ hk₁ o' ho' => by
    refine ⟨⟨S.F.ns.at' fun o e => hk₁ _ o (Ne.symm nI.1) e, fun b o e => hk₁ b o (fun q => ?_) (S.F.keep b o e), S.F.above⟩, fun p hp => ?_, S.td, fun p hp => ?_, fun p hp => ?_⟩
    · rw [q, nI.2] at e; cases e
    · rcases List.mem_cons.mp hp with rfl | hp
      · exact ⟨hk₁ _ _ (Ne.symm tIA) (S.N _ (.head _)).1, (S.N _ (.head _)).2⟩
      · rcases List.mem_cons.mp hp with rfl | hp
        · exact ⟨hk₁ _ _ (Ne.symm tID) (S.N _ (.tail _ (.head _))).1, (S.N _ (.tail _ (.head _))).2⟩
        · rcases List.mem_cons.mp hp with rfl | hp
          · exact ⟨ho', nI⟩
          · exact ⟨hk₁ _ _ (c3 p hp) (S.N p (.tail _ (.tail _ (.tail _ hp)))).1, (S.N p (.tail _ (.tail _ (.tail _ hp)))).2⟩
    · rcases List.mem_cons.mp hp with rfl | hp
      · exact tIA
      · exact S.ot p (.tail _ hp)
    · rcases List.mem_cons.mp hp with rfl | hp
      · exact tID
      · exact S.od p (.tail _ hp)
  by_cases hlt : i < tup.size
  · refine wpC_of (wpAny_pyNext_tuple_item hIt hTt (x := tup[i]) (Array.getElem?_eq_getElem hlt) fun h₁ hI₁ hs₁ => ?_)
    obtain ⟨o', ho', d1, d2⟩ := hI₁
    have S₁ := next h₁ (fun b o hb e => (hs₁.2 b hb).trans e) o' ho'
    dsimp only
    refine wpC_of (letGo_tupleiter ⟨o', ho', d1, d2⟩ ?_)
    refine wpC_of (wpAny_assign_Name (storeX_L S₁.F S₁.N (fun h₂ F₂ N₂ => ?_) hk hx))
    have S₂ : St h₀ L (fun y => if y = Str.ofString "k" then some tup[i] else m y) tA dA tvs dvs tn dn ((tI, o') :: D) h₂ := S₁.same F₂ N₂
    refine wpC_mono (step i tup[i] h₂ _ (Array.getElem?_eq_getElem hlt) ⟨_, tvs, dvs, tn, dn, D, ds, o', S₂, d1, by rw [d2], c3, c4, ⟨oT, nT, c5, c6, c7⟩, r1, r2, rp, b1, b2, ?_, by simp⟩) (fun f s₃ hf => ?_) fun _ _ z => z
    · obtain ⟨m1, m2, m3, m4⟩ := hm
      refine ⟨?_, ?_, ?_, ?_⟩
      · rw [if_neg (by decide)]; exact m1
      · rw [if_neg (by decide)]; exact m2
      · rw [if_neg (by decide)]; exact m3
      · rw [if_neg (by decide)]; exact m4
    · cases f with
      | next =>
        obtain ⟨h'', tk'', rfl, li⟩ := hf
        exact ⟨tup.size + 1 - (i + 1), by omega, i + 1, h'', tk'', rfl, hlt, rfl, li⟩
      | cont =>
        obtain ⟨h'', tk'', rfl, li⟩ := hf
        exact ⟨tup.size + 1 - (i + 1), by omega, i + 1, h'', tk'', rfl, hlt, rfl, li⟩
      | brk => exact hf
      | ret v => exact hf
  · have hi' : i = tup.size := by omega
    subst hi'
    refine wpC_of (wpAny_pyNext_tuple_end hh hIt hTt (by simp) fun h₁ hk₁ => ?_)
    dsimp only
    refine wpC_execs_nil (fin h₁ tk' ?_)
    refine ⟨m, tvs, dvs, tn, dn, D, ds, ⟨⟨S.F.ns.at' fun o e => hk₁ _ o (Ne.symm nI.1) e, fun b o e => hk₁ b o (fun q => ?_) (S.F.keep b o e), S.F.above⟩, fun p hp => ?_, S.td, fun p hp => S.ot p (.tail _ hp), fun p hp => S.od p (.tail _ hp)⟩, r1, r2, rp, b1, b2, hm.1, hm.2.1⟩
    · rw [q, nI.2] at e; cases e
    · rcases List.mem_cons.mp hp with rfl | hp
      · exact ⟨hk₁ _ _ (Ne.symm tIA) (S.N _ (.head _)).1, (S.N _ (.head _)).2⟩
      · rcases List.mem_cons.mp hp with rfl | hp
        · exact ⟨hk₁ _ _ (Ne.symm tID) (S.N _ (.tail _ (.head _))).1, (S.N _ (.tail _ (.head _))).2⟩
        · exact ⟨hk₁ _ _ (c3 p hp) (S.N p (.tail _ (.tail _ (.tail _ hp)))).1, (S.N p (.tail _ (.tail _ (.tail _ hp)))).2⟩
/-- the tuple of the law's numbers is walked -/
theorem law_start {m : Str → Option Value} {body : List Stmt} {pk : Pos} {E : Value → Shared → Prop} (hh : A.handled = none) (hk : cs.kind = .function) (hx : (envX cn cs L a ccd []).kindOf (Str.ofString "k") = some .local)
    (F : Fr h₀ L s.heap m) (N : News h₀ L s.heap [(tT, { cls := .type "tuple", data := .seq tup }), (am, oM), (dA, listOf #[] 0), (tA, listOf #[] 0)])
    (l1 : am < tT ∧ dA < tT ∧ tA < tT) (l2 : dA < am ∧ tA < am) (l3 : tA < dA)
    (hm : m (Str.ofString "told") = some (.ref tA) ∧ m (Str.ofString "due") = some (.ref dA) ∧ m (Str.ofString "makers") = some (.ref am) ∧ m (Str.ofString "script") = some (.ref ls))
    (step : ∀ tI i v h' tk', tup[i]? = some v → LInv h₀ L am oM ls tT tI tA dA tup (i + 1) i (fun m => m (Str.ofString "k") = some v) h' →
      wpC (model prog w) A (execs body (envX cn cs L a ccd [])) (fun f s₃ => match f with | .next | .cont => ∃ h'' tk'', s₃ = { s with heap := h'', toks := tk'' } ∧ LInv h₀ L am oM ls tT tI tA dA tup (i + 1) (i + 1) (fun _ => True) h'' | .brk => R (.ok .next) s₃ | .ret v => R (.ok (.ret v)) s₃)
        (notedBy (model prog w) A (envX cn cs L a ccd []) fun e s' => R (.error e) s') { s with heap := h', toks := tk' })
    (fin : ∀ h' tk', LEnd h₀ L tA dA tup.size h' → R (.ok .next) { s with heap := h', toks := tk' }) :
    wpC (model prog w) A (pyIter (.ref tT)) (fun it s₂ => codeC (model prog w) A (.forLoop (.Name (Str.ofString "k") pk) it body [] (envX cn cs L a ccd [])) R s₂) E s := by
  refine wpC_of (wpAny_pyIter_tuple (items := tup) ⟨_, (N _ (.head _)).1, rfl, 0, rfl⟩ ?_)
  have lt : ∀ p ∈ [(tT, ({ cls := .type "tuple", data := .seq tup } : Obj)), (am, oM), (dA, listOf #[] 0), (tA, listOf #[] 0)], p.1 < s.heap.objs.size := fun p hp => Heap.lt_size (N p hp).1
  have up : ∀ (ob : Obj) b o, s.heap.get? b = some o → (s.heap.push ob).get? b = some o := fun ob b o e => Heap.get?_push_of_some _ e
  have nA : am ≠ tA := Nat.ne_of_gt l2.2
  have nD : am ≠ dA := Nat.ne_of_gt l2.1
  refine law_loop hh hk hx ?_ (fun i v h' tk' hv li => step s.heap.objs.size i v h' tk' hv li) fin
  refine ⟨m, [], [], 0, 0, [(tT, { cls := .type "tuple", data := .seq tup }), (am, oM)], [], { cls := .type "tuple_iterator", data := .fields #[.ref tT, .int 0 0] }, ⟨F.push _, fun p hp => ?_, Nat.ne_of_gt l3, fun p hp => ?_, fun p hp => ?_⟩, rfl, rfl, fun p hp => ?_, .tail _ (.head _), ⟨_, 0, .head _, rfl, rfl⟩, .nil, .nil, ⟨[], .nil⟩, ⟨Nat.zero_le _, .inl rfl⟩, ⟨Nat.zero_le _, .inl rfl⟩, hm, trivial⟩
  · rcases List.mem_cons.mp hp with rfl | hp
    · exact ⟨up _ _ _ (N _ (.tail _ (.tail _ (.tail _ (.head _))))).1, (N _ (.tail _ (.tail _ (.tail _ (.head _))))).2⟩
    · rcases List.mem_cons.mp hp with rfl | hp
      · exact ⟨up _ _ _ (N _ (.tail _ (.tail _ (.head _)))).1, (N _ (.tail _ (.tail _ (.head _)))).2⟩
      · rcases List.mem_cons.mp hp with rfl | hp
        · refine ⟨Heap.get?_push_size _ rfl, Nat.ne_of_gt F.ns.lt, ?_⟩
          cases q : h₀.get? s.heap.objs.size with
          | none => rfl
          | some o => exact absurd (Heap.lt_size (F.keep _ _ q)) (Nat.lt_irrefl _)
        · rcases List.mem_cons.mp hp with rfl | hp
          · exact ⟨up _ _ _ (N _ (.head _)).1, (N _ (.head _)).2⟩
          · rw [List.mem_singleton.mp hp]
            exact ⟨up _ _ _ (N _ (.tail _ (.head _))).1, (N _ (.tail _ (.head _))).2⟩
  · rcases List.mem_cons.mp hp with rfl | hp
    · exact Nat.ne_of_gt (lt _ (.tail _ (.tail _ (.tail _ (.head _)))))
    · rcases List.mem_cons.mp hp with rfl | hp
      · exact Nat.ne_of_gt l1.2.2
      · rw [List.mem_singleton.mp hp]; exact nA
  · rcases List.mem_cons.mp hp with rfl | hp
    · exact Nat.ne_of_gt (lt _ (.tail _ (.tail _ (.head _))))
    · rcases List.mem_cons.mp hp with rfl | hp
      · exact Nat.ne_of_gt l1.2.1
      · rw [List.mem_singleton.mp hp]; exact nD
  · rcases List.mem_cons.mp hp with rfl | hp
    · exact Nat.ne_of_lt (lt _ (.head _))
    · rw [List.mem_singleton.mp hp]; exact Nat.ne_of_lt (lt _ (.tail _ (.head _)))
end
end Mine
end

section
open PySem PySem.W PySem.Spec PySem.Calls PyProof.Rows
namespace Mine
theorem or_and_add : ∀ (n a b : Nat), a ≤ n → a + b = (a ||| b) + (a &&& b)
  | 0, a, b, h => by
    have e : a = 0 := by omega
    subst e; simp
  | n + 1, a, b, h => by
    by_cases ha : a = 0
    · subst ha; simp
    · have ih := or_and_add n (a / 2) (b / 2) (by omega)
      have o1 := Nat.or_div_two (a := a) (b := b)
      have a1 := Nat.and_div_two (a := a) (b := b)
      have o2 := Nat.or_mod_two_eq_one (a := a) (b := b)
      have a2 := Nat.and_mod_two_eq_one (a := a) (b := b)
      rw [← o1, ← a1] at ih
      generalize a ||| b = x at *
      generalize a &&& b = y at *
      omega
theorem bitAnd_nat (a b : Nat) : Builtin.bitAnd (a : Int) (b : Int) = ((a &&& b : Nat) : Int) := by
  unfold Builtin.bitAnd
  rw [decide_eq_true (Int.natCast_nonneg a), decide_eq_true (Int.natCast_nonneg b)]
  rfl
theorem bitXor_nat (a b : Nat) : Builtin.bitXor (a : Int) (b : Int) = ((a ||| b : Nat) : Int) - ((a &&& b : Nat) : Int) := by
  unfold Builtin.bitXor Builtin.bitOr
  rw [bitAnd_nat]
  congr 1
  have h1 : decide (0 ≤ Builtin.bitNot (a : Int)) = false := decide_eq_false (by unfold Builtin.bitNot; omega)
  have h2 : decide (0 ≤ Builtin.bitNot (b : Int)) = false := decide_eq_false (by unfold Builtin.bitNot; omega)
  unfold Builtin.bitAnd
  rw [h1, h2]
  show Builtin.bitNot (Builtin.bitNot _) = _
  have e : ∀ x : Int, Builtin.bitNot (Builtin.bitNot x) = x := fun x => by unfold Builtin.bitNot; omega
  rw [e, e, e]
  rfl
/-- one step of the checksum, both spellings -/
theorem ck_step {a b : Nat} (ha : a < 128) (hb : b < 128) : ∃ c : Nat, c < 128 ∧ Builtin.bitXor (a : Int) (b : Int) = c ∧ (a : Int) + b - 2 * Builtin.bitAnd (a : Int) (b : Int) = c := by
  have h := or_and_add a a b (Nat.le_refl _)
  have hl : a &&& b ≤ a ||| b := Nat.le_trans Nat.and_le_left Nat.left_le_or
  have hu : a ||| b < 2 ^ 7 := Nat.or_lt_two_pow (by omega) (by omega)
  refine ⟨(a ||| b) - (a &&& b), by omega, ?_, ?_⟩
  · rw [bitXor_nat]; omega
  · rw [bitAnd_nat]; omega
theorem ck_folds : ∀ (l : List Nat) (acc : Nat), acc < 128 → (∀ c ∈ l, c < 128) → ∃ c : Nat, c < 128 ∧
    l.foldl (fun v n => Builtin.bitXor v ((n : Nat) : Int)) (acc : Int) = c ∧ (l.map fun (n : Nat) => (n : Int)).foldl (fun v n => v + n - 2 * Builtin.bitAnd v n) (acc : Int) = c
  | [], acc, h, _ => ⟨acc, h, rfl, rfl⟩
  | n :: l, acc, h, hl => by
    obtain ⟨c, hc, e1, e2⟩ := ck_step h (hl n (.head _))
    obtain ⟨d, hd, e3, e4⟩ := ck_folds l c hc fun x hx => hl x (.tail _ hx)
    refine ⟨d, hd, ?_, ?_⟩
    · rw [List.foldl_cons, e1, e3]
    · rw [List.map_cons, List.foldl_cons, e2, e4]
section texts
open Builtin Builtin.Str StrLaws
abbrev chs (x : PySem.Str) : List Nat := x.cps.toList
theorem ext_l {a b : PySem.Str} (h : chs a = chs b) : a = b := PySem.Str.ext' (Array.toList_inj.mp h)
theorem chs_app (a b : PySem.Str) : chs (a ++ b) = chs a ++ chs b := by
  show (a.cps ++ b.cps).toList = _
  rw [Array.toList_append]
theorem chs_mk (l : List Nat) : chs ⟨l.toArray⟩ = l := rfl
theorem len_chs (x : PySem.Str) : x.length = (chs x).length := by simp [PySem.Str.length]
theorem slice_to {x : PySem.Str} {k : Nat} (h : k ≤ (chs x).length) : Txt.slice x none (some (k : Int)) = ⟨((chs x).take k).toArray⟩ := by
  show sliceText x none (some (k : Int)) = _
  have h2 : k ≤ x.cps.toList.length := h
  rw [sliceText_to (by omega)]
  simp
theorem slice_from {x : PySem.Str} {k : Nat} (h : k ≤ (chs x).length) : Txt.slice x (some (k : Int)) none = ⟨((chs x).drop k).toArray⟩ := by
  show sliceText x (some (k : Int)) none = _
  have h2 : k ≤ x.cps.toList.length := h
  rw [sliceText_from (by omega), List.take_of_length_le (by rw [List.length_drop]; omega)]
  simp
theorem slice_mid {x : PySem.Str} {i j : Nat} (h : i ≤ j) (h' : j ≤ (chs x).length) : Txt.slice x (some (i : Int)) (some (j : Int)) = ⟨(((chs x).drop i).take (j - i)).toArray⟩ := sliceText_nat x h (by rw [len_chs]; exact h')
theorem part_at {y tl : PySem.Str} {c : Nat} (h : c ∉ chs y) : Txt.partition (y ++ ⟨#[c]⟩ ++ tl) ⟨#[c]⟩ = (y, ⟨#[c]⟩, tl) := by
  have e : chs (y ++ ⟨#[c]⟩ ++ tl) = chs y ++ c :: chs tl := by rw [chs_app, chs_app, List.append_assoc]; rfl
  have hat : At (y ++ ⟨#[c]⟩ ++ tl) ⟨#[c]⟩ (y ++ ⟨#[c]⟩ ++ tl).length (chs y).length := (subAt_one _ c _).mpr (by
    show (chs (y ++ ⟨#[c]⟩ ++ tl))[(chs y).length]? = some c
    rw [e]; simp)
  rcases occ_head (y ++ ⟨#[c]⟩ ++ tl) ⟨#[c]⟩ 1 (Nat.le_refl _) with ⟨_, hn⟩ | ⟨i, r, e1, ha, hn⟩
  · exact absurd hat (hn _)
  · have hi : i = (chs y).length := by
      rcases Nat.lt_trichotomy i (chs y).length with hlt | heq | hgt
      · have h2 := (subAt_one _ c i).mp ha
        have h3 : (chs (y ++ ⟨#[c]⟩ ++ tl))[i]? = some c := h2
        rw [e, List.getElem?_append_left hlt] at h3
        exact absurd (List.mem_of_getElem? h3) h
      · exact heq
      · exact absurd hat (hn _ hgt)
    subst hi
    unfold Txt.partition
    rw [e1]
    refine Prod.ext (ext_l ?_) (Prod.ext rfl (ext_l ?_))
    · show chs (strSub _ _ _) = _
      rw [chs, strSub_toList]
      show List.take _ (List.drop 0 (chs _)) = _
      rw [e]; simp
    · show chs (strSub _ _ _) = _
      rw [chs, strSub_toList]
      show List.take _ (List.drop _ (chs _)) = _
      rw [e]
      have hz : (⟨#[c]⟩ : PySem.Str).length = 1 := rfl
      rw [hz, ← List.drop_drop, List.drop_left]
      show List.take _ (chs tl) = _
      refine List.take_of_length_le ?_
      rw [len_chs, e]; simp; omega
theorem lstrip_is {x : PySem.Str} {c : Nat} {r : List Nat} (e : chs x = c :: r) (h : Unicode.isSpace c = false) : Txt.lstrip x = x := by
  unfold Txt.lstrip Txt.stripBy
  have hs : stripSame Unicode.isSpace true false x = true := by
    unfold stripSame stripLo stripHi
    have e' : x.cps.toList = c :: r := e
    rw [e', List.takeWhile_cons, h]
    simp
  rw [if_pos hs]
theorem join_free_head {c : Nat} {a b : List Nat} : ∀ {u v : List Nat}, c ∉ u → c ∉ v → u ++ c :: a = v ++ c :: b → u = v ∧ a = b
  | [], [], _, _, e => ⟨rfl, by simpa using e⟩
  | [], x :: v, _, hv, e => by
    have : c = x := by simpa using congrArg List.head? e
    exact absurd (this ▸ List.Mem.head _) hv
  | x :: u, [], hu, _, e => by
    have : x = c := by simpa using congrArg List.head? e
    exact absurd (this ▸ List.Mem.head _) hu
  | x :: u, y :: v, hu, hv, e => by
    rw [List.cons_append, List.cons_append] at e
    injection e with e1 e2
    obtain ⟨e3, e4⟩ := join_free_head (fun h => hu (.tail _ h)) (fun h => hv (.tail _ h)) e2
    exact ⟨by rw [e1, e3], e4⟩
theorem join_one_ne {c : Nat} {p q : PySem.Str} {r : List PySem.Str} {x : PySem.Str} (h : c ∉ chs p) (e : p = x ++ ⟨#[c]⟩ ++ q) : False := by
  subst e
  refine h ?_
  rw [chs_app, chs_app]
  exact List.mem_append_left _ (List.mem_append_right _ (.head _))
theorem join_inj {c : Nat} : ∀ {us vs : List PySem.Str}, us ≠ [] → vs ≠ [] → (∀ p ∈ us, c ∉ chs p) → (∀ p ∈ vs, c ∉ chs p) → PySem.Str.join ⟨#[c]⟩ us = PySem.Str.join ⟨#[c]⟩ vs → us = vs
  | [], _, h, _, _, _, _ => absurd rfl h
  | _, [], _, h, _, _, _ => absurd rfl h
  | [p], [q], _, _, _, _, e => by
    have e' : p = q := e
    rw [e']
  | [p], q :: q2 :: v, _, _, hp, _, e => (join_one_ne (r := []) (hp p (.head _)) e).elim
  | p :: p2 :: u, [q], _, _, _, hq, e => (join_one_ne (r := []) (hq q (.head _)) e.symm).elim
  | p :: p2 :: u, q :: q2 :: v, _, _, hp, hq, e => by
    have e' : p ++ ⟨#[c]⟩ ++ PySem.Str.join ⟨#[c]⟩ (p2 :: u) = q ++ ⟨#[c]⟩ ++ PySem.Str.join ⟨#[c]⟩ (q2 :: v) := e
    have e2 := congrArg chs e'
    rw [chs_app, chs_app, chs_app, chs_app, List.append_assoc, List.append_assoc] at e2
    obtain ⟨e3, e4⟩ := join_free_head (hp p (.head _)) (hq q (.head _)) e2
    rw [ext_l e3, join_inj (List.cons_ne_nil _ _) (List.cons_ne_nil _ _) (fun x hx => hp x (.tail _ hx)) (fun x hx => hq x (.tail _ hx)) (ext_l e4)]
theorem split_ne (x y : PySem.Str) : Txt.split x y ≠ [] := by
  unfold Txt.split
  split
  · exact List.cons_ne_nil _ _
  · split
    · exact List.cons_ne_nil _ _
    · rw [partsBetween_eq]
      obtain ⟨p, r, e⟩ := partsFrom_ne x y.length 0 (occurrences x y 0 x.length (x.length + 1))
      rw [e]; exact List.cons_ne_nil _ _
theorem split_join {c : Nat} {us : List PySem.Str} (h : us ≠ []) (hf : ∀ p ∈ us, c ∉ chs p) : Txt.split (Txt.join ⟨#[c]⟩ us) ⟨#[c]⟩ = us := by
  refine join_inj (split_ne _ _) h (split_free _ c) hf ?_
  rw [join_split]
  exact glued_eq_join _ _
theorem join_cons {c : Nat} {p : PySem.Str} {us : List PySem.Str} (h : us ≠ []) : Txt.join ⟨#[c]⟩ (p :: us) = p ++ ⟨#[c]⟩ ++ Txt.join ⟨#[c]⟩ us := by
  unfold Txt.join
  rw [glued_eq_join, glued_eq_join]
  cases us with
  | nil => exact absurd rfl h
  | cons q r => rfl
theorem join_one {sep p : PySem.Str} : Txt.join sep [p] = p := by
  unfold Txt.join
  rw [glued_eq_join]; rfl
end texts
end Mine
end

section
open PySem PySem.W PySem.W.X PySem.Spec PySem.Calls PyProof.Rows
namespace Mine
local macro_rules | `(tactic| k_room) => `(tactic| ktr_room)
local macro_rules | `(tactic| units_room) => `(tactic| ktr_units)
local macro_rules | `(tactic| k_units) => `(tactic| ktr_units)
variable {w : World} {mean : ExcName → Option Value} {mg mb : Str → Option Value} {A A₀ : Around} {cn : Str} {cs : Scope} {a : Addr} {ccd : Value} {cl : List (Str × Addr)} {outer : List Env} {base h₀ : Heap} {L : Addr} {m : Str → Option Value} {news : List (Addr × Obj)} {s : Shared} {Q E : Value → Shared → Prop}
def lineF (l : List Int) : Int := l.foldl (fun v n => v + n - 2 * Builtin.bitAnd v n) 0
theorem lineF_snoc {l : List Int} {v n : Int} (h : v = lineF l) : v + n - 2 * Builtin.bitAnd v n = lineF (l ++ [n]) := by
  unfold lineF at h ⊢
  rw [List.foldl_append, ← h]; rfl
def lineX (x : Str) (v : Int) : Str := Str.ofString "$" ++ x ++ Str.ofString "*" ++ Txt.item (Str.ofString "0123456789ABCDEF") (v.fdiv 16) ++ Txt.item (Str.ofString "0123456789ABCDEF") (v.fmod 16)
def hexSI : Str := Str.ofString "0123456789ABCDEF"
def hexI (v : Int) : Str := ⟨#[hexSI.cps.getD (v / 16).toNat 0]⟩ ++ ⟨#[hexSI.cps.getD (v % 16).toNat 0]⟩
def lineS (x : Str) : Str := Str.ofString "$" ++ x ++ Str.ofString "*" ++ hexI (lineF (KStt.codes x))
theorem hex_item {v : Int} (h0 : 0 ≤ v) (h1 : v < 256) : fitsSsize (Int.fdiv v 16) = true ∧ -(hexSI.length : Int) ≤ Int.fdiv v 16 ∧ Int.fdiv v 16 < hexSI.length := by
  have hl : hexSI.length = 16 := by decide +kernel
  have e : Int.fdiv v 16 = v / 16 := fdiv_eq v (by decide)
  rw [hl, e]
  exact ⟨fitsSsize_of (N := 9223372036854775808) (by omega) (by omega) (Int.le_refl _), by omega, by omega⟩
theorem hex_item' {v : Int} : fitsSsize (Int.fmod v 16) = true ∧ -(hexSI.length : Int) ≤ Int.fmod v 16 ∧ Int.fmod v 16 < hexSI.length := by
  have hl : hexSI.length = 16 := by decide +kernel
  have e := (fdiv_fmod_facts v 16).2.2.1 (by decide)
  rw [hl]
  exact ⟨fitsSsize_of (N := 9223372036854775808) (by omega) (by omega) (Int.le_refl _), by omega, by omega⟩
theorem ll_dollar : (Str.ofString "$").length = 1 := by decide +kernel
theorem ll_star : (Str.ofString "*").length = 1 := by decide +kernel
local macro_rules | `(tactic| walk_at "binaryOp Add str str") => `(tactic| (refine KOpn.add ?sz ?_; (case sz => (simp only [PySem.Str.length_append, ll_dollar, ll_star]); omega); intro _ _ _))
local macro_rules | `(tactic| walk_at "subscriptTail Name BinOp str int") => `(tactic| first
  | (refine item_str (i := Int.fdiv _ _) (hex_item ?i0 ?i1).1 (hex_item ?i0 ?i1).2.1 (hex_item ?i0 ?i1).2.2 ?_; (case i0 => omega); (case i1 => omega); intro _)
  | (refine item_str (i := Int.fmod _ _) hex_item'.1 hex_item'.2.1 hex_item'.2.2 ?_; intro _))
set_option maxRecDepth 100000 in
set_option maxHeartbeats 8000000 in
theorem c_line {x : Str} {t : Tok} (C : Cx w mean mg mb A A₀ base h₀ outer cn cs a ccd cl L m news s.heap 3) (hx : x.length ≤ 1000) (h0 : 0 ≤ lineF (KStt.codes x)) (h1 : lineF (KStt.codes x) < 128)
    (ret : ∀ t' h' tk', Fr h₀ L h' m → News h₀ L h' news → Q (.str (lineX x (lineF (KStt.codes x))) t') { s with heap := h', toks := tk' }) :
    wpAny (model PySem.Challenge.rw_ez0290_01.row.prog w) A (call (.ref 509) [.str x t]) Q E s := by
  w_top off
  k_with_none
  obtain ⟨B, F, X, N, T, hk, hA, hh, hdp, hun⟩ := C
  obtain ⟨hd, dp, fr, gd, un⟩ := A
  dsimp only at hA hh hdp hun
  subst hA hh
  revert X; k_fill; intro X
  refine wpAny_call ?_
  k_dflt ktr_enter
  k_with "pyIter str" => k_state (fun pre v => v = lineF pre) "value"
  k_with "state" => first | exact rfl | exact lineF_snoc (by assumption)
  k_steps
  all_goals (try dsimp only)
  all_goals ((with_reducible rename (_ = lineF (KStt.codes _)) => hv); subst hv; exact ret _ _ _ (by k_asm) (by k_asm))
end Mine
end

section
open PySem PySem.W PySem.Spec PySem.Calls PyProof.Rows
set_option maxRecDepth 100000
namespace Mine
theorem xorFrom_fold (x : Str) : ∀ (n i : Nat) (acc : Int), i + n ≤ (chs x).length → xorFrom x i n acc = (((chs x).drop i).take n).foldl (fun v c => Builtin.bitXor v ((c : Nat) : Int)) acc
  | 0, i, acc, _ => by simp [xorFrom]
  | n + 1, i, acc, h => by
    have hi : i < (chs x).length := by omega
    have hg : x.cps.getD i 0 = (chs x)[i] := by
      have h' : i < x.cps.size := by simpa using hi
      simp [Array.getD, h']
    rw [List.drop_eq_getElem_cons hi, List.take_succ_cons, List.foldl_cons, ← hg]
    exact xorFrom_fold x n (i + 1) _ (by omega)
theorem line_ck {b : Str} (h : ∀ c ∈ chs b, c < 128) : ∃ ck : Nat, ck < 128 ∧ lineF (KStt.codes b) = ck ∧ xorFrom b 0 b.cps.size 0 = (ck : Int) := by
  obtain ⟨c, hc, e1, e2⟩ := ck_folds (chs b) 0 (by decide) h
  refine ⟨c, hc, e2, ?_⟩
  rw [xorFrom_fold b b.cps.size 0 0 (by simp), List.drop_zero, List.take_of_length_le (by simp)]
  exact e1
/-- the line of a body with its checksum -/
def lineT (b : Str) (ck : Nat) : Str := Str.ofString "$" ++ (b ++ (Str.ofString "*" ++ hex2 ck))
theorem hex_items : ∀ n : Nat, n < 128 → Txt.item (Str.ofString "0123456789ABCDEF") (Int.fdiv n 16) ++ Txt.item (Str.ofString "0123456789ABCDEF") (Int.fmod n 16) = hex2 n := by decide +kernel
theorem lineX_is {b : Str} {ck : Nat} (h : ck < 128) : lineX b (ck : Int) = lineT b ck := by
  unfold lineX lineT
  rw [← hex_items ck h]
  simp only [PySem.Str.append_assoc]
def numIs (r : (int_private% "Numeral")) (n : Int) : Bool := (int_private% "Numeral.casesOn") (motive := fun _ => Bool) r false (fun _ => false) false (fun i => decide (i = n))
theorem numIs_of {r : (int_private% "Numeral")} {n : Int} (h : numIs r n = true) : r = (int_private% "Numeral.value") n := by
  cases r with
  | invalid => cases h
  | tooLong _ => cases h
  | byTheLibrary => cases h
  | value i => rw [of_decide_eq_true h]
open PySem.W.KIN in
def tlOk (n : Nat) : Bool := (Txt.slice (hex2 n) none (some 2) == hex2 n) && (Txt.stripChars (hex2 n) (Str.ofString "0123456789ABCDEFabcdef") == Str.ofString "") && (Txt.slice (hex2 n) (some 2) none == Str.ofString "") && decide ((numSeenOf (hex2 n)).length ≤ 640) && numIs ((int_private% "readNumeral") 0 16 (numSeenOf (hex2 n))) (n : Int) && ((numSeenOf (hex2 n)).length == (numTextOf (hex2 n)).length)
theorem tl_all : ∀ n : Nat, n < 128 → tlOk n = true := by decide +kernel
theorem tl_hex {n : Nat} (h : n < 128) : Txt.slice (hex2 n) none (some 2) = hex2 n ∧ Txt.stripChars (hex2 n) (Str.ofString "0123456789ABCDEFabcdef") = Str.ofString "" ∧ Txt.slice (hex2 n) (some 2) none = Str.ofString "" ∧ Hex16 (hex2 n) (n : Int) := by
  have e := tl_all n h
  unfold tlOk at e
  simp only [Bool.and_eq_true, decide_eq_true_eq, beq_iff_eq] at e
  obtain ⟨⟨⟨⟨⟨e1, e2⟩, e3⟩, e4⟩, e5⟩, e6⟩ := e
  exact ⟨e1, e2, e3, e4, numIs_of e5, by simpa using e6⟩
/-- what a line's head tells -/
def headOk (h4 ty mk : Str) : Bool :=
  ((chs h4).length == 4) && ([Str.ofString "P", Str.ofString "p"].any fun z => z == (⟨((chs h4).take 1).toArray⟩ : Str)) && Txt.isalnum (Txt.replace ⟨((chs h4).drop 1).toArray⟩ (Str.ofString "_") (Str.ofString "a")) && (Txt.upper h4 == ty) &&
    (Txt.slice ty (some 5) none == Str.ofString "") && (Txt.slice ty (some 4) (some 6) == Str.ofString "") && (ty.length == 4) && (Txt.slice ty (some 1) none == mk) && (chs h4).all fun c => decide (c < 128) && !(c == 42)
/-- a text whose signs are plain: below 128, no star, no comma -/
def Plain (x : Str) : Prop := ∀ c ∈ chs x, c < 128 ∧ c ≠ 42 ∧ c ≠ 44
theorem star_is : Str.ofString "*" = ⟨#[42]⟩ := by decide +kernel
theorem comma_is : Str.ofString "," = ⟨#[44]⟩ := by decide +kernel
theorem dollar_is : Str.ofString "$" = ⟨#[36]⟩ := by decide +kernel
theorem plain_free {ps : List Str} (h : ∀ p ∈ ps, Plain p) : ∀ p ∈ ps, 44 ∉ chs p := fun p hp hc => (h p hp 44 hc).2.2 rfl
theorem plain_join : ∀ {ps : List Str}, (∀ p ∈ ps, Plain p) → ∀ c ∈ chs (PySem.Str.join (Str.ofString ",") ps), c < 128 ∧ c ≠ 42
  | [], _, c, h => by cases h
  | [p], hp, c, h => ⟨(hp p (.head _) c h).1, (hp p (.head _) c h).2.1⟩
  | p :: q :: r, hp, c, h => by
    have h' : c ∈ chs (p ++ Str.ofString "," ++ PySem.Str.join (Str.ofString ",") (q :: r)) := h
    rw [chs_app, chs_app] at h'
    rcases List.mem_append.mp h' with h' | h'
    · rcases List.mem_append.mp h' with h' | h'
      · exact ⟨(hp p (.head _) c h').1, (hp p (.head _) c h').2.1⟩
      · rw [comma_is] at h'
        rw [List.mem_singleton.mp h']; decide
    · exact plain_join (fun x hx => hp x (.tail _ hx)) c h'
theorem txt_join (sep : Str) (ps : List Str) : Txt.join sep ps = PySem.Str.join sep ps := StrLaws.glued_eq_join _ _
/-- the text facts of a line that parse reads -/
structure LineF (x y b hp w3 tl h4 rest : Str) (ps : List Str) (ck : Nat) : Prop where
  e1 : Txt.lstrip x = x
  e2 : (Txt.partition x (Str.ofString "*")).fst = y
  e3 : (Txt.partition x (Str.ofString "*")).snd.fst = Str.ofString "*"
  e4 : (Txt.partition x (Str.ofString "*")).snd.snd = tl
  e5 : Txt.slice y none (some 1) = Str.ofString "$"
  e6 : Txt.slice y (some 1) none = b
  e7 : Txt.slice b none (some 1) = hp
  e9 : Txt.slice b (some 1) (some 4) = w3
  e10 : w3.length = 3
  e16 : Txt.slice b none (some 4) = h4
  e18 : Txt.slice b (some 4) none = rest
  e19 : Txt.split rest (Str.ofString ",") = ps
  e22 : b.cps.all (· < 128) = true
  z1 : x.length ≤ 400
  z2 : y.length ≤ 400
  z3 : b.length ≤ 400
  z4 : h4.length ≤ 400
  z5 : rest.length ≤ 400
theorem line_facts {h4 b : Str} {ps : List Str} {ck : Nat} (hl : (chs h4).length = 4) (hh : ∀ c ∈ chs h4, c < 128 ∧ c ≠ 42) (hn : ps ≠ []) (hp : ∀ p ∈ ps, Plain p) (hb : b = h4 ++ Txt.join (Str.ofString ",") ps) (hz : b.length ≤ 300) :
    LineF (lineT b ck) (Str.ofString "$" ++ b) b ⟨((chs h4).take 1).toArray⟩ ⟨((chs h4).drop 1).toArray⟩ (hex2 ck) h4 (Txt.join (Str.ofString ",") ps) ps ck := by
  have hc : ∀ c ∈ chs b, c < 128 ∧ c ≠ 42 := fun c h => by
    rw [hb, chs_app] at h
    rcases List.mem_append.mp h with h | h
    · exact hh c h
    · rw [txt_join] at h; exact plain_join hp c h
  have hx : lineT b ck = (Str.ofString "$" ++ b) ++ ⟨#[42]⟩ ++ hex2 ck := by
    unfold lineT
    rw [star_is]; simp only [PySem.Str.append_assoc]
  have hy : chs (Str.ofString "$" ++ b) = 36 :: chs b := by rw [chs_app, dollar_is]; rfl
  have hcb : chs b = chs h4 ++ chs (Txt.join (Str.ofString ",") ps) := by rw [hb, chs_app]
  have hyn : 42 ∉ chs (Str.ofString "$" ++ b) := by
    rw [hy]
    intro h
    rcases List.mem_cons.mp h with h | h
    · cases h
    · exact (hc 42 h).2 rfl
  have hpart := part_at (tl := hex2 ck) hyn
  have hl4 : 4 ≤ (chs b).length := by rw [hcb, List.length_append]; omega
  have lb : b.length = (chs b).length := len_chs b
  have lh : h4.length = 4 := by rw [len_chs]; exact hl
  have lr : b.length = h4.length + (Txt.join (Str.ofString ",") ps).length := by rw [hb]; exact PySem.Str.length_append _ _
  have ly : (Str.ofString "$" ++ b).length = 1 + b.length := by rw [PySem.Str.length_append, dollar_is]; rfl
  have lx : (lineT b ck).length = 1 + b.length + 1 + 2 := by rw [hx, PySem.Str.length_append, PySem.Str.length_append, ly, hex2_len]; rfl
  refine ⟨?_, ?_, ?_, ?_, ?_, ?_, ?_, ?_, ?_, ?_, ?_, ?_, ?_, by omega, by omega, by omega, by omega, by omega⟩
  · refine lstrip_is (c := 36) (r := chs b ++ 42 :: chs (hex2 ck)) ?_ (by decide +kernel)
    rw [hx, chs_app, chs_app, hy]; simp [chs]
  · rw [hx, star_is, hpart]
  · rw [hx, star_is, hpart]
  · rw [hx, star_is, hpart]
  · refine (slice_to (k := 1) (by rw [hy]; simp)).trans ?_
    rw [hy, dollar_is]; rfl
  · refine (slice_from (k := 1) (by rw [hy]; simp)).trans ?_
    rw [hy]; exact ext_l rfl
  · refine (slice_to (k := 1) (by omega)).trans ?_
    rw [hcb, List.take_append_of_le_length (by omega)]
  · refine (slice_mid (i := 1) (j := 4) (by decide) hl4).trans ?_
    rw [hcb, List.drop_append_of_le_length (by omega), List.take_append_of_le_length (by rw [List.length_drop]; omega), List.take_of_length_le (by rw [List.length_drop]; omega)]
  · rw [len_chs, chs_mk, List.length_drop]; omega
  · refine (slice_to (k := 4) hl4).trans (ext_l ?_)
    rw [chs_mk, hcb, List.take_append_of_le_length (by omega), List.take_of_length_le (by omega)]
  · refine (slice_from (k := 4) hl4).trans (ext_l ?_)
    rw [chs_mk, hcb, List.drop_append_of_le_length (by omega), List.drop_of_length_le (by omega), List.nil_append]
  · rw [comma_is]
    exact split_join hn (plain_free hp)
  · rw [Array.all_eq_true']
    intro c h
    exact decide_eq_true (hc c (by simpa using h)).1
theorem head_of {h4 ty mk : Str} (h : headOk h4 ty mk = true) : (chs h4).length = 4 ∧ (∀ c ∈ chs h4, c < 128 ∧ c ≠ 42) ∧ ([Str.ofString "P", Str.ofString "p"].any fun z => z == (⟨((chs h4).take 1).toArray⟩ : Str)) = true ∧ Txt.isalnum (Txt.replace ⟨((chs h4).drop 1).toArray⟩ (Str.ofString "_") (Str.ofString "a")) = true ∧ Txt.upper h4 = ty ∧
    Txt.slice ty (some 5) none = Str.ofString "" ∧ Txt.slice ty (some 4) (some 6) = Str.ofString "" ∧ ty.length = 4 ∧ Txt.slice ty (some 1) none = mk := by
  unfold headOk at h
  simp only [Bool.and_eq_true] at h
  obtain ⟨⟨⟨⟨⟨⟨⟨⟨a1, a2⟩, a3⟩, a4⟩, a5⟩, a6⟩, a7⟩, a8⟩, a9⟩ := h
  refine ⟨by simpa using a1, fun c hc => ?_, a2, a3, eq_of_beq a4, eq_of_beq a5, eq_of_beq a6, by simpa using a7, eq_of_beq a8⟩
  have := List.all_eq_true.mp a9 c hc
  simpa using this
end Mine
end

section
open PySem PySem.W PySem.Spec PySem.Calls PyProof.Rows
set_option maxRecDepth 100000
namespace Mine
/-- the makers that the law hands to parse -/
def kvM : List (Str × Value) := [(Str.ofString "PSRF", .ref 323), (Str.ofString "PSXN", .ref 382), (Str.ofString "PNOR", .ref 254)]
/-- what parse makes of a line -/
def ParC (w : World) (mean : ExcName → Option Value) (mg mb : Str → Option Value) (x : Str) (MM : List (Addr × Obj) → Addr → Prop) : Prop :=
  ∀ (A A₀ : Around) (base h₀ : Heap) (outer : List Env) (cn : Str) (cs : Scope) (a : Addr) (ccd : Value) (cl : List (Str × Addr)) (L : Addr) (m : Str → Option Value) (news : List (Addr × Obj)) (s : Shared) (Q E : Value → Shared → Prop) (t : Tok) (am : Addr) (o : Obj),
    Cx w mean mg mb A A₀ base h₀ outer cn cs a ccd cl L m ((am, o) :: news) s.heap 40 → o.IsDictOf (PySem.strKind PySem.Challenge.rw_ez0290_01.row.prog w) kvM → (am == sysModules) = false →
    RetM h₀ L m ((am, o) :: news) s Q MM → wpAny (model PySem.Challenge.rw_ez0290_01.row.prog w) A (call (.ref 124) [.str x t, .ref am]) Q E s
section
variable {w : World} {mean : ExcName → Option Value} {mg mb : Str → Option Value}
theorem par_of {h4 ty mk b : Str} {ps : List Str} {ck : Nat} {cls : Addr} {MM : List (Addr × Obj) → Addr → Prop} (ho : headOk h4 ty mk = true) (hn : ps ≠ []) (hp : ∀ p ∈ ps, Plain p) (hb : b = h4 ++ Txt.join (Str.ofString ",") ps) (hz : b.length ≤ 300) (hck : ck < 128) (hx : xorFrom b 0 b.cps.size 0 = (ck : Int))
    (hkp : keepIn (hd.heap_39 w.params) (.ref cls) = true) (hgt : (valueAt kvM ty).getD (.ref 218) = .ref cls) (cc : ClsC w mean mg mb cls mk ps MM) : ParC w mean mg mb (lineT b ck) MM := by
  intro A A₀ base h₀ outer cn cs a ccd cl L m news s Q E t am o C hdo hlo ret
  obtain ⟨a1, a2, a3, a4, a5, a6, a7, a8, a9⟩ := head_of ho
  obtain ⟨e1, e2, e3, e4, e5, e6, e7, e9, e10, e16, e18, e19, e22, z1, z2, z3, z4, z5⟩ := line_facts (ck := ck) a1 a2 hn hp hb hz
  obtain ⟨t1, t2, t3, t4⟩ := tl_hex hck
  exact c_parse C hkp cc hdo hlo hgt e1 e2 e3 e4 e5 e6 e7 a3 e9 e10 a4 (hex2_len ck) t1 t2 t3 e16 a5 e18 e19 t4 hx e22 a6 a7 a8 a9 z1 z2 z3 z4 z5 ret
end
/-- the checksum of a body; its line -/
def ckOf (b : Str) : Nat := (lineF (KStt.codes b)).toNat
def lineB (b : Str) : Str := lineT b (ckOf b)
theorem ck_facts {b : Str} (h : ∀ c ∈ chs b, c < 128) : ckOf b < 128 ∧ lineF (KStt.codes b) = (ckOf b : Int) ∧ xorFrom b 0 b.cps.size 0 = (ckOf b : Int) := by
  obtain ⟨c, h1, h2, h3⟩ := line_ck h
  have e : ckOf b = c := by unfold ckOf; rw [h2]; rfl
  rw [e]; exact ⟨h1, h2, h3⟩
def psOf (mk kd : Str) (ws : List Str) : List Str := if mk == Str.ofString "SXN" then Str.ofString "" :: kd :: ws else kd :: ws
def restT (mk kd : Str) (ws : List Str) : Str := Txt.join (Str.ofString ",") (psOf mk kd ws)
theorem mem_drop {p a b : Addr × Obj} {tl B : List (Addr × Obj)} (h : p ∈ tl ++ a :: b :: B) (ha : p ≠ a) (hb : p ≠ b) : p ∈ tl ++ B := by
  rcases List.mem_append.mp h with h | h
  · exact List.mem_append_left _ h
  · rcases List.mem_cons.mp h with h | h
    · exact absurd h ha
    · rcases List.mem_cons.mp h with h | h
      · exact absurd h hb
      · exact List.mem_append_right _ h
theorem strs_ne {l tA : Addr} {vs tvs : List Value} {n tn : Nat} {ds : List Str} (hS : StrsAre vs ds) (hd : ds ≠ []) (hh : HeadL tvs) : (l, W.listOf vs.toArray n) ≠ (tA, W.listOf tvs.toArray tn) := fun e => by
  have e1 := congrArg (fun p : Addr × Obj => p.2.data) e
  have e2 : vs.toArray = tvs.toArray := by injection e1
  have e3 : vs = tvs := by simpa using e2
  subst e3
  cases hS with
  | nil => exact hd rfl
  | cons x t h =>
    rcases hh with hh | ⟨a, r, hh⟩
    · cases hh
    · cases hh
/-- what a turn of the law stands on: how the lines are parsed, read and rendered -/
structure Kit (w : World) (mean : ExcName → Option Value) (mg mb : Str → Option Value) (mk kd : Str) (ws : List Str) (Kl : Addr) (MM : List (Addr × Obj) → Addr → Prop) : Prop where
  par : ∀ h4 ∈ [Str.ofString "P" ++ mk, Str.ofString "p" ++ Txt.lower mk, Str.ofString "p" ++ mk], ParC w mean mg mb (lineB (h4 ++ restT mk kd ws)) MM
  rd : ReadC w mean mg mb MM (dueD mk kd ws)
  ren : RenC w mean mg mb MM (lineB (Str.ofString "P" ++ mk ++ restT mk kd ws))
  ins : ∀ led x, MM led x → InsG led x Kl
  mono : ∀ led led' x, MM led x → (∀ p ∈ led, p ∈ led') → MM led' x
  off : ∀ tl B tA dA tvs dvs tn dn x, MM (tl ++ (tA, W.listOf (List.toArray tvs) tn) :: (dA, W.listOf (List.toArray dvs) dn) :: B) x → HeadL tvs → HeadL dvs → MM (tl ++ B) x
  gf : GetF w Kl
  mr : MethF w Kl (Str.ofString "render") 154
def goodW : List Str := ["7", "", "0", "x", "-3", "007", "BEAM", "1 2", "+12", "1.5", "2.0"].map Str.ofString
theorem plain_bool {x : Str} (h : ((chs x).all fun c => decide (c < 128) && !(c == 42) && !(c == 44)) = true) : Plain x := fun c hc => by
  have := List.all_eq_true.mp h c hc
  simpa [and_assoc] using this
theorem plain_W : ∀ x ∈ goodW, Plain x ∧ x.length ≤ 4 := by
  intro x hx
  have h : goodW.all (fun x => ((chs x).all fun c => decide (c < 128) && !(c == 42) && !(c == 44)) && decide (x.length ≤ 4)) = true := by decide +kernel
  have := List.all_eq_true.mp h x hx
  rw [Bool.and_eq_true] at this
  exact ⟨plain_bool this.1, of_decide_eq_true this.2⟩
theorem sum_le {B : Nat} : ∀ {l : List Str}, (∀ x ∈ l, x.length ≤ B) → (l.map (·.length)).sum ≤ l.length * B
  | [], _ => by simp
  | x :: l, h => by
    have h1 := sum_le (l := l) fun y hy => h y (.tail _ hy)
    have h2 := h x (.head _)
    simp only [List.map_cons, List.sum_cons, List.length_cons, Nat.succ_mul]
    omega
theorem join_len (ps : List Str) : (Txt.join (Str.ofString ",") ps).length ≤ (ps.map (·.length)).sum + ps.length := by
  rw [txt_join]
  have := StrLaws.join_length_le (Str.ofString ",") ps
  rw [show (Str.ofString ",").length = 1 by decide +kernel, Nat.mul_one] at this
  exact this
theorem body_small {h4 : Str} {ps : List Str} (h : ∀ c ∈ chs h4, c < 128) (hp : ∀ p ∈ ps, Plain p) : ∀ c ∈ chs (h4 ++ Txt.join (Str.ofString ",") ps), c < 128 := fun c hc => by
  rw [chs_app] at hc
  rcases List.mem_append.mp hc with hc | hc
  · exact h c hc
  · rw [txt_join] at hc; exact (plain_join hp c hc).1
end Mine
end

section
open PySem PySem.W PySem.Spec PySem.Calls PyProof.Rows
set_option maxRecDepth 100000
namespace Mine
section
variable {M : Model} {A : Around} {E : Value → Shared → Prop} {s : Shared} {env : Env}
/-- a run of statements, joined behind it -/
theorem wpC_cut {l₁ l₂ : List Stmt} {Q : Flow → Shared → Prop} (P : Shared → Prop) (h : wpAny M A (execs l₁ env) (fun f s' => f = .next ∧ P s') E s) (h2 : ∀ s', P s' → wpC M A (execs l₂ env) Q E s') : wpC M A (execs (l₁ ++ l₂) env) Q E s :=
  wpC_execs_app (wpAny_mono h (fun f s' z => by obtain ⟨rfl, z⟩ := z; exact h2 s' z) fun _ _ z => z)
/-- a test that changes nothing -/
theorem wpC_IfCut {test body orelse pos} {Q : Flow → Shared → Prop} (h : wpAny M A (isTrue test env (eval test env)) (fun _ s₂ => ∃ tk, s₂ = { s with toks := tk }) E s)
    (ht : ∀ tk, wpC M A (execs body env) Q E { s with toks := tk }) (hf : ∀ tk, wpC M A (execs orelse env) Q E { s with toks := tk }) : wpC M A (exec (.If test body orelse pos) env) Q E s :=
  wpC_If (wpC_mono (wpC_of h) (fun b s₂ z => by
    obtain ⟨tk, rfl⟩ := z
    cases b
    · exact hf tk
    · exact ht tk) fun _ _ z => z)
end
/-- behind some statements of a turn: the frame, the ledger that has grown, the names that stay, and what V says -/
def Here (h₀ : Heap) (L : Addr) (m : Str → Option Value) (base : List (Addr × Obj)) (s : Shared) (V : (Str → Option Value) → List (Addr × Obj) → Prop) (s' : Shared) : Prop :=
  ∃ h' tk' m' led, s' = { s with heap := h', toks := tk' } ∧ Fr h₀ L h' m' ∧ News h₀ L h' led ∧ Ext base led ∧ (m' (Str.ofString "told") = m (Str.ofString "told") ∧ m' (Str.ofString "due") = m (Str.ofString "due") ∧ m' (Str.ofString "makers") = m (Str.ofString "makers") ∧ m' (Str.ofString "script") = m (Str.ofString "script")) ∧ V m' led
/-- the row of numbers and the maker's place -/
def V1 (m : Str → Option Value) (led : List (Addr × Obj)) : Prop :=
  ∃ rl rvs rns rn p pt, m (Str.ofString "row") = some (.ref rl) ∧ (rl, listOf (List.toArray rvs) rn) ∈ led ∧ IntsAre rvs rns ∧ rns.length ≤ 10 ∧ m (Str.ofString "pick") = some (.int p pt) ∧ 0 ≤ p ∧ p < 4
theorem fmod_lt {x : Int} {n : Int} (h : 0 < n) : 0 ≤ Int.fmod x n ∧ Int.fmod x n < n := ⟨Int.fmod_nonneg_of_pos _ h, Int.fmod_lt_of_pos _ h⟩
def makerKinds : List (Str × List Str) := [(Str.ofString "SRF", ["103", "100", "10", "1003"].map Str.ofString), (Str.ofString "SXN", ["20", "21", "2", "25"].map Str.ofString), (Str.ofString "NOR", ["I1", "WT4", "i1", "X"].map Str.ofString), (Str.ofString "XYZ", ["a", "b", "c", "d"].map Str.ofString)]
def KindOk (mk kd : Str) : Prop := ∃ p ∈ makerKinds, p.1 = mk ∧ kd ∈ p.2
/-- the row, the maker and the kind -/
def V2 (m : Str → Option Value) (led : List (Addr × Obj)) : Prop :=
  ∃ rl rvs rns rn mk kd t1 t2, m (Str.ofString "row") = some (.ref rl) ∧ (rl, listOf (List.toArray rvs) rn) ∈ led ∧ IntsAre rvs rns ∧ rns.length ≤ 10 ∧ m (Str.ofString "maker") = some (.str mk t1) ∧ m (Str.ofString "kind") = some (.str kd t2) ∧ KindOk mk kd
/-- the row, the maker, the kind and the words -/
def V3 (m : Str → Option Value) (led : List (Addr × Obj)) : Prop :=
  ∃ rl rvs rns rn mk kd t1 t2 wl wvs ws wn, m (Str.ofString "row") = some (.ref rl) ∧ (rl, listOf (List.toArray rvs) rn) ∈ led ∧ IntsAre rvs rns ∧ rns.length ≤ 10 ∧ m (Str.ofString "maker") = some (.str mk t1) ∧ m (Str.ofString "kind") = some (.str kd t2) ∧ KindOk mk kd ∧
    m (Str.ofString "words") = some (.ref wl) ∧ (wl, listOf (List.toArray wvs) wn) ∈ led ∧ StrsAre wvs ws ∧ ws ≠ [] ∧ ws.length ≤ 7 ∧ ∀ x ∈ ws, x ∈ goodW
theorem ext_ne {base X : List (Addr × Obj)} {a : Addr} {o : Obj} (hl : ∀ p ∈ X, p.1 ≠ a) (h : Ext base X) : Ext base ((a, o) :: X) := by
  have hs := h.sub
  obtain ⟨tl, rfl, off⟩ := h
  refine ⟨(a, o) :: tl, rfl, fun q hq p hp => ?_⟩
  rcases List.mem_cons.mp hp with rfl | hp
  · exact Ne.symm (hl q (hs q hq))
  · exact off q hq p hp
theorem getD_mem {ws : List Str} {q : Int} (h0 : 0 ≤ q) (h1 : q < ws.length) : ws.getD q.toNat Str.empty ∈ ws := by
  have hl : q.toNat < ws.length := by omega
  rw [List.getD_eq_getElem?_getD, List.getElem?_eq_getElem hl]
  exact List.getElem_mem hl
section
variable {prog : Program} {w : World} {A : Around} {E : Value → Shared → Prop} {s : Shared} {K : Frag} {h₀ : Heap} {L a : Addr} {m : Str → Option Value} {n : Nat}
theorem top_txt {value slice : PySem.Expr} {l : List Value} {dd : Option Addr} {sl : Array (Option Value)} {ws : List Str} {i : Int} {u : Tok} {Q : Value → Shared → Prop} (F : Fr h₀ L s.heap m) (X₀ : K.In h₀) (hl : K.lookup a = some ⟨.type "list", dd, .seq l.toArray n, sl⟩)
    (hw : StrsAre l ws) (h0 : 0 ≤ i) (h1 : i < ws.length) (hz : ws.length ≤ 100) (h : ∀ t, ws.getD i.toNat Str.empty ∈ ws → Q (.str (ws.getD i.toNat Str.empty) t) s)
    (hs : subscripted slice false (.ref a) (.int i u) = operate [.ref a, .int i u] (getItem (.ref a) (.int i u)) := by with_unfolding_all rfl) :
    wpAny (model prog w) A (subscriptTail value slice (.ref a) (.int i u)) Q E s :=
  KTb.item_list (lstK (X₀.keeps F.keep) hl) hw h0 h1 (by omega) (fun t _ => h t (getD_mem h0 h1)) hs
end
section
variable {prog : Program} {w : World} {A : Around} {E : Value → Shared → Prop} {s : Shared} {h₀ : Heap} {L l : Addr} {news : List (Addr × Obj)} {vs : List Value} {ns : List Int} {n : Nat}
theorem row_len {Q : Value → Shared → Prop} (N : News h₀ L s.heap news) (hm : (l, listOf vs.toArray n) ∈ news) (hi : IntsAre vs ns) (hb : ns.length ≤ 10) (h : Q (.int ns.length (s.toks + 1)) { s with toks := s.toks + 1 + 1 }) :
    wpAny (model prog w) A (call (.builtin "len") [.ref l]) Q E s := by
  have e : vs.toArray.size = ns.length := by simp [hi.length]
  exact len_list (News.isList N hm) (by rw [e]; omega) (by rw [e]; exact h)
theorem row_item {value slice : PySem.Expr} {k : Int} {u : Tok} {Q : Value → Shared → Prop} (N : News h₀ L s.heap news) (hm : (l, listOf vs.toArray n) ∈ news) (hi : IntsAre vs ns) (hb : ns.length ≤ 10) (h0 : 0 ≤ k) (h1 : k < ns.length) (h : ∀ x t, Q (.int x t) s)
    (hs : subscripted slice false (.ref l) (.int k u) = operate [.ref l, .int k u] (getItem (.ref l) (.int k u)) := by with_unfolding_all rfl) (hg : ∀ r, letTemporaryGo value (.ref l) r = pure () := by intro _; with_unfolding_all rfl) :
    wpAny (model prog w) A (subscriptTail value slice (.ref l) (.int k u)) Q E s := by
  have hk : k.toNat < ns.length := by omega
  obtain ⟨t, ht⟩ := hi.get k.toNat _ (List.getElem?_eq_getElem hk)
  exact item_listL (News.isList N hm) h0 (by omega) ht (h _ t) hs hg
end
theorem lk_487 {w : World} : (hd.heap_39 w.params).lookup 487 = some ⟨.type "list", none, .seq [Value.ref 483, Value.ref 484, Value.ref 485, Value.ref 486].toArray 0, #[]⟩ := by kernel_rfl
theorem lk_483 {w : World} : (hd.heap_39 w.params).lookup 483 = some ⟨.type "list", none, .seq [Value.str (Str.ofString "103") 1017, Value.str (Str.ofString "100") 1018, Value.str (Str.ofString "10") 1019, Value.str (Str.ofString "1003") 1020].toArray 0, #[]⟩ := by kernel_rfl
theorem lk_484 {w : World} : (hd.heap_39 w.params).lookup 484 = some ⟨.type "list", none, .seq [Value.str (Str.ofString "20") 1021, Value.str (Str.ofString "21") 1022, Value.str (Str.ofString "2") 1023, Value.str (Str.ofString "25") 1024].toArray 0, #[]⟩ := by kernel_rfl
theorem lk_485 {w : World} : (hd.heap_39 w.params).lookup 485 = some ⟨.type "list", none, .seq [Value.str (Str.ofString "I1") 1025, Value.str (Str.ofString "WT4") 1026, Value.str (Str.ofString "i1") 1027, Value.str (Str.ofString "X") 1028].toArray 0, #[]⟩ := by kernel_rfl
theorem lk_486 {w : World} : (hd.heap_39 w.params).lookup 486 = some ⟨.type "list", none, .seq [Value.str (Str.ofString "a") 1029, Value.str (Str.ofString "b") 1030, Value.str (Str.ofString "c") 1031, Value.str (Str.ofString "d") 1032].toArray 0, #[]⟩ := by kernel_rfl
/-- the list of a maker's kinds in the heap -/
def kdAddr (p : Int) : Addr := if p = 0 then 483 else if p = 1 then 484 else if p = 2 then 485 else 486
def mkOf (p : Int) : Str := [Str.ofString "SRF", Str.ofString "SXN", Str.ofString "NOR", Str.ofString "XYZ"].getD p.toNat Str.empty
theorem four {p : Int} (h0 : 0 ≤ p) (h4 : p < 4) : p = 0 ∨ p = 1 ∨ p = 2 ∨ p = 3 := by omega
section
variable {w : World} {A : Around} {E : Value → Shared → Prop} {s : Shared} {h₀ : Heap} {L : Addr} {m : Str → Option Value} {prog : Program}
theorem kinds_list {value slice : PySem.Expr} {p : Int} {u : Tok} {Q : Value → Shared → Prop} (F : Fr h₀ L s.heap m) (X₀ : (hd.heap_39 w.params).In h₀) (h0 : 0 ≤ p) (h4 : p < 4) (h : Q (.ref (kdAddr p)) s)
    (hs : subscripted slice false (.ref 487) (.int p u) = operate [.ref 487, .int p u] (getItem (.ref 487) (.int p u)) := by with_unfolding_all rfl) :
    wpAny (model prog w) A (subscriptTail value slice (.ref 487) (.int p u)) Q E s := by
  rcases four h0 h4 with rfl | rfl | rfl | rfl
  · exact topList_K F X₀ lk_487 (by decide) (by decide) rfl h hs
  · exact topList_K F X₀ lk_487 (by decide) (by decide) rfl h hs
  · exact topList_K F X₀ lk_487 (by decide) (by decide) rfl h hs
  · exact topList_K F X₀ lk_487 (by decide) (by decide) rfl h hs
theorem kinds_item {value slice : PySem.Expr} {p q : Int} {u : Tok} {Q : Value → Shared → Prop} (F : Fr h₀ L s.heap m) (X₀ : (hd.heap_39 w.params).In h₀) (h0 : 0 ≤ p) (h4 : p < 4) (q0 : 0 ≤ q) (q4 : q < 4) (h : ∀ kd t, KindOk (mkOf p) kd → Q (.str kd t) s)
    (hs : subscripted slice false (.ref (kdAddr p)) (.int q u) = operate [.ref (kdAddr p), .int q u] (getItem (.ref (kdAddr p)) (.int q u)) := by with_unfolding_all rfl) :
    wpAny (model prog w) A (subscriptTail value slice (.ref (kdAddr p)) (.int q u)) Q E s := by
  rcases four h0 h4 with rfl | rfl | rfl | rfl
  · exact top_txt F X₀ lk_483 (by repeat constructor) q0 (by exact q4) (by decide) (fun t ht => h _ t ⟨_, .head _, rfl, ht⟩) hs
  · exact top_txt F X₀ lk_484 (by repeat constructor) q0 (by exact q4) (by decide) (fun t ht => h _ t ⟨_, .tail _ (.head _), rfl, ht⟩) hs
  · exact top_txt F X₀ lk_485 (by repeat constructor) q0 (by exact q4) (by decide) (fun t ht => h _ t ⟨_, .tail _ (.tail _ (.head _)), rfl, ht⟩) hs
  · exact top_txt F X₀ lk_486 (by repeat constructor) q0 (by exact q4) (by decide) (fun t ht => h _ t ⟨_, .tail _ (.tail _ (.tail _ (.head _))), rfl, ht⟩) hs
end
theorem tup4 {a b c d : Tok} {i : Nat} {v : Value} (h : (#[Value.int 0 a, .int 10 b, .int 20 c, .int 30 d] : Array Value)[i]? = some v) : ∃ kv t, v = .int kv t ∧ 0 ≤ kv ∧ kv ≤ 30 ∧ i < 4 := by
  rcases i with _ | _ | _ | _ | i
  · cases h; exact ⟨_, _, rfl, by decide, by decide, by decide⟩
  · cases h; exact ⟨_, _, rfl, by decide, by decide, by decide⟩
  · cases h; exact ⟨_, _, rfl, by decide, by decide, by decide⟩
  · cases h; exact ⟨_, _, rfl, by decide, by decide, by decide⟩
  · simp at h
end Mine
end

section
open PySem PySem.W PySem.Spec PySem.Calls PyProof.Rows
set_option maxRecDepth 100000
namespace Mine
local macro_rules | `(tactic| walk_at "no such key") => `(tactic| fail "none")
theorem ns_words {w : World} : nsIn (hd.heap_39 w.params) mainGlobals (Str.ofString "_law_words") = some (some (.ref 488)) := by kernel_rfl
theorem lk_488 {w : World} : (hd.heap_39 w.params).lookup 488 = some ⟨.type "list", none, .seq [Value.str (Str.ofString "7") 1034, Value.str (Str.ofString "") 1035, Value.str (Str.ofString "0") 1036, Value.str (Str.ofString "x") 1037, Value.str (Str.ofString "-3") 1038, Value.str (Str.ofString "007") 1039, Value.str (Str.ofString "BEAM") 1040, Value.str (Str.ofString "1 2") 1041, Value.str (Str.ofString "+12") 1042, Value.str (Str.ofString "1.5") 1043, Value.str (Str.ofString "2.0") 1044].toArray 0, #[]⟩ := by kernel_rfl
section
variable {prog : Program} {w : World} {mean : ExcName → Option Value} {mg mb : Str → Option Value} {A : Around} {E : Value → Shared → Prop} {s : Shared} {h₀ : Heap} {L l : Addr} {m : Str → Option Value} {news : List (Addr × Obj)} {env : Env} {pos : Pos} {m₂ : Str → Option Value}
theorem nm_glob {Q : Value → Shared → Prop} {x : Str} {v : Value} (hk : env.scope.kind = .function) (k1 : env.kindOf x = some .globalImplicit) (hg : env.globals = mainGlobals) (kp : ∀ b o, h₀.get? b = some o → s.heap.get? b = some o) (T : Top hd.view_39 LL mean mg mb h₀) (hm : mg x = some v) (h : Q v s) (hd : (x == ("__debug__" : Str)) = false) :
    wpAny (model prog w) A (eval (.Name x pos) env) Q E s := Calls.Name_function_global hk k1 (Calls.loadGlobal_global (env := env) (by rw [hg]; exact T.g.keeps kp) hm h) hd
theorem word_item {value slice : PySem.Expr} {i : Int} {u : Tok} {Q : Value → Shared → Prop} (X : (hd.heap_39 w.params).In s.heap) (h0 : 0 ≤ i) (h1 : i < 11) (h : ∀ x t, x ∈ goodW → Q (.str x t) s)
    (hs : subscripted slice false (.ref 488) (.int i u) = operate [.ref 488, .int i u] (getItem (.ref 488) (.int i u)) := by with_unfolding_all rfl) :
    wpAny (model prog w) A (subscriptTail value slice (.ref 488) (.int i u)) Q E s :=
  KTb.item_list (ws := goodW) (lstK X lk_488) (by repeat constructor) h0 (by exact h1) (by omega) (fun t _ => h _ t (getD_mem h0 (by exact h1))) hs
end
section
variable {w : World} {mean : ExcName → Option Value} {mg mb : Str → Option Value} {A : Around} {E : Value → Shared → Prop} {s : Shared} {h₀ : Heap} {L l : Addr} {m : Str → Option Value} {news : List (Addr × Obj)} {env : Env} {m₂ : Str → Option Value}
local macro_rules | `(tactic| walk_at "eval Name") => `(tactic| first
  | (refine nm_local (by assumption) (by assumption) (by assumption) (by assumption) ?_ (by decide))
  | (refine nm_glob (by assumption) (by assumption) (by assumption) (by assumption) (by assumption) (by assumption) ?_ (by decide)))
local macro_rules | `(tactic| walk_at "subscriptTail") => `(tactic| ((refine word_item (by assumption) (fmod_lt (by decide)).1 (fmod_lt (by decide)).2 ?_); intro _ _ _))
theorem words_elt {Q : Value → Shared → Prop} {n : Int} {t : Tok} {p1 p2 p3 p4 p5 : Pos} (hk : env.scope.kind = .function) (k1 : env.kindOf (Str.ofString "number") = some .local) (k2 : env.kindOf (Str.ofString "_law_words") = some .globalImplicit)
    (hg : env.globals = mainGlobals) (hn : s.heap.Ns env.locals m₂) (hm : m₂ (Str.ofString "number") = some (.int n t))
    (kp : ∀ b o, h₀.get? b = some o → s.heap.get? b = some o) (X : (hd.heap_39 w.params).In s.heap) (T : Top hd.view_39 LL mean mg mb h₀) (n2 : mg (Str.ofString "_law_words") = some (.ref 488)) 
    (h : ∀ x t tk, x ∈ goodW → Q (.str x t) { s with toks := tk }) :
    wpAny (model PySem.Challenge.rw_ez0290_01.row.prog w) A (eval (.Subscript (.Name (Str.ofString "_law_words") p1) (.BinOp (.Name (Str.ofString "number") p2) .Mod (.Constant (.int 11) 0 p3) p4) p5) env) Q E s := by
  w_top off
  k_with_none
  k_steps
  exact h _ _ _ (by assumption)
end
section
variable {prog : Program} {w : World} {A : Around} {E : Value → Shared → Prop} {s : Shared} {h₀ : Heap} {L l : Addr} {news : List (Addr × Obj)} {vs : List Value} {ws : List Str} {n : Nat} {y : Value} {Q : Bool → Shared → Prop}
theorem words_no (N : News h₀ L s.heap news) (hm : (l, W.listOf (List.toArray []) n) ∈ news) (h : ∀ tk, Q false { s with toks := tk }) : wpAny (model prog w) A (truthy (.ref l)) Q E s :=
  wpAny_truthy_list (News.isList N hm) (by decide) (by exact h _)
theorem words_yes (N : News h₀ L s.heap news) (hm : (l, W.listOf (List.toArray (y :: vs)) n) ∈ news) (hi : StrsAre vs ws) (hb : ws.length ≤ 100) (h : ∀ tk, Q true { s with toks := tk }) : wpAny (model prog w) A (truthy (.ref l)) Q E s := by
  have e : (List.toArray (y :: vs)).size = ws.length + 1 := by simp [hi.length]
  refine wpAny_truthy_list (News.isList N hm) (by rw [e]; omega) ?_
  have e2 : (!(List.toArray (y :: vs)).isEmpty) = true := by simp
  rw [e2]; exact h _
end
theorem paired_words : ∀ {vs ys : List Value}, Paired (fun (_ : Value) (y : Value) => ∃ x t, y = Value.str x t ∧ x ∈ goodW) vs ys → ∃ ws, StrsAre ys ws ∧ (∀ x ∈ ws, x ∈ goodW) ∧ ws.length = vs.length
  | _, _, .nil => ⟨[], .nil, (fun _ h => by cases h), rfl⟩
  | _, _, .cons ⟨x, t, e, hx⟩ r => by
    obtain ⟨ws, h1, h2, h3⟩ := paired_words r
    subst e
    exact ⟨x :: ws, .cons x t h1, fun y hy => (List.mem_cons.mp hy).elim (fun e => e ▸ hx) (h2 y), by simp [h3]⟩
section
variable {w : World} {mean : ExcName → Option Value} {mg mb : Str → Option Value} {A : Around} {E : Value → Shared → Prop} {s₁ : Shared} {h₀ : Heap} {L l : Addr} {m : Str → Option Value} {news : List (Addr × Obj)} {cn : Str} {cs : Scope} {a : Addr} {ccd : Value}
theorem words_src {Q : Flow → Shared → Prop} {z : Str} {scope : Scope} {vs : List Value} {ns : List Int} {p1 p2 p3 p4 p5 : Pos} (hh : A.handled = none) (hl : s₁.heap.IsList l vs.toArray) (hi : IntsAre vs ns) (hb : ns.length ≤ 10) (F : Fr h₀ L s₁.heap m) (N : News h₀ L s₁.heap news)
    (X : (hd.heap_39 w.params).In h₀) (T : Top hd.view_39 LL mean mg mb h₀) (hkind : scope.kind = .function) (k1 : ∀ C, (compEnv scope C (envX cn cs L a ccd [])).kindOf (Str.ofString "number") = some .local) (k2 : ∀ C, (compEnv scope C (envX cn cs L a ccd [])).kindOf (Str.ofString "_law_words") = some .globalImplicit)
    (h : ∀ D ys ws n h' tk, Fr h₀ L h' (fun q => if q = z then some (.ref D) else m q) → News h₀ L h' ((D, listOf (List.toArray ys) n) :: news) → (∀ p ∈ news, p.1 ≠ D) → StrsAre ys ws → (∀ x ∈ ws, x ∈ goodW) → ws.length = ns.length → Q .next { s₁ with heap := h', toks := tk }) :
    wpAny (model PySem.Challenge.rw_ez0290_01.row.prog w) A (pyIter (.ref l)) (CompPostA PySem.Challenge.rw_ez0290_01.row.prog w A (envX cn cs L a ccd []) scope (Str.ofString "number") z []
      (.Subscript (.Name (Str.ofString "_law_words") p1) (.BinOp (.Name (Str.ofString "number") p2) .Mod (.Constant (.int 11) 0 p3) p4) p5) Q) E s₁ := by
  have hlt : l < s₁.heap.objs.size := by obtain ⟨_, e, _⟩ := hl; exact Heap.lt_size e
  have up : ∀ b o, s₁.heap.get? b = some o → (s₁.heap.push { cls := .type "list_iterator", data := .fields #[.ref l, .int 0 0] }).get? b = some o := fun b o e => Heap.get?_push_of_some _ e
  refine wpAny_pyIter_list hl ?_
  refine ⟨fun _ => true, fun _ y => ∃ x t, y = Value.str x t ∧ x ∈ goodW, s₁.heap.objs.size, [s₁.heap.objs.size, l], [s₁.heap.objs.size], vs.toArray.size, _, _, m, rfl, Walks.list hh _ l (Nat.ne_of_lt hlt) vs.toArray, ?_,
    ⟨⟨_, Heap.get?_push_size _ rfl, rfl, rfl⟩, hl.at fun o e => Heap.get?_push_of_some _ e⟩, ?_, ?_, (F.push _).ns, ⟨?_, ?_⟩, ?_⟩
  · rw [List.size_toArray, hi.length, sizeLine_eq]; omega
  · intro b hb
    show b < (s₁.heap.push _).objs.size
    rw [Heap.size_push]
    rcases List.mem_cons.mp hb with rfl | hb
    · exact Nat.lt_succ_self _
    · rw [List.mem_singleton.mp hb]; exact Nat.lt_succ_of_lt hlt
  · intro hm
    exact absurd F.ns.lt ((List.mem_singleton.mp hm) ▸ Nat.lt_irrefl _)
  · intro C i v s₃ m₃ E' _ _ _ _ _
    exact wpAny_pure ⟨rfl, _, _, rfl, fun _ _ e => e⟩
  · intro C i v s₃ m₃ E' hP _ hn hm hk _
    obtain ⟨n, t, hv⟩ : ∃ n t, v = Value.int n t := by
      have hv : vs[i]? = some v := by simpa using hP
      obtain ⟨hl', rfl⟩ := List.getElem?_eq_some_iff.mp hv
      have hl2 : i < ns.length := by rw [← hi.length]; exact hl'
      obtain ⟨t, ht⟩ := hi.get i _ (List.getElem?_eq_getElem hl2)
      rw [List.getElem?_eq_getElem hl'] at ht
      exact ⟨_, t, Option.some.inj ht⟩
    subst hv
    have kp' : ∀ b o, h₀.get? b = some o → s₃.heap.get? b = some o := fun b o e => hk b o (not_iter_of_old (F.keep b o e)) (up b o (F.keep b o e))
    exact words_elt hkind (k1 C) (k2 C) rfl hn hm kp' (X.keeps kp') T (mg_of X T.g ns_words) fun x t tk hx => ⟨⟨x, t, rfl, hx⟩, _, _, rfl, fun _ _ e => e⟩
  · intro D h' tk ys vs' hnew hlD hplD hlen hP hF hn' hk
    have e' : vs' = vs := by simpa using walked_is hlen hP
    subst e'
    have ef : vs'.filter (fun _ => true) = vs' := List.filter_eq_self.mpr fun _ _ => rfl
    rw [ef] at hF
    obtain ⟨ws, h1, h2, h3⟩ := paired_words hF
    obtain ⟨n, hpl⟩ := hplD
    have hD : s₁.heap.get? D = none := by
      cases q : s₁.heap.get? D with
      | none => rfl
      | some o => rw [up D o q] at hnew; cases hnew
    refine h D ys.toList ws n h' tk ⟨hn', fun b o' e => hk b o' (Nat.ne_of_lt (Nat.lt_of_lt_of_le (Heap.lt_size e) F.above)) (not_iter_of_old (F.keep b o' e)) (up b o' (F.keep b o' e)), F.above⟩ (fun p hp => ?_) (fun p hp e => ?_) h1 h2 (by rw [h3, hi.length])
    · rcases List.mem_cons.mp hp with rfl | hp
      · refine ⟨by rw [Array.toArray_toList]; exact hpl, fun e => ?_, ?_⟩
        · obtain ⟨oL, _, _, hL, _⟩ := F.ns
          have e' : D = L := e
          rw [e', hL] at hD; cases hD
        · cases e : h₀.get? D with
          | none => rfl
          | some o' => rw [F.keep _ _ e] at hD; cases hD
      · exact ⟨hk _ _ (N p hp).2.1 (not_iter_of_old (N p hp).1) (up _ _ (N p hp).1), (N p hp).2⟩
    · rw [← e, (N p hp).1] at hD; cases hD
end
end Mine
end

section
open PySem PySem.W PySem.Spec PySem.Calls PyProof.Rows
set_option maxRecDepth 100000
namespace Mine
def headsOf (mk : Str) : List Str := [Str.ofString "P" ++ mk, Str.ofString "p" ++ Txt.lower mk, Str.ofString "p" ++ mk]
/-- the sizes and the texts of a turn -/
structure TxtF (mk kd : Str) (ws : List Str) : Prop where
  kd5 : kd.length ≤ 5
  mk5 : mk.length ≤ 5
  lo5 : (Txt.lower mk).length ≤ 5
  jn : (Txt.join (Str.ofString ",") ws).length ≤ 60
  jw : (ws.map (·.length)).sum + ws.length ≤ 1000
  rest1 : (mk == Str.ofString "SXN") = true → Str.ofString "," ++ kd ++ Str.ofString "," ++ Txt.join (Str.ofString ",") ws = restT mk kd ws
  rest0 : (mk == Str.ofString "SXN") = false → Str.ofString "" ++ kd ++ Str.ofString "," ++ Txt.join (Str.ofString ",") ws = restT mk kd ws
  rl : (restT mk kd ws).length ≤ 100
  hl : ∀ x ∈ headsOf mk, x.length ≤ 8 ∧ ∀ c ∈ chs (x ++ restT mk kd ws), c < 128
section
variable {w : World} {mean : ExcName → Option Value} {mg mb : Str → Option Value} {A A₀ : Around} {cn : Str} {cs : Scope} {a : Addr} {ccd : Value} {cl : List (Str × Addr)} {outer : List Env} {base h₀ : Heap} {L : Addr} {m : Str → Option Value} {news : List (Addr × Obj)} {s : Shared} {Q E : Value → Shared → Prop}
theorem Cx.news' {k : Nat} {h : Heap} {news' : List (Addr × Obj)} (C : Cx w mean mg mb A A₀ base h₀ outer cn cs a ccd cl L m news h k) (N : News h₀ L h news') : Cx w mean mg mb A A₀ base h₀ outer cn cs a ccd cl L m news' h k :=
  ⟨C.B, C.F, C.X, N, C.T, C.hk, C.hA, C.hh, C.hdp, C.hun⟩
theorem line_use {Hs : List Str} {R x : Str} {t : Tok} (C : Cx w mean mg mb A A₀ base h₀ outer cn cs a ccd cl L m news s.heap 3) (hs : ∀ x ∈ Hs, x.length ≤ 8 ∧ ∀ c ∈ chs (x ++ R), c < 128) (hR : R.length ≤ 100) (hx : x ∈ Hs)
    (ret : ∀ t' h' tk', Fr h₀ L h' m → News h₀ L h' news → Q (.str (lineB (x ++ R)) t') { s with heap := h', toks := tk' }) :
    wpAny (model PySem.Challenge.rw_ez0290_01.row.prog w) A (call (.ref 509) [.str (x ++ R) t]) Q E s := by
  obtain ⟨e1, e2, _⟩ := ck_facts (hs x hx).2
  have hl := (hs x hx).1
  refine c_line C (by rw [PySem.Str.length_append]; omega) (by rw [e2]; omega) (by rw [e2]; omega) fun t' h' tk' F' N' => ?_
  rw [e2, lineX_is e1]
  exact ret t' h' tk' F' N'
theorem par_use {x : Str} {MM : List (Addr × Obj) → Addr → Prop} {t : Tok} {am : Addr} {o : Obj} (P : ParC w mean mg mb x MM) (hmono : ∀ led led' x, MM led x → (∀ p ∈ led, p ∈ led') → MM led' x) (C : Cx w mean mg mb A A₀ base h₀ outer cn cs a ccd cl L m news s.heap 40) (hm : (am, o) ∈ news)
    (hdo : o.IsDictOf (PySem.strKind PySem.Challenge.rw_ez0290_01.row.prog w) kvM) (hlo : (am == sysModules) = false)
    (ret : ∀ x h' tk' led, Fr h₀ L h' m → News h₀ L h' led → Ext news led → MM led x → Q (.ref x) { s with heap := h', toks := tk' }) :
    wpAny (model PySem.Challenge.rw_ez0290_01.row.prog w) A (call (.ref 124) [.str x t, .ref am]) Q E s := by
  refine P _ _ _ _ _ _ _ _ _ _ _ _ _ _ _ _ _ _ _ (C.news' (news_dup C.N hm)) hdo hlo fun x h' tk' led F' N' E' M' => ?_
  obtain ⟨led3, N3, E3, sub⟩ := ext_undup hm E' N'
  exact ret x h' tk' led3 F' N3 E3 (hmono _ _ _ M' sub)
theorem due_use {l : Addr} {vs : List Value} {n : Nat} {ws : List Str} {mk kd : Str} {t1 t2 : Tok} (C : Cx w mean mg mb A A₀ base h₀ outer cn cs a ccd cl L m news s.heap 10) (hm : (l, W.listOf vs.toArray n) ∈ news) (hS : StrsAre vs ws) (hb : ws.length ≤ 7) (hk5 : kd.length ≤ 5)
    (ret : ∀ r h' tk' tl, Fr h₀ L h' m → News h₀ L h' (tl ++ news) → Off news tl → RdIn (tl ++ [(l, W.listOf vs.toArray n)]) r (dueD mk kd ws) → Q r { s with heap := h', toks := tk' }) :
    wpAny (model PySem.Challenge.rw_ez0290_01.row.prog w) A (call (.ref 542) [.str mk t1, .str kd t2, .ref l]) Q E s :=
  c_due (C.news' (news_dup C.N hm)) hS (by omega) hk5 fun r h' tk' tl F' N' off rd => ret r h' tk' tl F' (news_undup N') (off_undup off) rd
theorem lower_use {prog : Program} {x : Str} {t : Tok} (hx : x.length ≤ 1000) (h : ∀ k tk, Q (.str (Txt.lower x) k) { s with toks := tk }) : wpAny (model prog w) A (call (.builtin "str.lower") [.str x t]) Q E s :=
  SCL.lower (by omega) fun _ => h _ _
theorem pick_txt {prog : Program} {value slice : PySem.Expr} {D : Addr} {vs : List Value} {ws : List Str} {n : Nat} {k : Int} {u : Tok} (N : News h₀ L s.heap news) (hm : (D, W.listOf vs.toArray n) ∈ news) (hi : StrsAre vs ws) (hb : ws.length ≤ 100) (h0 : 0 ≤ k) (h1 : k < ws.length) (h : ∀ x t, x ∈ ws → Q (.str x t) s)
    (hs : subscripted slice false (.ref D) (.int k u) = operate [.ref D, .int k u] (getItem (.ref D) (.int k u)) := by with_unfolding_all rfl) (hg : ∀ r, letTemporaryGo value (.ref D) r = pure () := by intro _; with_unfolding_all rfl) :
    wpAny (model prog w) A (subscriptTail value slice (.ref D) (.int k u)) Q E s :=
  item_txt (News.isList N hm) hi hb h0 h1 (fun t => h _ t (getD_mem h0 h1)) hs hg
end
theorem ll_comma : (Str.ofString ",").length = 1 := by decide +kernel
theorem ll_nil : (Str.ofString "").length = 0 := by decide +kernel
theorem ll_P : (Str.ofString "P").length = 1 := by decide +kernel
theorem ll_p : (Str.ofString "p").length = 1 := by decide +kernel
/-- the rest of the line -/
def V4 (mk kd : Str) (ws : List Str) (m : Str → Option Value) (led : List (Addr × Obj)) : Prop :=
  ∃ rl rvs rns rn t1 t2 t3 wl wvs wn, m (Str.ofString "row") = some (.ref rl) ∧ (rl, W.listOf (List.toArray rvs) rn) ∈ led ∧ IntsAre rvs rns ∧ rns.length ≤ 10 ∧ m (Str.ofString "maker") = some (.str mk t1) ∧ m (Str.ofString "kind") = some (.str kd t2) ∧
    m (Str.ofString "words") = some (.ref wl) ∧ (wl, W.listOf (List.toArray wvs) wn) ∈ led ∧ StrsAre wvs ws ∧ m (Str.ofString "rest") = some (.str (restT mk kd ws) t3)
/-- the line -/
def V5 (mk kd : Str) (ws : List Str) (m : Str → Option Value) (led : List (Addr × Obj)) : Prop :=
  ∃ x t1 t2 t3 t4 wl wvs wn, m (Str.ofString "maker") = some (.str mk t1) ∧ m (Str.ofString "kind") = some (.str kd t2) ∧ m (Str.ofString "words") = some (.ref wl) ∧ (wl, W.listOf (List.toArray wvs) wn) ∈ led ∧ StrsAre wvs ws ∧
    m (Str.ofString "rest") = some (.str (restT mk kd ws) t3) ∧ x ∈ headsOf mk ∧ m (Str.ofString "line") = some (.str (lineB (x ++ restT mk kd ws)) t4)
/-- the message, and what is due -/
def V6 (tA dA : Addr) (mk kd : Str) (ws : List Str) (MM : List (Addr × Obj) → Addr → Prop) (m : Str → Option Value) (led : List (Addr × Obj)) : Prop :=
  ∃ x r t1 t3 tl wl wvs wn, m (Str.ofString "maker") = some (.str mk t1) ∧ m (Str.ofString "rest") = some (.str (restT mk kd ws) t3) ∧ m (Str.ofString "msg") = some (.ref x) ∧ m (Str.ofString "one") = some r ∧ MM led x ∧
    (wl, W.listOf (List.toArray wvs) wn) ∈ led ∧ StrsAre wvs ws ∧ RdIn (tl ++ [(wl, W.listOf (List.toArray wvs) wn)]) r (dueD mk kd ws) ∧ ∀ p ∈ tl, p ∈ led ∧ p.1 ≠ tA ∧ p.1 ≠ dA
end Mine
end

section
open PySem PySem.W PySem.W.X PySem.Spec PySem.Calls PyProof.Rows
namespace Mine
local macro_rules | `(tactic| k_room) => `(tactic| ktr_room)
local macro_rules | `(tactic| units_room) => `(tactic| ktr_units)
local macro_rules | `(tactic| k_units) => `(tactic| ktr_units)
local macro_rules | `(tactic| walk_at "call builtin:len") => `(tactic| (k_here; (with_reducible show wpAny _ _ (call (Value.builtin "len") [Value.ref _]) _ _ _); k_dflt (refine' len_txt ?k1 ?k2 ?k3 ?_; (case k1 => first | is_list | exact News.isList (by k_asm) (by k_mem)); (case k2 => with_reducible assumption); (case k3 => omega); k_whole)))
local macro_rules | `(tactic| walk_at "subscriptTail") => `(tactic| (k_here; (with_reducible show wpAny _ _ (subscriptTail _ _ (Value.ref _) (Value.int _ _)) _ _ _); (with_unfolding_all refine' item_txt ?k1 ?k2 ?k3 ?k4 ?k5 ?_ ?k6 ?k7; (case k1 => first | is_list | exact News.isList (by k_asm) (by k_mem)); (case k2 => with_reducible assumption); (case k3 => omega); (case k4 => first | decide | omega); (case k5 => omega); (case k6 => with_unfolding_all rfl); (case k7 => intro _; with_unfolding_all rfl); k_whole); intro _))
variable {w : World} {mean : ExcName → Option Value} {mg mb : Str → Option Value} {A A₀ : Around} {cn : Str} {cs : Scope} {a : Addr} {ccd : Value} {cl : List (Str × Addr)} {outer : List Env} {base h₀ : Heap} {L : Addr} {m : Str → Option Value} {news : List (Addr × Obj)} {s : Shared} {Q E : Value → Shared → Prop}
set_option maxRecDepth 100000 in
set_option maxHeartbeats 8000000 in
theorem c_makers (C : Cx w mean mg mb A A₀ base h₀ outer cn cs a ccd cl L m news s.heap 3)
    (ret : ∀ l vs h' tk', Fr h₀ L h' m → News h₀ L h' ((l, listOf vs.toArray 0) :: news) → (∀ p ∈ news, p.1 < l) → StrsAre vs [Str.ofString "SRF", Str.ofString "SXN", Str.ofString "NOR", Str.ofString "XYZ"] → Q (.ref l) { s with heap := h', toks := tk' }) :
    wpAny (model PySem.Challenge.rw_ez0290_01.row.prog w) A (call (.ref 482) []) Q E s := by
  w_top off
  k_with_none
  obtain ⟨B, F, X, N, T, hk, hA, hh, hdp, hun⟩ := C
  obtain ⟨hd, dp, fr, gd, un⟩ := A
  dsimp only at hA hh hdp hun
  subst hA hh
  revert X; k_fill; intro X
  refine wpAny_call ?_
  k_dflt ktr_enter
  k_steps
  all_goals exact ret _ _ _ _ (by k_asm) (by k_asm) (by assumption) (by repeat constructor)
end Mine
end

section
open PySem PySem.W PySem.Spec PySem.Calls PyProof.Rows
set_option maxRecDepth 100000
namespace Mine
/-- a fact put aside -/
def Hold (p : Prop) : Prop := p
section
variable {prog : Program} {w : World} {A : Around} {E : Value → Shared → Prop} {s : Shared} {h₀ : Heap} {L : Addr} {news : List (Addr × Obj)} {Q : Value → Shared → Prop} {mk kd : Str} {ws : List Str}
theorem head_item {value slice : PySem.Expr} {D : Addr} {vs : List Value} {n : Nat} {k : Int} {u : Tok} (txt : TxtF mk kd ws) (N : News h₀ L s.heap news) (hm : (D, W.listOf vs.toArray n) ∈ news) (hi : StrsAre vs (headsOf mk)) (h0 : 0 ≤ k) (h1 : k < 3) (h : ∀ x t, x ∈ headsOf mk → x.length ≤ 8 → Q (.str x t) s)
    (hs : subscripted slice false (.ref D) (.int k u) = operate [.ref D, .int k u] (getItem (.ref D) (.int k u)) := by with_unfolding_all rfl) (hg : ∀ r, letTemporaryGo value (.ref D) r = pure () := by intro _; with_unfolding_all rfl) :
    wpAny (model prog w) A (subscriptTail value slice (.ref D) (.int k u)) Q E s :=
  pick_txt N hm hi (by show 3 ≤ 100; omega) h0 (by exact h1) (fun x t hx => h x t hx (txt.hl x hx).1) hs hg
end
theorem v6_off {led led6 tl : List (Addr × Obj)} {tA dA : Addr} {oT oD : Obj} (off : Off led tl) (E : Ext led6 led) (ht : (tA, oT) ∈ led6) (hd : (dA, oD) ∈ led6) : ∀ p ∈ tl, p ∈ tl ++ led ∧ p.1 ≠ tA ∧ p.1 ≠ dA := fun p hp =>
  ⟨List.mem_append_left _ hp, off _ (E.sub _ ht) p hp, off _ (E.sub _ hd) p hp⟩
end Mine
end

section
open PySem PySem.W PySem.Spec PySem.Calls PyProof.Rows
set_option maxRecDepth 100000
namespace Mine
section
variable {h₀ h h' : Heap} {L tA dA : Addr} {m m' : Str → Option Value} {tvs dvs : List Value} {tn dn : Nat} {B D led tl : List (Addr × Obj)}
theorem st_open (S : St h₀ L m tA dA tvs dvs tn dn B h) (F : Fr h₀ L h' m') (N : News h₀ L h' led) (E : Ext ((tA, W.listOf tvs.toArray tn) :: (dA, W.listOf dvs.toArray dn) :: B) led) :
    ∃ tl, led = tl ++ (tA, W.listOf tvs.toArray tn) :: (dA, W.listOf dvs.toArray dn) :: B ∧ St h₀ L m' tA dA tvs dvs tn dn (tl ++ B) h' ∧ Ext B (tl ++ B) := by
  obtain ⟨tl, rfl, off⟩ := E
  exact ⟨tl, rfl, S.grow F N off, tl, rfl, fun q hq => off q (.tail _ (.tail _ hq))⟩
theorem rd_open {l : Addr} {vs : List Value} {n : Nat} {ds : List Str} {K : List (Addr × Obj)} {r : Value} {d : Dat} (rd : RdIn (K ++ [(l, W.listOf vs.toArray n)]) r d) (hk : ∀ p ∈ K, p ∈ tl ++ (tA, W.listOf tvs.toArray tn) :: (dA, W.listOf dvs.toArray dn) :: B ∧ p.1 ≠ tA ∧ p.1 ≠ dA)
    (hm : (l, W.listOf vs.toArray n) ∈ tl ++ (tA, W.listOf tvs.toArray tn) :: (dA, W.listOf dvs.toArray dn) :: B) (hS : StrsAre vs ds) (hd : ds ≠ []) (h1 : HeadL tvs) (h2 : HeadL dvs) : RdIn (tl ++ B) r d :=
  rd.mono fun p hp => by
    rcases List.mem_append.mp hp with hp | hp
    · obtain ⟨k1, k2, k3⟩ := hk p hp
      exact mem_drop k1 (fun e => k2 (by rw [e])) fun e => k3 (by rw [e])
    · rw [List.mem_singleton.mp hp]
      exact mem_drop hm (strs_ne hS hd h1) (strs_ne hS hd h2)
mutual
theorem rd_drop {tI : Addr} {oI : Obj} (hc : oI.cls = .type "tuple_iterator") : ∀ {v : Value} {d : Dat}, RdIn (tl ++ (tI, oI) :: B) v d → RdIn (tl ++ B) v d
  | _, _, .none => .none
  | _, _, .bool b => .bool b
  | _, _, .int i t => .int i t
  | _, _, .str x t => .str x t
  | _, _, .list (a := a) (o := o) hm h1 h2 r => .list (a := a) (o := o) (by
      rcases List.mem_append.mp hm with hm | hm
      · exact List.mem_append_left _ hm
      · rcases List.mem_cons.mp hm with hm | hm
        · have e : o = oI := congrArg Prod.snd hm
          rw [e, hc] at h1
          exact absurd h1 (by decide)
        · exact List.mem_append_right _ hm) h1 h2 (rd_dropAll hc r)
theorem rd_dropAll {tI : Addr} {oI : Obj} (hc : oI.cls = .type "tuple_iterator") : ∀ {vs : List Value} {ds : List Dat}, RdAll (tl ++ (tI, oI) :: B) vs ds → RdAll (tl ++ B) vs ds
  | _, _, .nil => .nil
  | _, _, .cons h r => .cons (rd_drop hc h) (rd_dropAll hc r)
end
theorem headL_app {vs : List Value} {v : Value} {a : Addr} (h : HeadL vs) (e : v = .ref a) : HeadL (vs ++ [v]) := by
  rcases h with rfl | ⟨b, r, rfl⟩
  · exact .inr ⟨a, [], by rw [e]; rfl⟩
  · exact .inr ⟨b, r ++ [v], rfl⟩
theorem headL_more {vs : List Value} {a : Addr} {r us : List Value} (e : vs = .ref a :: r) : HeadL (vs ++ us) := .inr ⟨a, r ++ us, by rw [e]; rfl⟩
theorem due_list (mk kd : Str) (ws : List Str) : ∃ l, dueD mk kd ws = .list l := by
  unfold dueD dueSRF dueSXN dueNOR dueXYZ
  repeat' split
  all_goals exact ⟨_, rfl⟩
end
section
variable {w : World} {mean : ExcName → Option Value} {mg mb : Str → Option Value} {A A₀ : Around} {cn : Str} {cs : Scope} {a : Addr} {ccd : Value} {base h₀ : Heap} {L tA dA Kl x : Addr} {m : Str → Option Value} {D : List (Addr × Obj)} {s : Shared} {Q E : Value → Shared → Prop} {tvs dvs : List Value} {tn dn : Nat} {mk kd : Str} {ws : List Str} {MM : List (Addr × Obj) → Addr → Prop}
/-- the message is read and what is read is told -/
theorem read_app (kit : Kit w mean mg mb mk kd ws Kl MM) (S : St h₀ L m tA dA tvs dvs tn dn D s.heap) (C : Cx w mean mg mb A A₀ base h₀ [] cn cs a ccd [] L m ((tA, W.listOf tvs.toArray tn) :: (dA, W.listOf dvs.toArray dn) :: D) s.heap 31) (XB : (hd.heap_39 w.params).In base) (TB : Top hd.view_39 LL mean mg mb base) (hM : MM D x) (h1 : HeadL tvs) (h2 : HeadL dvs) (hz : tvs.length ≤ 1000)
    (h : ∀ h' tk' tl r, St h₀ L m tA dA (tvs ++ [r]) dvs (tn + 1) dn (tl ++ D) h' → Ext D (tl ++ D) → RdIn (tl ++ D) r (dueD mk kd ws) → Q .none { s with heap := h', toks := tk' }) :
    wpC (model PySem.Challenge.rw_ez0290_01.row.prog w) A (call (.ref 521) [.ref x]) (fun v s' => wpC (model PySem.Challenge.rw_ez0290_01.row.prog w) A (call (.builtin "list.append") [.ref tA, v]) Q E s') E s := by
  refine kit.rd _ _ _ _ _ _ _ _ _ _ _ _ _ _ _ C XB TB (kit.mono _ _ _ hM fun p hp => .tail _ (.tail _ hp)) fun r h' tk' tl l vs n ds F' N' off hm hS hd rd => ?_
  have S' := S.grow F' N' off
  refine wpC_of (app_told (s := { s with heap := h', toks := tk' }) S' hz fun h'' S'' => h h'' tk' tl r S'' ⟨tl, rfl, fun q hq => off q (.tail _ (.tail _ hq))⟩ ?_)
  refine rd.mono fun p hp => ?_
  rcases List.mem_append.mp hp with hp | hp
  · exact List.mem_append_left _ hp
  · rw [List.mem_singleton.mp hp]
    exact List.mem_append_right _ (mem_drop (tl := []) hm (strs_ne hS hd h1) (strs_ne hS hd h2))
/-- the message's method -/
theorem render_use {pl : Sem Bool} {prog : Program} {Q : Value × List Value → Shared → Prop} (kit : Kit w mean mg mb mk kd ws Kl MM) (S : St h₀ L m tA dA tvs dvs tn dn D s.heap) (X : (hd.heap_39 w.params).In h₀) (hM : MM D x)
    (h : ∀ q h', St h₀ L m tA dA tvs dvs tn dn ((q, methodObj (.ref 154) (.ref x)) :: D) h' → Ext D ((q, methodObj (.ref 154) (.ref x)) :: D) → Q (.ref q, []) { s with heap := h', toks := s.toks + 1 }) :
    wpAny (model prog w) A (getMethod (.ref x) (Str.ofString "render") pl) Q E s := by
  obtain ⟨dx, es, nd, a1, a2, a3⟩ := kit.ins _ _ hM
  refine hook_method S.F X S.N (InstAt.of_news S.N (.tail _ (.tail _ a1)) (.tail _ (.tail _ a2))) kit.gf kit.mr a3 fun q h' F' N' lt => ?_
  refine h q h' (S.grow (tl := [(q, methodObj (.ref 154) (.ref x))]) F' N' fun q' hq p hp => ?_) (ext_cons (fun p hp => lt p (.tail _ (.tail _ hp))) ext_nil)
  rw [List.mem_singleton.mp hp]
  exact Nat.ne_of_gt (lt q' hq)
theorem ren_use {cl : List (Str × Addr)} {outer : List Env} {q : Addr} (kit : Kit w mean mg mb mk kd ws Kl MM) (S : St h₀ L m tA dA tvs dvs tn dn D s.heap) (C : Cx w mean mg mb A A₀ base h₀ outer cn cs a ccd cl L m ((tA, W.listOf tvs.toArray tn) :: (dA, W.listOf dvs.toArray dn) :: D) s.heap 41) (hq : (q, methodObj (.ref 154) (.ref x)) ∈ D) (hM : MM D x)
    (h : ∀ t h' tk', St h₀ L m tA dA tvs dvs tn dn D h' → Q (.str (lineB (Str.ofString "P" ++ mk ++ restT mk kd ws)) t) { s with heap := h', toks := tk' }) :
    wpAny (model PySem.Challenge.rw_ez0290_01.row.prog w) A (call (.ref q) [.bool true, .bool true, .bool false]) Q E s :=
  call_meth S.N (.tail _ (.tail _ hq)) (kit.ren _ _ _ _ _ _ _ _ _ _ _ _ _ _ _ _ _ C (kit.mono _ _ _ hM fun p hp => .tail _ (.tail _ hp)) fun t h' tk' F' N' => h t h' tk' (S.same F' N'))
end
end Mine
end

section
open PySem PySem.W PySem.Spec PySem.Calls PyProof.Rows
set_option maxRecDepth 100000
namespace Mine
section
variable {h₀ h : Heap} {L tA dA tI tT am ls : Addr} {m : Str → Option Value} {tvs dvs : List Value} {tn dn : Nat} {B D D' : List (Addr × Obj)} {oI oM : Obj} {tup : Array Value}
theorem St.sub (S : St h₀ L m tA dA tvs dvs tn dn D h) (hs : ∀ p ∈ D', p ∈ D) : St h₀ L m tA dA tvs dvs tn dn D' h :=
  ⟨S.F, fun p hp => S.N p (by
    rcases List.mem_cons.mp hp with rfl | hp
    · exact .head _
    · rcases List.mem_cons.mp hp with rfl | hp
      · exact .tail _ (.head _)
      · exact .tail _ (.tail _ (hs p hp))), S.td, fun p hp => S.ot p (hs p hp), fun p hp => S.od p (hs p hp)⟩
theorem headL3 {vs us : List Value} {v : Value} {a : Addr} (h : HeadL vs) (e : v = .ref a) : HeadL (vs ++ [v] ++ us) := by
  rcases h with rfl | ⟨b, r, rfl⟩
  · exact .inr ⟨a, us, by rw [e]; rfl⟩
  · exact .inr ⟨b, r ++ [v] ++ us, by simp⟩
theorem due_ref {led : List (Addr × Obj)} {r : Value} {mk kd : Str} {ws : List Str} (h : RdIn led r (dueD mk kd ws)) : ∃ a, r = .ref a := by
  obtain ⟨l, e⟩ := due_list mk kd ws
  rw [e] at h
  exact rd_ref h
/-- the law's state behind a turn -/
theorem turn_end {j i : Nat} {D12 : List (Addr × Obj)} {es : List Dat} (S : St h₀ L m tA dA tvs dvs tn dn D12 h) (ED : Ext ((tI, oI) :: D) D12) (c1 : oI.cls = .type "tuple_iterator") (c2 : oI.data = .fields #[.ref tT, .int j 0]) (c3 : ∀ p ∈ D, p.1 ≠ tI) (hoM : (am, oM) ∈ D)
    (hT : ∃ oT n, (tT, oT) ∈ D ∧ oT.cls = .type "tuple" ∧ oT.data = .seq tup n) (r1 : RdAll D12 tvs es) (r2 : RdAll D12 dvs es) (hp : ∃ ps, PyOfAll 10 es ps) (b1 : Cap i tvs) (b2 : Cap i dvs)
    (hm : m (Str.ofString "told") = some (.ref tA) ∧ m (Str.ofString "due") = some (.ref dA) ∧ m (Str.ofString "makers") = some (.ref am) ∧ m (Str.ofString "script") = some (.ref ls)) : LInv h₀ L am oM ls tT tI tA dA tup j i (fun _ => True) h := by
  obtain ⟨tl, rfl, off⟩ := ED
  obtain ⟨oT, n, t1, t2, t3⟩ := hT
  refine ⟨m, tvs, dvs, tn, dn, tl ++ D, es, oI, S.sub fun p hp => ?_, c1, c2, fun p hp => ?_, List.mem_append_right _ hoM, ⟨oT, n, List.mem_append_right _ t1, t2, t3⟩, rd_dropAll c1 r1, rd_dropAll c1 r2, hp, b1, b2, hm, trivial⟩
  · rcases List.mem_cons.mp hp with rfl | hp
    · exact List.mem_append_right _ (.head _)
    · rcases List.mem_append.mp hp with hp | hp
      · exact List.mem_append_left _ hp
      · exact List.mem_append_right _ (.tail _ hp)
  · rcases List.mem_append.mp hp with hp | hp
    · exact off _ (.head _) p hp
    · exact c3 p hp
theorem cap_more {i : Nat} {vs us : List Value} {v : Value} {a : Addr} (b : Cap i vs) (e : v = .ref a) (hu : us.length = 2) : Cap (i + 1) (vs ++ [v] ++ us) :=
  ⟨by rw [List.length_append, List.length_append, hu]; have := b.1; simp only [List.length_cons, List.length_nil]; omega, headL3 b.2 e⟩
end
end Mine
end

section
open PySem PySem.W PySem.Spec PySem.Calls PyProof.Rows
set_option maxRecDepth 100000
namespace Mine
section words
open PySem.W.KIN Builtin Builtin.Str PySem.NumText
theorem ok_int {x : PySem.Str} {n : Int} (h1 : PySem.intText? x = some n) (h2 : x.length ≤ 640) (h3 : wholeP x = .int n) : WordOk x := .inr (.inl ⟨n, h1, h2, h3⟩)
theorem ok_bad {x : PySem.Str} (h1 : (int_private% "readNumeral") 0 10 (numSeenOf x) = (int_private% "Numeral.invalid")) (h2 : (numSeenOf x).length ≤ 640) (h3 : (reprText x).length ≤ 1000) (h4 : wholeP x = .str x) : WordOk x := .inr (.inr ⟨⟨h1, h2, h3⟩, h4⟩)
theorem ok_7 : WordOk (PySem.Str.ofString "7") := ok_int (n := 7) (by decide +kernel) (by decide +kernel) (by kernel_rfl)
theorem ok_0 : WordOk (PySem.Str.ofString "0") := ok_int (n := 0) (by decide +kernel) (by decide +kernel) (by kernel_rfl)
theorem ok_m3 : WordOk (PySem.Str.ofString "-3") := ok_int (n := -3) (by decide +kernel) (by decide +kernel) (by kernel_rfl)
theorem ok_007 : WordOk (PySem.Str.ofString "007") := ok_int (n := 7) (by decide +kernel) (by decide +kernel) (by kernel_rfl)
theorem ok_p12 : WordOk (PySem.Str.ofString "+12") := ok_int (n := 12) (by decide +kernel) (by decide +kernel) (by kernel_rfl)
theorem ok_20 : WordOk (PySem.Str.ofString "20") := ok_int (n := 20) (by decide +kernel) (by decide +kernel) (by kernel_rfl)
theorem ok_21 : WordOk (PySem.Str.ofString "21") := ok_int (n := 21) (by decide +kernel) (by decide +kernel) (by kernel_rfl)
theorem ok_x : WordOk (PySem.Str.ofString "x") := ok_bad (by kernel_rfl) (by decide +kernel) (by decide +kernel) (by kernel_rfl)
theorem ok_BEAM : WordOk (PySem.Str.ofString "BEAM") := ok_bad (by kernel_rfl) (by decide +kernel) (by decide +kernel) (by kernel_rfl)
theorem ok_12 : WordOk (PySem.Str.ofString "1 2") := ok_bad (by kernel_rfl) (by decide +kernel) (by decide +kernel) (by kernel_rfl)
theorem ok_15 : WordOk (PySem.Str.ofString "1.5") := ok_bad (by kernel_rfl) (by decide +kernel) (by decide +kernel) (by kernel_rfl)
theorem ok_2d : WordOk (PySem.Str.ofString "2.0") := ok_bad (by kernel_rfl) (by decide +kernel) (by decide +kernel) (by kernel_rfl)
theorem ok_e : WordOk (PySem.Str.ofString "") := .inl rfl
end words
theorem wordOk_W : ∀ x ∈ goodW, WordOk x := by
  have h : ∀ x ∈ [Str.ofString "7", Str.ofString "", Str.ofString "0", Str.ofString "x", Str.ofString "-3", Str.ofString "007", Str.ofString "BEAM", Str.ofString "1 2", Str.ofString "+12", Str.ofString "1.5", Str.ofString "2.0"], WordOk x := by
    intro x hx
    simp only [List.mem_cons, List.not_mem_nil, or_false] at hx
    rcases hx with rfl | rfl | rfl | rfl | rfl | rfl | rfl | rfl | rfl | rfl | rfl
    · exact ok_7
    · exact ok_e
    · exact ok_0
    · exact ok_x
    · exact ok_m3
    · exact ok_007
    · exact ok_BEAM
    · exact ok_12
    · exact ok_p12
    · exact ok_15
    · exact ok_2d
  exact h
/-- the sixteen makers and kinds -/
theorem kinds_ok : makerKinds.all (fun p => decide (p.1.length ≤ 5) && decide ((Txt.lower p.1).length ≤ 5) && ([Str.ofString "P" ++ p.1, Str.ofString "p" ++ Txt.lower p.1, Str.ofString "p" ++ p.1].all fun h => headOk h (Str.ofString "P" ++ p.1) p.1) && p.2.all fun k => decide (k.length ≤ 5) && (chs k).all fun c => decide (c < 128) && !(c == 42) && !(c == 44)) = true := by decide +kernel
theorem kind_facts {mk kd : Str} (h : KindOk mk kd) : mk.length ≤ 5 ∧ (Txt.lower mk).length ≤ 5 ∧ (∀ h4 ∈ [Str.ofString "P" ++ mk, Str.ofString "p" ++ Txt.lower mk, Str.ofString "p" ++ mk], headOk h4 (Str.ofString "P" ++ mk) mk = true) ∧ kd.length ≤ 5 ∧ Plain kd := by
  obtain ⟨p, hp, rfl, hk⟩ := h
  have e := List.all_eq_true.mp kinds_ok p hp
  simp only [Bool.and_eq_true] at e
  obtain ⟨⟨⟨e1, e2⟩, e3⟩, e4⟩ := e
  have e5 := List.all_eq_true.mp e4 kd hk
  rw [Bool.and_eq_true] at e5
  exact ⟨of_decide_eq_true e1, of_decide_eq_true e2, List.all_eq_true.mp e3, of_decide_eq_true e5.1, plain_bool e5.2⟩
section
variable {mk kd : Str} {ws : List Str}
theorem ps_ne : psOf mk kd ws ≠ [] := by unfold psOf; split <;> exact List.cons_ne_nil _ _
theorem ps_plain (hk : Plain kd) (hg : ∀ x ∈ ws, x ∈ goodW) : ∀ p ∈ psOf mk kd ws, Plain p := by
  have e : Plain (Str.ofString "") := plain_bool (by decide +kernel)
  have h1 : ∀ p ∈ kd :: ws, Plain p := fun p hp => (List.mem_cons.mp hp).elim (fun e => e ▸ hk) fun hp => (plain_W p (hg p hp)).1
  unfold psOf
  split
  · exact fun p hp => (List.mem_cons.mp hp).elim (fun q => q ▸ e) (h1 p)
  · exact h1
theorem ws_sum (hg : ∀ x ∈ ws, x ∈ goodW) (h7 : ws.length ≤ 7) : (ws.map (·.length)).sum ≤ 28 := by
  have := sum_le (B := 4) (l := ws) fun x hx => (plain_W x (hg x hx)).2
  omega
theorem ps_sum (hk : kd.length ≤ 5) (hg : ∀ x ∈ ws, x ∈ goodW) (h7 : ws.length ≤ 7) : ((psOf mk kd ws).map (·.length)).sum ≤ 33 ∧ (psOf mk kd ws).length ≤ 9 := by
  have h1 := ws_sum hg h7
  have e : (Str.ofString "").length = 0 := by decide +kernel
  unfold psOf
  split
  · simp only [List.map_cons, List.sum_cons, List.length_cons, e]; omega
  · simp only [List.map_cons, List.sum_cons, List.length_cons]; omega
theorem rest_len (hk : kd.length ≤ 5) (hg : ∀ x ∈ ws, x ∈ goodW) (h7 : ws.length ≤ 7) : (restT mk kd ws).length ≤ 42 := by
  have h1 := ps_sum (mk := mk) hk hg h7
  have h2 := join_len (psOf mk kd ws)
  unfold restT
  omega
theorem nil_app (x : Str) : Str.ofString "" ++ x = x := by
  have e : Str.ofString "" = Str.empty := by decide +kernel
  rw [e]; exact PySem.Str.empty_append x
theorem join_kd (hne : ws ≠ []) : Txt.join (Str.ofString ",") (kd :: ws) = kd ++ Str.ofString "," ++ Txt.join (Str.ofString ",") ws := by
  rw [comma_is]; exact join_cons hne
theorem join_ekd (hne : ws ≠ []) : Txt.join (Str.ofString ",") (Str.ofString "" :: kd :: ws) = Str.ofString "," ++ kd ++ Str.ofString "," ++ Txt.join (Str.ofString ",") ws := by
  have h : Txt.join (Str.ofString ",") (Str.ofString "" :: kd :: ws) = Str.ofString "" ++ Str.ofString "," ++ Txt.join (Str.ofString ",") (kd :: ws) := by
    rw [comma_is]; exact join_cons (List.cons_ne_nil _ _)
  rw [h, join_kd hne, nil_app]
  simp only [PySem.Str.append_assoc]
theorem rest_1 (hne : ws ≠ []) (h : (mk == Str.ofString "SXN") = true) : Str.ofString "," ++ kd ++ Str.ofString "," ++ Txt.join (Str.ofString ",") ws = restT mk kd ws := by
  unfold restT psOf
  rw [if_pos h, join_ekd hne]
theorem rest_0 (hne : ws ≠ []) (h : (mk == Str.ofString "SXN") = false) : Str.ofString "" ++ kd ++ Str.ofString "," ++ Txt.join (Str.ofString ",") ws = restT mk kd ws := by
  unfold restT psOf
  rw [if_neg (by rw [h]; exact Bool.false_ne_true), join_kd hne, nil_app]
theorem body_facts (hk : KindOk mk kd) (hg : ∀ x ∈ ws, x ∈ goodW) (h7 : ws.length ≤ 7) : ∀ x ∈ [Str.ofString "P" ++ mk, Str.ofString "p" ++ Txt.lower mk, Str.ofString "p" ++ mk], x.length = 4 ∧ (x ++ restT mk kd ws).length ≤ 300 ∧ ∀ c ∈ chs (x ++ restT mk kd ws), c < 128 := by
  intro x hx
  obtain ⟨a1, a2, a3, a4, a5⟩ := kind_facts hk
  obtain ⟨b1, b2, _⟩ := head_of (a3 x hx)
  have hl : x.length = 4 := by rw [len_chs]; exact b1
  refine ⟨hl, ?_, body_small (fun c hc => (b2 c hc).1) (ps_plain a5 hg)⟩
  rw [PySem.Str.length_append]
  have := rest_len (mk := mk) a4 hg h7
  omega
end
section
variable {h₀ h : Heap} {L tA dA : Addr} {tvs dvs : List Value} {tn dn : Nat} {B tl : List (Addr × Obj)} {w : World} {x C : Addr} {st mk : Str} {ds : List Str}
theorem inst_ne {x dx C tA : Addr} {tvs : List Value} {tn : Nat} : (x, instObj C dx) ≠ (tA, W.listOf (List.toArray tvs) tn) := fun e => by
  have e1 := congrArg (fun p : Addr × Obj => p.2.cls) e
  exact absurd e1 (by intro e2; cases e2)
theorem dict_ne {dx tA : Addr} {es : List DictEntry} {nd tn : Nat} {tvs : List Value} : (dx, dictOf es nd) ≠ (tA, W.listOf (List.toArray tvs) tn) := fun e => by
  have e1 := congrArg (fun p : Addr × Obj => p.2.cls) e
  have e2 : Value.type "dict" = Value.type "list" := e1
  injection e2 with e3
  exact absurd e3 (by decide)
theorem msgS_off (hd : ds ≠ []) (M : MsgS w (tl ++ (tA, W.listOf (List.toArray tvs) tn) :: (dA, W.listOf (List.toArray dvs) dn) :: B) x C st mk ds) (h1 : HeadL tvs) (h2 : HeadL dvs) : MsgS w (tl ++ B) x C st mk ds := by
  obtain ⟨dx, l, k1, k2, k3, t1, t2, nd, n, vs, a1, a2, a3, hS⟩ := M
  exact ⟨dx, l, k1, k2, k3, t1, t2, nd, n, vs, mem_drop a1 inst_ne inst_ne, mem_drop a2 dict_ne dict_ne, mem_drop a3 (strs_ne hS hd h1) (strs_ne hS hd h2), hS⟩
theorem msgP_off (hd : ds ≠ []) (M : MsgP w (tl ++ (tA, W.listOf (List.toArray tvs) tn) :: (dA, W.listOf (List.toArray dvs) dn) :: B) x C mk ds) (h1 : HeadL tvs) (h2 : HeadL dvs) : MsgP w (tl ++ B) x C mk ds := by
  obtain ⟨dx, l, k2, k3, t2, nd, n, vs, a1, a2, a3, hS⟩ := M
  exact ⟨dx, l, k2, k3, t2, nd, n, vs, mem_drop a1 inst_ne inst_ne, mem_drop a2 dict_ne dict_ne, mem_drop a3 (strs_ne hS hd h1) (strs_ne hS hd h2), hS⟩
end
end Mine
end

section
open PySem PySem.W PySem.Spec PySem.Calls PyProof.Rows
set_option maxRecDepth 100000
namespace Mine
section
variable {w : World} {mean : ExcName → Option Value} {mg mb : Str → Option Value} {mk kd : Str} {ws : List Str}
/-- the kit of a turn from its class -/
theorem kit_mk {cls Kl : Addr} {MM : List (Addr × Obj) → Addr → Prop} (hk : KindOk mk kd) (hg : ∀ x ∈ ws, x ∈ goodW) (h7 : ws.length ≤ 7) (hkp : keepIn (hd.heap_39 w.params) (.ref cls) = true) (hgt : (valueAt kvM (Str.ofString "P" ++ mk)).getD (.ref 218) = .ref cls)
    (cc : ClsC w mean mg mb cls mk (psOf mk kd ws) MM) (rd : ReadC w mean mg mb MM (dueD mk kd ws)) (ren : RenC w mean mg mb MM (lineB (Str.ofString "P" ++ mk ++ restT mk kd ws))) (ins : ∀ led x, MM led x → InsG led x Kl)
    (mono : ∀ led led' x, MM led x → (∀ p ∈ led, p ∈ led') → MM led' x) (off : ∀ tl B tA dA tvs dvs tn dn x, MM (tl ++ (tA, W.listOf (List.toArray tvs) tn) :: (dA, W.listOf (List.toArray dvs) dn) :: B) x → HeadL tvs → HeadL dvs → MM (tl ++ B) x)
    (gf : GetF w Kl) (mr : MethF w Kl (Str.ofString "render") 154) : Kit w mean mg mb mk kd ws Kl MM := by
  refine ⟨fun h4 hh => ?_, rd, ren, ins, mono, off, gf, mr⟩
  obtain ⟨a1, a2, a3, a4, a5⟩ := kind_facts hk
  obtain ⟨_, b2, b3⟩ := body_facts hk hg h7 h4 hh
  obtain ⟨c1, _, c3⟩ := ck_facts b3
  exact par_of (a3 h4 hh) ps_ne (ps_plain a5 hg) rfl b2 c1 c3 hkp hgt cc
theorem all_small {b : Str} (h : ∀ c ∈ chs b, c < 128) : b.cps.all (· < 128) = true := by
  rw [Array.all_eq_true']
  intro c hc
  exact decide_eq_true (h c (by simpa using hc))
theorem out_of {b : Str} : lineT b (ckOf b) = Str.ofString "$" ++ (b ++ (Str.ofString "*" ++ hex2 (ckOf b))) := rfl
/-- a message that renders as its maker and its parts -/
theorem ren_S {st : Str} {Kl : Addr} {ds : List Str} (hk : KindOk mk kd) (hg : ∀ x ∈ ws, x ∈ goodW) (h7 : ws.length ≤ 7) (e : psOf mk kd ws = ds) (GF : GetF w Kl) (MI : MethF w Kl (Str.ofString "identifier") 215) : RenC w mean mg mb (fun led x => MsgS w led x Kl st mk ds) (lineB (Str.ofString "P" ++ mk ++ restT mk kd ws)) := by
  subst e
  obtain ⟨a1, a2, a3, a4, a5⟩ := kind_facts hk
  obtain ⟨b1, b2, b3⟩ := body_facts hk hg h7 _ (.head _)
  obtain ⟨c1, _, c3⟩ := ck_facts b3
  obtain ⟨d1, d2⟩ := ps_sum (mk := mk) a4 hg h7
  have r1 := rest_len (mk := mk) a4 hg h7
  have l1 : (Str.ofString "*").length = 1 := by decide +kernel
  have l2 : (Str.ofString "$").length = 1 := by decide +kernel
  have l3 : (hex2 (ckOf (Str.ofString "P" ++ mk ++ restT mk kd ws))).length = 2 := rfl
  refine re_S GF MI (by omega) a1 rfl (by omega) (by show (restT mk kd ws).length ≤ 300; omega) rfl (by show (Str.ofString "P" ++ mk ++ restT mk kd ws).length ≤ 400; omega) c1 ?_ c3 rfl rfl ?_ ?_
  · exact all_small b3
  · show (Str.ofString "P" ++ mk ++ restT mk kd ws ++ (Str.ofString "*" ++ hex2 _)).length ≤ 410
    rw [PySem.Str.length_append, PySem.Str.length_append (Str.ofString "*"), l1]; omega
  · show (Str.ofString "$" ++ (Str.ofString "P" ++ mk ++ restT mk kd ws ++ (Str.ofString "*" ++ hex2 _))).length ≤ 420
    rw [PySem.Str.length_append, PySem.Str.length_append (Str.ofString "P" ++ mk ++ restT mk kd ws), PySem.Str.length_append (Str.ofString "*"), l1, l2]; omega
theorem ren_P {Kl : Addr} {ds : List Str} (hk : KindOk mk kd) (hg : ∀ x ∈ ws, x ∈ goodW) (h7 : ws.length ≤ 7) (e : psOf mk kd ws = ds) (GF : GetF w Kl) (MI : MethF w Kl (Str.ofString "identifier") 215) : RenC w mean mg mb (fun led x => MsgP w led x Kl mk ds) (lineB (Str.ofString "P" ++ mk ++ restT mk kd ws)) := by
  subst e
  obtain ⟨a1, a2, a3, a4, a5⟩ := kind_facts hk
  obtain ⟨b1, b2, b3⟩ := body_facts hk hg h7 _ (.head _)
  obtain ⟨c1, _, c3⟩ := ck_facts b3
  obtain ⟨d1, d2⟩ := ps_sum (mk := mk) a4 hg h7
  have r1 := rest_len (mk := mk) a4 hg h7
  have l1 : (Str.ofString "*").length = 1 := by decide +kernel
  have l2 : (Str.ofString "$").length = 1 := by decide +kernel
  have l3 : (hex2 (ckOf (Str.ofString "P" ++ mk ++ restT mk kd ws))).length = 2 := rfl
  refine re_P GF MI (by omega) a1 rfl (by omega) (by show (restT mk kd ws).length ≤ 300; omega) rfl (by show (Str.ofString "P" ++ mk ++ restT mk kd ws).length ≤ 400; omega) c1 ?_ c3 rfl rfl ?_ ?_
  · exact all_small b3
  · show (Str.ofString "P" ++ mk ++ restT mk kd ws ++ (Str.ofString "*" ++ hex2 _)).length ≤ 410
    rw [PySem.Str.length_append, PySem.Str.length_append (Str.ofString "*"), l1]; omega
  · show (Str.ofString "$" ++ (Str.ofString "P" ++ mk ++ restT mk kd ws ++ (Str.ofString "*" ++ hex2 _))).length ≤ 420
    rw [PySem.Str.length_append, PySem.Str.length_append (Str.ofString "P" ++ mk ++ restT mk kd ws), PySem.Str.length_append (Str.ofString "*"), l1, l2]; omega
theorem ren_N {st : Str} {Kl : Addr} (hk : KindOk mk kd) (hne : ws ≠ []) (hg : ∀ x ∈ ws, x ∈ goodW) (h7 : ws.length ≤ 7) (hx : (mk == Str.ofString "SXN") = false) (e : mk ++ kd = st) (GF : GetF w Kl) (MI : MethF w Kl (Str.ofString "identifier") 251) : RenC w mean mg mb (fun led x => MsgS w led x Kl st mk ws) (lineB (Str.ofString "P" ++ mk ++ restT mk kd ws)) := by
  subst e
  obtain ⟨a1, a2, a3, a4, a5⟩ := kind_facts hk
  obtain ⟨b1, b2, b3⟩ := body_facts hk hg h7 _ (.head _)
  obtain ⟨c1, _, c3⟩ := ck_facts b3
  have d1 := ws_sum hg h7
  have d2 := join_len ws
  have r1 := rest_len (mk := mk) a4 hg h7
  have l1 : (Str.ofString "*").length = 1 := by decide +kernel
  have l2 : (Str.ofString "$").length = 1 := by decide +kernel
  have l3 : (hex2 (ckOf (Str.ofString "P" ++ mk ++ restT mk kd ws))).length = 2 := rfl
  refine re_N (b := Str.ofString "P" ++ mk ++ restT mk kd ws) GF MI (by omega) (by rw [PySem.Str.length_append]; omega) rfl (by omega) (by omega) ?_ (by omega) c1 ?_ c3 rfl rfl ?_ ?_
  · rw [← rest_0 hne hx, nil_app]
    simp only [PySem.Str.append_assoc]
  · exact all_small b3
  · show (Str.ofString "P" ++ mk ++ restT mk kd ws ++ (Str.ofString "*" ++ hex2 _)).length ≤ 410
    rw [PySem.Str.length_append, PySem.Str.length_append (Str.ofString "*"), l1]; omega
  · show (Str.ofString "$" ++ (Str.ofString "P" ++ mk ++ restT mk kd ws ++ (Str.ofString "*" ++ hex2 _))).length ≤ 420
    rw [PySem.Str.length_append, PySem.Str.length_append (Str.ofString "P" ++ mk ++ restT mk kd ws), PySem.Str.length_append (Str.ofString "*"), l1, l2]; omega
end
end Mine
end

section
open PySem PySem.W PySem.Spec PySem.Calls PyProof.Rows
set_option maxRecDepth 100000
namespace Mine
theorem kp_323 {w : World} : keepIn (hd.heap_39 w.params) (.ref 323) = true := by kernel_rfl
theorem kp_382 {w : World} : keepIn (hd.heap_39 w.params) (.ref 382) = true := by kernel_rfl
theorem kp_254 {w : World} : keepIn (hd.heap_39 w.params) (.ref 254) = true := by kernel_rfl
theorem kp_218 {w : World} : keepIn (hd.heap_39 w.params) (.ref 218) = true := by kernel_rfl
theorem va_SRF : (valueAt kvM (Str.ofString "P" ++ Str.ofString "SRF")).getD (.ref 218) = .ref 323 := by kernel_rfl
theorem va_SXN : (valueAt kvM (Str.ofString "P" ++ Str.ofString "SXN")).getD (.ref 218) = .ref 382 := by kernel_rfl
theorem va_NOR : (valueAt kvM (Str.ofString "P" ++ Str.ofString "NOR")).getD (.ref 218) = .ref 254 := by kernel_rfl
theorem va_XYZ : (valueAt kvM (Str.ofString "P" ++ Str.ofString "XYZ")).getD (.ref 218) = .ref 218 := by kernel_rfl
theorem ps_SRF {kd : Str} {ws : List Str} : psOf (Str.ofString "SRF") kd ws = kd :: ws := by unfold psOf; rw [if_neg (by decide +kernel)]
theorem ps_NOR {kd : Str} {ws : List Str} : psOf (Str.ofString "NOR") kd ws = kd :: ws := by unfold psOf; rw [if_neg (by decide +kernel)]
theorem ps_XYZ {kd : Str} {ws : List Str} : psOf (Str.ofString "XYZ") kd ws = kd :: ws := by unfold psOf; rw [if_neg (by decide +kernel)]
theorem ps_SXN {kd : Str} {ws : List Str} : psOf (Str.ofString "SXN") kd ws = Str.ofString "" :: kd :: ws := by unfold psOf; rw [if_pos (by decide +kernel)]
section
variable {w : World} {mean : ExcName → Option Value} {mg mb : Str → Option Value} {kd : Str} {ws : List Str} {Kl : Addr}
theorem kit_SRF (hk : KindOk (Str.ofString "SRF") kd) (hg : ∀ x ∈ ws, x ∈ goodW) (h7 : ws.length ≤ 7) (hC : srfC (Str.ofString "SRF" ++ kd) = Kl) (gf : GetF w Kl) (mi : MethF w Kl (Str.ofString "identifier") 215) (mr : MethF w Kl (Str.ofString "render") 154)
    (rd : ReadC w mean mg mb (fun led x => MsgS w led x Kl (Str.ofString "SRF" ++ kd) (Str.ofString "SRF") (kd :: ws)) (dueD (Str.ofString "SRF") kd ws)) : ∃ Kl MM, Kit w mean mg mb (Str.ofString "SRF") kd ws Kl MM := by
  obtain ⟨a1, a2, a3, a4, a5⟩ := kind_facts hk
  refine ⟨Kl, _, kit_mk hk hg h7 kp_323 va_SRF ?_ rd (ren_S hk hg h7 ps_SRF gf mi) (fun _ _ => insG_S) (fun _ _ _ M s => M.mono s) (fun _ _ _ _ _ _ _ _ _ M h1 h2 => msgS_off (List.cons_ne_nil _ _) M h1 h2) gf mr⟩
  rw [ps_SRF]
  intro A A₀ base h₀ outer cn cs a ccd cl L m news s Q E l vs n t C hS ret
  refine c_clsSRF C hS (by rw [List.length_cons]; omega) (by rw [List.length_cons]; omega) a1 a4 fun x h' tk' led F N E M => ret x h' tk' led F N E ?_
  have M' : MsgS w led x (srfC (Str.ofString "SRF" ++ kd)) (Str.ofString "SRF" ++ kd) (Str.ofString "SRF") (kd :: ws) := M
  rw [hC] at M'; exact M'
theorem kit_NOR (hk : KindOk (Str.ofString "NOR") kd) (hne : ws ≠ []) (hg : ∀ x ∈ ws, x ∈ goodW) (h7 : ws.length ≤ 7) (hC : norC (Str.ofString "NOR" ++ kd) = Kl) (gf : GetF w Kl) (mi : MethF w Kl (Str.ofString "identifier") 251) (mr : MethF w Kl (Str.ofString "render") 154)
    (rd : ReadC w mean mg mb (fun led x => MsgS w led x Kl (Str.ofString "NOR" ++ kd) (Str.ofString "NOR") ws) (dueD (Str.ofString "NOR") kd ws)) : ∃ Kl MM, Kit w mean mg mb (Str.ofString "NOR") kd ws Kl MM := by
  obtain ⟨a1, a2, a3, a4, a5⟩ := kind_facts hk
  refine ⟨Kl, _, kit_mk hk hg h7 kp_254 va_NOR ?_ rd (ren_N hk hne hg h7 (by decide +kernel) rfl gf mi) (fun _ _ => insG_S) (fun _ _ _ M s => M.mono s) (fun _ _ _ _ _ _ _ _ _ M h1 h2 => msgS_off hne M h1 h2) gf mr⟩
  rw [ps_NOR]
  intro A A₀ base h₀ outer cn cs a ccd cl L m news s Q E l vs n t C hS ret
  refine c_clsNOR C hS (by rw [List.length_cons]; omega) (by rw [List.length_cons]; omega) a1 a4 fun x h' tk' led F N E M => ret x h' tk' led F N E ?_
  have M' : MsgS w led x (norC (Str.ofString "NOR" ++ kd)) (Str.ofString "NOR" ++ kd) (Str.ofString "NOR") ws := M
  rw [hC] at M'; exact M'
theorem kit_SXN (hk : KindOk (Str.ofString "SXN") kd) (hg : ∀ x ∈ ws, x ∈ goodW) (h7 : ws.length ≤ 7) (hC : sxnC (Str.ofString "SXN" ++ kd) = Kl) (gf : GetF w Kl) (mi : MethF w Kl (Str.ofString "identifier") 215) (mr : MethF w Kl (Str.ofString "render") 154)
    (rd : ReadC w mean mg mb (fun led x => MsgP w led x Kl (Str.ofString "SXN") (Str.ofString "" :: kd :: ws)) (dueD (Str.ofString "SXN") kd ws)) : ∃ Kl MM, Kit w mean mg mb (Str.ofString "SXN") kd ws Kl MM := by
  obtain ⟨a1, a2, a3, a4, a5⟩ := kind_facts hk
  refine ⟨Kl, _, kit_mk hk hg h7 kp_382 va_SXN ?_ rd (ren_P hk hg h7 ps_SXN gf mi) (fun _ _ => insG_P) (fun _ _ _ M s => M.mono s) (fun _ _ _ _ _ _ _ _ _ M h1 h2 => msgP_off (List.cons_ne_nil _ _) M h1 h2) gf mr⟩
  rw [ps_SXN]
  intro A A₀ base h₀ outer cn cs a ccd cl L m news s Q E l vs n t C hS ret
  refine c_clsSXN C hS (by rw [List.length_cons, List.length_cons]; omega) (by rw [List.length_cons, List.length_cons]; omega) a1 a4 fun x h' tk' led F N E M => ret x h' tk' led F N E ?_
  have M' : MsgP w led x (sxnC (Str.ofString "SXN" ++ kd)) (Str.ofString "SXN") (Str.ofString "" :: kd :: ws) := M
  rw [hC] at M'; exact M'
theorem kit_XYZ (hk : KindOk (Str.ofString "XYZ") kd) (hg : ∀ x ∈ ws, x ∈ goodW) (h7 : ws.length ≤ 7)
    (rd : ReadC w mean mg mb (fun led x => MsgP w led x 218 (Str.ofString "XYZ") (kd :: ws)) (dueD (Str.ofString "XYZ") kd ws)) : ∃ Kl MM, Kit w mean mg mb (Str.ofString "XYZ") kd ws Kl MM := by
  obtain ⟨a1, a2, a3, a4, a5⟩ := kind_facts hk
  refine ⟨218, _, kit_mk hk hg h7 kp_218 va_XYZ ?_ rd (ren_P hk hg h7 ps_XYZ gf_218 mi_218) (fun _ _ => insG_P) (fun _ _ _ M s => M.mono s) (fun _ _ _ _ _ _ _ _ _ M h1 h2 => msgP_off (List.cons_ne_nil _ _) M h1 h2) gf_218 mr_218⟩
  rw [ps_XYZ]
  intro A A₀ base h₀ outer cn cs a ccd cl L m news s Q E l vs n t C hS ret
  exact c_clsP C hS (by rw [List.length_cons]; omega) ret
theorem readD_s {x : Str} {ds : List Str} {b : Bool} (k : Nat) : readD (x :: ds) b ((k : Int) + 1) = readD ds b (k : Int) := by
  unfold readD
  have e : ((k : Int) + 1 < ((x :: ds).length : Int)) ↔ ((k : Int) < (ds.length : Int)) := by rw [List.length_cons]; omega
  have e2 : ((k : Int) + 1).toNat = k + 1 := by omega
  have e3 : (k : Int).toNat = k := by omega
  rw [e2, e3, List.getD_cons_succ]
  by_cases h : (k : Int) < (ds.length : Int)
  · rw [if_pos h, if_pos (e.mpr h)]
  · rw [if_neg h, if_neg fun h' => h (e.mp h')]
theorem reads_20 {x : Str} {ds : List Str} : readsD ds true 5 = [readD (x :: ds) true 1, readD (x :: ds) true 2, readD (x :: ds) true 3, readD (x :: ds) true 4, readD (x :: ds) true 5] := by
  have h1 : readD (x :: ds) true 1 = readD ds true 0 := readD_s 0
  have h2 : readD (x :: ds) true 2 = readD ds true 1 := readD_s 1
  have h3 : readD (x :: ds) true 3 = readD ds true 2 := readD_s 2
  have h4 : readD (x :: ds) true 4 = readD ds true 3 := readD_s 3
  have h5 : readD (x :: ds) true 5 = readD ds true 4 := readD_s 4
  rw [h1, h2, h3, h4, h5]; rfl
theorem reads_21 {x : Str} {ds : List Str} : readsD ds true 2 = [readD (x :: ds) true 1, readD (x :: ds) true 2] := by
  have h1 : readD (x :: ds) true 1 = readD ds true 0 := readD_s 0
  have h2 : readD (x :: ds) true 2 = readD ds true 1 := readD_s 1
  rw [h1, h2]; rfl
theorem reads_I1 {ds : List Str} : readsD ds true 4 = [readD ds true 0, readD ds true 1, readD ds true 2, readD ds true 3] := rfl
theorem ok_cons {k : Str} {l : List Str} (h : WordOk k) (h2 : ∀ x ∈ l, WordOk x) : ∀ x ∈ k :: l, WordOk x := fun x hx => (List.mem_cons.mp hx).elim (fun e => e ▸ h) (h2 x)
theorem kit_SRF_103 (hne : ws ≠ []) (hg : ∀ x ∈ ws, x ∈ goodW) (h7 : ws.length ≤ 7) (hk : KindOk (Str.ofString "SRF") (Str.ofString "103")) : ∃ Kl MM, Kit w mean mg mb (Str.ofString "SRF") (Str.ofString "103") ws Kl MM := by
  refine kit_SRF hk hg h7 (by decide +kernel) gf_342 mi_342 mr_342 (rc_103 (by rw [List.length_cons]; omega) (List.cons_ne_nil _ _) ?_)
  rw [due_1 (by decide +kernel) (by decide +kernel), show (Str.ofString "SRF") ++ (Str.ofString "103") = (Str.ofString "SRF103") from by decide +kernel]
  rfl
theorem kit_SRF_100 (hne : ws ≠ []) (hg : ∀ x ∈ ws, x ∈ goodW) (h7 : ws.length ≤ 7) (hk : KindOk (Str.ofString "SRF") (Str.ofString "100")) : ∃ Kl MM, Kit w mean mg mb (Str.ofString "SRF") (Str.ofString "100") ws Kl MM := by
  refine kit_SRF hk hg h7 (by decide +kernel) gf_361 mi_361 mr_361 (rc_100 (by rw [List.length_cons]; omega) (List.cons_ne_nil _ _) ?_)
  rw [due_2 (by decide +kernel) (by decide +kernel) (by decide +kernel), show (Str.ofString "SRF") ++ (Str.ofString "100") = (Str.ofString "SRF100") from by decide +kernel]
  rfl
theorem kit_SRF_10 (hne : ws ≠ []) (hg : ∀ x ∈ ws, x ∈ goodW) (h7 : ws.length ≤ 7) (hk : KindOk (Str.ofString "SRF") (Str.ofString "10")) : ∃ Kl MM, Kit w mean mg mb (Str.ofString "SRF") (Str.ofString "10") ws Kl MM := by
  refine kit_SRF hk hg h7 (by decide +kernel) gf_323 mi_323 mr_323 (rc_SRF (by rw [List.length_cons]; omega) (List.cons_ne_nil _ _) ?_)
  rw [due_3 (by decide +kernel) (by decide +kernel) (by decide +kernel)]
  rfl
theorem kit_SRF_1003 (hne : ws ≠ []) (hg : ∀ x ∈ ws, x ∈ goodW) (h7 : ws.length ≤ 7) (hk : KindOk (Str.ofString "SRF") (Str.ofString "1003")) : ∃ Kl MM, Kit w mean mg mb (Str.ofString "SRF") (Str.ofString "1003") ws Kl MM := by
  refine kit_SRF hk hg h7 (by decide +kernel) gf_323 mi_323 mr_323 (rc_SRF (by rw [List.length_cons]; omega) (List.cons_ne_nil _ _) ?_)
  rw [due_3 (by decide +kernel) (by decide +kernel) (by decide +kernel)]
  rfl
theorem kit_SXN_20 (hne : ws ≠ []) (hg : ∀ x ∈ ws, x ∈ goodW) (h7 : ws.length ≤ 7) (hk : KindOk (Str.ofString "SXN") (Str.ofString "20")) : ∃ Kl MM, Kit w mean mg mb (Str.ofString "SXN") (Str.ofString "20") ws Kl MM := by
  refine kit_SXN hk hg h7 (by decide +kernel) gf_402 mi_402 mr_402 (rc_20 (by rw [List.length_cons, List.length_cons]; omega) (List.cons_ne_nil _ _) (ok_cons ok_e (ok_cons ok_20 fun x hx => wordOk_W x (hg x hx))) ?_)
  rw [due_4 (by decide +kernel) (by decide +kernel) (by decide +kernel), reads_20 (x := Str.ofString "")]
  rfl
theorem kit_SXN_21 (hne : ws ≠ []) (hg : ∀ x ∈ ws, x ∈ goodW) (h7 : ws.length ≤ 7) (hk : KindOk (Str.ofString "SXN") (Str.ofString "21")) : ∃ Kl MM, Kit w mean mg mb (Str.ofString "SXN") (Str.ofString "21") ws Kl MM := by
  refine kit_SXN hk hg h7 (by decide +kernel) gf_418 mi_418 mr_418 (rc_21 (by rw [List.length_cons, List.length_cons]; omega) (List.cons_ne_nil _ _) (ok_cons ok_e (ok_cons ok_21 fun x hx => wordOk_W x (hg x hx))) ?_)
  rw [due_5 (by decide +kernel) (by decide +kernel) (by decide +kernel) (by decide +kernel), reads_21 (x := Str.ofString "")]
  rfl
theorem kit_SXN_2 (hne : ws ≠ []) (hg : ∀ x ∈ ws, x ∈ goodW) (h7 : ws.length ≤ 7) (hk : KindOk (Str.ofString "SXN") (Str.ofString "2")) : ∃ Kl MM, Kit w mean mg mb (Str.ofString "SXN") (Str.ofString "2") ws Kl MM := by
  refine kit_SXN hk hg h7 (by decide +kernel) gf_382 mi_382 mr_382 (rc_SXN (by rw [List.length_cons, List.length_cons]; omega) (List.cons_ne_nil _ _) ?_)
  rw [due_6 (by decide +kernel) (by decide +kernel) (by decide +kernel) (by decide +kernel)]
  rfl
theorem kit_SXN_25 (hne : ws ≠ []) (hg : ∀ x ∈ ws, x ∈ goodW) (h7 : ws.length ≤ 7) (hk : KindOk (Str.ofString "SXN") (Str.ofString "25")) : ∃ Kl MM, Kit w mean mg mb (Str.ofString "SXN") (Str.ofString "25") ws Kl MM := by
  refine kit_SXN hk hg h7 (by decide +kernel) gf_382 mi_382 mr_382 (rc_SXN (by rw [List.length_cons, List.length_cons]; omega) (List.cons_ne_nil _ _) ?_)
  rw [due_6 (by decide +kernel) (by decide +kernel) (by decide +kernel) (by decide +kernel)]
  rfl
theorem kit_NOR_I1 (hne : ws ≠ []) (hg : ∀ x ∈ ws, x ∈ goodW) (h7 : ws.length ≤ 7) (hk : KindOk (Str.ofString "NOR") (Str.ofString "I1")) : ∃ Kl MM, Kit w mean mg mb (Str.ofString "NOR") (Str.ofString "I1") ws Kl MM := by
  refine kit_NOR hk hne hg h7 (by decide +kernel) gf_294 mi_294 mr_294 (rc_I1 (by omega) hne (fun x hx => wordOk_W x (hg x hx)) ?_)
  rw [due_7 (by decide +kernel) (by decide +kernel) (by decide +kernel) (by decide +kernel), show (Str.ofString "NOR") ++ (Str.ofString "I1") = (Str.ofString "NORI1") from by decide +kernel, reads_I1]
  rfl
theorem kit_NOR_WT4 (hne : ws ≠ []) (hg : ∀ x ∈ ws, x ∈ goodW) (h7 : ws.length ≤ 7) (hk : KindOk (Str.ofString "NOR") (Str.ofString "WT4")) : ∃ Kl MM, Kit w mean mg mb (Str.ofString "NOR") (Str.ofString "WT4") ws Kl MM := by
  refine kit_NOR hk hne hg h7 (by decide +kernel) gf_274 mi_274 mr_274 (rc_WT4 (by omega) hne ?_)
  rw [due_8 (by decide +kernel) (by decide +kernel) (by decide +kernel) (by decide +kernel) (by decide +kernel), show (Str.ofString "NOR") ++ (Str.ofString "WT4") = (Str.ofString "NORWT4") from by decide +kernel]
  rfl
theorem kit_NOR_i1 (hne : ws ≠ []) (hg : ∀ x ∈ ws, x ∈ goodW) (h7 : ws.length ≤ 7) (hk : KindOk (Str.ofString "NOR") (Str.ofString "i1")) : ∃ Kl MM, Kit w mean mg mb (Str.ofString "NOR") (Str.ofString "i1") ws Kl MM := by
  refine kit_NOR hk hne hg h7 (by decide +kernel) gf_254 mi_254 mr_254 (rc_NOR (by omega) hne ?_)
  rw [due_9 (by decide +kernel) (by decide +kernel) (by decide +kernel) (by decide +kernel) (by decide +kernel)]
  rfl
theorem kit_NOR_X (hne : ws ≠ []) (hg : ∀ x ∈ ws, x ∈ goodW) (h7 : ws.length ≤ 7) (hk : KindOk (Str.ofString "NOR") (Str.ofString "X")) : ∃ Kl MM, Kit w mean mg mb (Str.ofString "NOR") (Str.ofString "X") ws Kl MM := by
  refine kit_NOR hk hne hg h7 (by decide +kernel) gf_254 mi_254 mr_254 (rc_NOR (by omega) hne ?_)
  rw [due_9 (by decide +kernel) (by decide +kernel) (by decide +kernel) (by decide +kernel) (by decide +kernel)]
  rfl
theorem kit_XYZ_a (hne : ws ≠ []) (hg : ∀ x ∈ ws, x ∈ goodW) (h7 : ws.length ≤ 7) (hk : KindOk (Str.ofString "XYZ") (Str.ofString "a")) : ∃ Kl MM, Kit w mean mg mb (Str.ofString "XYZ") (Str.ofString "a") ws Kl MM := by
  refine kit_XYZ hk hg h7 (rc_P (by rw [List.length_cons]; omega) (List.cons_ne_nil _ _) ?_)
  rw [due_10 (by decide +kernel) (by decide +kernel) (by decide +kernel)]
  rfl
theorem kit_XYZ_b (hne : ws ≠ []) (hg : ∀ x ∈ ws, x ∈ goodW) (h7 : ws.length ≤ 7) (hk : KindOk (Str.ofString "XYZ") (Str.ofString "b")) : ∃ Kl MM, Kit w mean mg mb (Str.ofString "XYZ") (Str.ofString "b") ws Kl MM := by
  refine kit_XYZ hk hg h7 (rc_P (by rw [List.length_cons]; omega) (List.cons_ne_nil _ _) ?_)
  rw [due_10 (by decide +kernel) (by decide +kernel) (by decide +kernel)]
  rfl
theorem kit_XYZ_c (hne : ws ≠ []) (hg : ∀ x ∈ ws, x ∈ goodW) (h7 : ws.length ≤ 7) (hk : KindOk (Str.ofString "XYZ") (Str.ofString "c")) : ∃ Kl MM, Kit w mean mg mb (Str.ofString "XYZ") (Str.ofString "c") ws Kl MM := by
  refine kit_XYZ hk hg h7 (rc_P (by rw [List.length_cons]; omega) (List.cons_ne_nil _ _) ?_)
  rw [due_10 (by decide +kernel) (by decide +kernel) (by decide +kernel)]
  rfl
theorem kit_XYZ_d (hne : ws ≠ []) (hg : ∀ x ∈ ws, x ∈ goodW) (h7 : ws.length ≤ 7) (hk : KindOk (Str.ofString "XYZ") (Str.ofString "d")) : ∃ Kl MM, Kit w mean mg mb (Str.ofString "XYZ") (Str.ofString "d") ws Kl MM := by
  refine kit_XYZ hk hg h7 (rc_P (by rw [List.length_cons]; omega) (List.cons_ne_nil _ _) ?_)
  rw [due_10 (by decide +kernel) (by decide +kernel) (by decide +kernel)]
  rfl
theorem kit_of {mk : Str} (hk : KindOk mk kd) (hne : ws ≠ []) (hg : ∀ x ∈ ws, x ∈ goodW) (h7 : ws.length ≤ 7) : ∃ Kl MM, Kit w mean mg mb mk kd ws Kl MM := by
  have hk' := hk
  obtain ⟨p, hp, rfl, hkd⟩ := hk'
  simp only [makerKinds, List.mem_cons, List.not_mem_nil, or_false] at hp
  rcases hp with rfl | rfl | rfl | rfl
  · simp only [List.map_cons, List.map_nil, List.mem_cons, List.not_mem_nil, or_false] at hkd
    rcases hkd with rfl | rfl | rfl | rfl
    · exact kit_SRF_103 hne hg h7 hk
    · exact kit_SRF_100 hne hg h7 hk
    · exact kit_SRF_10 hne hg h7 hk
    · exact kit_SRF_1003 hne hg h7 hk
  · simp only [List.map_cons, List.map_nil, List.mem_cons, List.not_mem_nil, or_false] at hkd
    rcases hkd with rfl | rfl | rfl | rfl
    · exact kit_SXN_20 hne hg h7 hk
    · exact kit_SXN_21 hne hg h7 hk
    · exact kit_SXN_2 hne hg h7 hk
    · exact kit_SXN_25 hne hg h7 hk
  · simp only [List.map_cons, List.map_nil, List.mem_cons, List.not_mem_nil, or_false] at hkd
    rcases hkd with rfl | rfl | rfl | rfl
    · exact kit_NOR_I1 hne hg h7 hk
    · exact kit_NOR_WT4 hne hg h7 hk
    · exact kit_NOR_i1 hne hg h7 hk
    · exact kit_NOR_X hne hg h7 hk
  · simp only [List.map_cons, List.map_nil, List.mem_cons, List.not_mem_nil, or_false] at hkd
    rcases hkd with rfl | rfl | rfl | rfl
    · exact kit_XYZ_a hne hg h7 hk
    · exact kit_XYZ_b hne hg h7 hk
    · exact kit_XYZ_c hne hg h7 hk
    · exact kit_XYZ_d hne hg h7 hk
theorem txt_of {mk : Str} (hk : KindOk mk kd) (hne : ws ≠ []) (hg : ∀ x ∈ ws, x ∈ goodW) (h7 : ws.length ≤ 7) : TxtF mk kd ws := by
  obtain ⟨a1, a2, a3, a4, a5⟩ := kind_facts hk
  have s1 := ws_sum hg h7
  have s2 := join_len ws
  have s3 := rest_len (mk := mk) a4 hg h7
  refine ⟨a4, a1, a2, by omega, by omega, rest_1 hne, rest_0 hne, by omega, fun x hx => ?_⟩
  obtain ⟨b1, _, b3⟩ := body_facts hk hg h7 x hx
  exact ⟨by omega, b3⟩
end
/-- a text that the claim may hold -/
def Small (x : Str) : Prop := ∀ c ∈ chs x, c < 128
theorem small_ok {x : Str} (h : Small x) : PyData.strOk x = true := by
  unfold PyData.strOk
  rw [Array.all_eq_true']
  intro c hc
  have := h c (by simpa using hc)
  exact decide_eq_true (by omega)
theorem small_bool {x : Str} (h : ((chs x).all fun c => decide (c < 128)) = true) : Small x := fun c hc => of_decide_eq_true (List.all_eq_true.mp h c hc)
theorem small_plain {x : Str} (h : Plain x) : Small x := fun c hc => (h c hc).1
theorem small_app {x y : Str} (h : Small x) (k : Small y) : Small (x ++ y) := fun c hc => by
  rw [chs_app] at hc
  exact (List.mem_append.mp hc).elim (h c) (k c)
theorem small_empty : Small Str.empty := fun c hc => by cases hc
section
variable {n : Nat} {ws : List Str} {x : Str}
theorem py_str (h : Small x) : ∃ p, PyOf n (.str x) p := ⟨_, .str x (small_ok h)⟩
theorem py_all {n : Nat} : ∀ {ds : List Dat}, (∀ d ∈ ds, ∃ p, PyOf n d p) → ∃ ps, PyOfAll n ds ps
  | [], _ => ⟨_, .nil⟩
  | d :: ds, h => by
    obtain ⟨p, hp⟩ := h d (.head _)
    obtain ⟨ps, hps⟩ := py_all fun e he => h e (.tail _ he)
    exact ⟨_, .cons hp hps⟩
theorem py_list {ds : List Dat} (h : ∀ d ∈ ds, ∃ p, PyOf n d p) : ∃ p, PyOf (n + 1) (.list ds) p := by
  obtain ⟨ps, hps⟩ := py_all h
  exact ⟨_, .list hps⟩
theorem py_whole (h : Small x) : ∃ p, PyOf n (wholeD x) p := by
  unfold wholeD wholeP wholeTab
  simp only [PySem.Spec.lookup]
  repeat' split
  all_goals first
    | exact ⟨_, .none⟩
    | exact ⟨_, .int _⟩
    | exact py_str h
    | (simp only [Option.getD_some, Option.getD_none]; first | exact ⟨_, .int _⟩ | exact py_str h)
theorem py_read (h : ∀ x ∈ ws, Small x) (b : Bool) (p : Int) : ∃ q, PyOf n (readD ws b p) q := by
  have hx : Small (if p < ws.length then ws.getD p.toNat Str.empty else Str.ofString "") := by
    split
    · rw [List.getD_eq_getElem?_getD]
      cases e : ws[p.toNat]? with
      | none => exact small_empty
      | some y => exact h y (List.mem_of_getElem? e)
    · exact small_bool (by decide +kernel)
  unfold readD
  cases b with
  | true => exact py_whole hx
  | false => exact py_str hx
theorem py_frame (h : ∀ x ∈ ws, Small x) : ∃ q, PyOf n (frameD ws) q := by
  unfold frameD
  split
  · rw [List.getD_eq_getElem?_getD]
    cases e : ws[6]? with
    | none => exact py_str small_empty
    | some y => exact py_str (h y (List.mem_of_getElem? e))
  · exact ⟨_, .none⟩
theorem py_kind {d : Dat} (h : ∃ p, PyOf n d p) : ∃ p, PyOf (n + 1) (kindD d) p := by
  obtain ⟨p, hp⟩ := h
  exact ⟨_, .list (.cons hp (.cons (.bool _) (.cons (.bool _) .nil)))⟩
theorem py_kinds {ds : List Dat} (h : ∀ d ∈ ds, ∃ p, PyOf n d p) : ∃ p, PyOf (n + 2) (.list (ds.map kindD)) p := py_list fun d hd => by
  obtain ⟨e, he, rfl⟩ := List.mem_map.mp hd
  exact py_kind (h e he)
theorem py_lst (h : ∀ x ∈ ws, Small x) : ∃ p, PyOf (n + 2) (lstD ws) p := py_list fun d hd => by
  obtain ⟨e, he, rfl⟩ := List.mem_map.mp hd
  exact py_str (h e he)
theorem py_reads (h : ∀ x ∈ ws, Small x) (b : Bool) (k : Nat) : ∀ d ∈ readsD ws b k, ∃ p, PyOf n d p := fun d hd => by
  obtain ⟨e, he, rfl⟩ := List.mem_map.mp hd
  exact py_read h b e
theorem py_txt (s : String) (h : ((chs (Str.ofString s)).all fun c => decide (c < 128)) = true) : ∃ p, PyOf n (txtD s) p := py_str (small_bool h)
theorem py_five {a b c d e : Dat} (ha : ∃ p, PyOf n a p) (hb : ∃ p, PyOf n b p) (hc : ∃ p, PyOf n c p) (hd : ∃ p, PyOf n d p) (he : ∃ p, PyOf n e p) : ∃ p, PyOf (n + 1) (.list [a, b, c, d, e]) p := py_list fun x hx => by
  simp only [List.mem_cons, List.not_mem_nil, or_false] at hx
  rcases hx with rfl | rfl | rfl | rfl | rfl <;> assumption
theorem py_nil : ∃ p, PyOf (n + 1) (.list []) p := ⟨_, .list .nil⟩
theorem py_due {mk kd : Str} (hk : Small kd) (hw : ∀ x ∈ ws, Small x) : ∃ p, PyOf 10 (dueD mk kd ws) p := by
  have h1 : ∀ x ∈ kd :: ws, Small x := fun x hx => (List.mem_cons.mp hx).elim (fun e => e ▸ hk) (hw x)
  have h0 : Small (Str.ofString "") := small_bool (by decide +kernel)
  have h2 : ∀ x ∈ Str.ofString "" :: kd :: ws, Small x := fun x hx => (List.mem_cons.mp hx).elim (fun e => e ▸ h0) (h1 x)
  have hS : Small (Str.ofString "SRF") := small_bool (by decide +kernel)
  have hN : Small (Str.ofString "NOR") := small_bool (by decide +kernel)
  have hf : ∀ d ∈ readsD ws true 4 ++ [frameD ws], ∃ p, PyOf 7 d p := fun d hd => (List.mem_append.mp hd).elim (py_reads hw true 4 d) fun h => by rw [List.mem_singleton.mp h]; exact py_frame hw
  unfold dueD dueSRF dueSXN dueNOR dueXYZ
  repeat' split
  · exact py_five (py_txt _ (by decide +kernel)) (py_txt _ (by decide +kernel)) (py_txt _ (by decide +kernel)) (py_lst h1) (py_kinds (py_reads h1 _ _))
  · exact py_five (py_txt _ (by decide +kernel)) (py_txt _ (by decide +kernel)) (py_txt _ (by decide +kernel)) (py_lst h1) (py_kinds (py_reads h1 _ _))
  · exact py_five (py_txt _ (by decide +kernel)) (py_txt _ (by decide +kernel)) (py_str (small_app hS hk)) (py_lst h1) py_nil
  · exact py_five (py_txt _ (by decide +kernel)) (py_txt _ (by decide +kernel)) (py_txt _ (by decide +kernel)) (py_lst h2) (py_kinds (py_reads h1 _ _))
  · exact py_five (py_txt _ (by decide +kernel)) (py_txt _ (by decide +kernel)) (py_txt _ (by decide +kernel)) (py_lst h2) (py_kinds (py_reads h1 _ _))
  · exact py_five (py_txt _ (by decide +kernel)) (py_txt _ (by decide +kernel)) (py_txt _ (by decide +kernel)) (py_lst h2) py_nil
  · exact py_five (py_txt _ (by decide +kernel)) (py_txt _ (by decide +kernel)) (py_txt _ (by decide +kernel)) (py_lst hw) (py_kinds hf)
  · exact py_five (py_txt _ (by decide +kernel)) (py_txt _ (by decide +kernel)) (py_txt _ (by decide +kernel)) (py_lst hw) py_nil
  · exact py_five (py_txt _ (by decide +kernel)) (py_txt _ (by decide +kernel)) (py_str (small_app hN hk)) (py_lst hw) py_nil
  · exact py_five (py_txt _ (by decide +kernel)) (py_txt _ (by decide +kernel)) (py_txt _ (by decide +kernel)) (py_lst h1) py_nil
theorem hex_small : ∀ n : Nat, n < 128 → ((chs (hex2 n)).all fun c => decide (c < 128)) = true := by decide +kernel
theorem line_ok {b : Str} (h : Small b) : PyData.strOk (lineB b) = true := by
  obtain ⟨c1, _, _⟩ := ck_facts h
  exact small_ok (small_app (small_bool (by decide +kernel)) (small_app h (small_app (small_bool (by decide +kernel)) (small_bool (hex_small _ c1)))))
end
/-- what a turn tells is such as the claim may hold -/
theorem py_turn {mk kd : Str} {ws : List Str} {ds : List Dat} {ps : List PyData} (hp : PyOfAll 10 ds ps) (txt : TxtF mk kd ws) (hk : KindOk mk kd) (hg : ∀ x ∈ ws, x ∈ goodW) :
    ∃ ps, PyOfAll 10 (ds ++ [dueD mk kd ws] ++ [.str (lineB (Str.ofString "P" ++ mk ++ restT mk kd ws))] ++ [dueD mk kd ws]) ps := by
  obtain ⟨a1, a2, a3, a4, a5⟩ := kind_facts hk
  obtain ⟨pd, hd⟩ := py_due (mk := mk) (small_plain a5) fun x hx => small_plain (plain_W x (hg x hx)).1
  exact ⟨_, ((hp.append (.cons hd .nil)).append (.cons (.str _ (line_ok (txt.hl _ (.head _)).2)) .nil)).append (.cons hd .nil)⟩
end Mine
end

section
open PySem PySem.W PySem.Spec PySem.Calls PyProof.Rows
namespace Mine
local macro_rules | `(tactic| k_room) => `(tactic| ktr_room)
local macro_rules | `(tactic| units_room) => `(tactic| ktr_units)
local macro_rules | `(tactic| k_units) => `(tactic| ktr_units)
local macro_rules | `(tactic| walk_at "m ext2") => `(tactic| first | exact ext_nil | (walk_at "m ext3"; done) | (refine Ext.trans ?_ (by assumption); walk_at "m ext3"; done))
local macro_rules | `(tactic| walk_at "m ext3") => `(tactic| repeat' (first | exact ext_nil | (refine ext_cons (by first | assumption | (k_dflt exact lt_all (by assumption)) | exact lt_two (by assumption) (by assumption)) ?_) | (refine ext_ne (by assumption) ?_) | (refine ext_app (by assumption) ?_)))
local macro_rules | `(tactic| k_mem) => `(tactic| with_reducible_and_instances assumption)
local macro_rules | `(tactic| walk_at "call ref") => `(tactic| (k_here; (with_reducible show wpAny _ _ (call (Value.ref 482) _) _ _ _); k_dflt (refine' c_makers ⟨?kB, ?kF, ?kX, ?kN, ?kT, ?kk, ?kA, ?kh, ?kd, ?ku⟩ ?_; (case kF => k_asm); (case kB => k_asm); (case kX => k_asm); (case kN => k_asm); (case kT => k_asm); (case kA => exact rfl); (case kk => exact rfl); (case kh => exact rfl); (case kd => ktr_room); (case ku => ktr_units); k_whole); intro l' vs' h' tk' F' N' l1 hS'; (try k_lt l1)))
local macro_rules | `(tactic| walk_at "call ref") => `(tactic| (k_here; (with_reducible show wpAny _ _ (call (Value.ref 509) _) _ _ _); k_dflt (refine' line_use ⟨?kB, ?kF, ?kX, ?kN, ?kT, ?kk, ?kA, ?kh, ?kd, ?ku⟩ ?zs ?zr ?zx ?_; (case kF => k_asm); (case kB => k_asm); (case kX => k_asm); (case kN => k_asm); (case kT => k_asm); (case kA => exact rfl); (case kk => exact rfl); (case kh => exact rfl); (case kd => ktr_room); (case ku => ktr_units); (case zs => with_reducible assumption); (case zr => with_reducible assumption); (case zx => with_reducible assumption); k_whole); intro t' h' tk' F' N'))
local macro_rules | `(tactic| walk_at "call ref") => `(tactic| (k_here; (with_reducible show wpAny _ _ (call (Value.ref 124) _) _ _ _); (with_reducible rename Kit _ _ _ _ _ _ _ _ _ => kkit); k_dflt (refine' par_use (Kit.par kkit _ ?zx) (Kit.mono kkit) ⟨?kB, ?kF, ?kX, ?kN, ?kT, ?kk, ?kA, ?kh, ?kd, ?ku⟩ ?zm ?zd ?zl ?_; (case kF => k_asm); (case kB => k_asm); (case kX => k_asm); (case kN => k_asm); (case kT => k_asm); (case kA => exact rfl); (case kk => exact rfl); (case kh => exact rfl); (case kd => ktr_room); (case ku => ktr_units); (case zx => assumption); (case zm => k_mem); (case zd => assumption); (case zl => assumption); k_whole); intro x' h' tk' led' F' N' E' M'))
local macro_rules | `(tactic| walk_at "call ref") => `(tactic| (k_here; (with_reducible show wpAny _ _ (call (Value.ref 542) _) _ _ _); k_dflt (refine' due_use ⟨?kB, ?kF, ?kX, ?kN, ?kT, ?kk, ?kA, ?kh, ?kd, ?ku⟩ ?zm ?zs ?zb ?zk ?_; (case kF => k_asm); (case kB => k_asm); (case kX => k_asm); (case kN => k_asm); (case kT => k_asm); (case kA => exact rfl); (case kk => exact rfl); (case kh => exact rfl); (case kd => ktr_room); (case ku => ktr_units); (case zm => first | k_mem | exact Ext.sub (by assumption) _ (by assumption)); (case zs => with_reducible assumption); (case zb => with_reducible assumption); (case zk => with_reducible assumption); k_whole); intro r' h' tk' tl' F' N' off' rd'))
local macro_rules | `(tactic| walk_at "subscriptTail") => `(tactic| (k_here; (with_reducible show wpAny _ _ (subscriptTail _ _ (Value.ref _) (Value.int _ _)) _ _ _); (with_unfolding_all refine' item_txt ?k1 ?k2 ?k3 ?k4 ?k5 ?_ ?k6 ?k7; (case k1 => exact News.isList (by k_asm) (by k_mem)); (case k2 => with_reducible assumption); (case k3 => first | omega | decide); (case k4 => first | decide | omega); (case k5 => first | decide | omega); (case k6 => with_unfolding_all rfl); (case k7 => intro _; with_unfolding_all rfl); k_whole); intro _))
local macro_rules | `(tactic| walk_at "subscriptTail") => `(tactic| (k_here; (with_reducible show wpAny _ _ (subscriptTail _ _ (Value.ref _) (Value.int _ _)) _ _ _); (with_reducible rename TxtF _ _ _ => ktf); (with_unfolding_all refine' head_item ktf ?k1 ?k2 ?k3 ?k4 ?k5 ?_ ?k6 ?k7; (case k1 => k_asm); (case k2 => k_mem); (case k3 => exact .cons _ _ (.cons _ _ (.cons _ _ .nil))); (case k4 => first | decide | exact (fmod_lt (by decide)).1); (case k5 => first | decide | exact (fmod_lt (by decide)).2); (case k6 => with_unfolding_all rfl); (case k7 => intro _; with_unfolding_all rfl); k_whole); intro _ _ _ _))
local macro_rules | `(tactic| walk_at "subscriptTail") => `(tactic| (k_here; (with_reducible show wpAny _ _ (subscriptTail _ _ (Value.ref 487) (Value.int _ _)) _ _ _); k_dflt (refine' kinds_list ?F ?X ?a ?b ?_ ?d; (case F => k_asm); (case X => k_asm); (case a => assumption); (case b => assumption); (case d => with_unfolding_all rfl))))
local macro_rules | `(tactic| walk_at "subscriptTail") => `(tactic| (k_here; (with_reducible show wpAny _ _ (subscriptTail _ _ (Value.ref (kdAddr _)) (Value.int _ _)) _ _ _); k_dflt (refine' kinds_item ?F ?X ?a ?b ?qa ?qb ?_ ?d; (case F => k_asm); (case X => k_asm); (case a => assumption); (case b => assumption); (case qa => first | decide | exact (fmod_lt (by decide)).1); (case qb => first | decide | exact (fmod_lt (by decide)).2); (case d => with_unfolding_all rfl)); intro _ _ _))
local macro_rules | `(tactic| walk_at "call builtin:len") => `(tactic| (k_here; (with_reducible show wpAny _ _ (call (Value.builtin "len") [Value.ref _]) _ _ _); k_dflt (refine' row_len ?k1 ?k2 ?k3 ?k4 ?_; (case k1 => k_asm); (case k2 => k_mem); (case k3 => with_reducible assumption); (case k4 => with_reducible assumption); k_whole)))
local macro_rules | `(tactic| walk_at "subscriptTail") => `(tactic| (k_here; (with_reducible show wpAny _ _ (subscriptTail _ _ (Value.ref _) (Value.int _ _)) _ _ _); (with_unfolding_all refine' row_item ?k1 ?k2 ?k3 ?k4 ?k5 ?k6 ?_ ?k7 ?k8; (case k1 => k_asm); (case k2 => k_mem); (case k3 => with_reducible assumption); (case k4 => with_reducible assumption); (case k5 => first | decide | omega); (case k6 => omega); (case k7 => with_unfolding_all rfl); (case k8 => intro _; with_unfolding_all rfl); k_whole); intro _ _))
local macro_rules | `(tactic| walk_at "binaryOp Add str str") => `(tactic| ((refine KOpn.add ?sz ?_); (case sz => (simp only [PySem.Str.length_append, ll_comma, ll_nil, ll_P, ll_p]); omega); intro _ _ _))
local macro_rules | `(tactic| walk_at "call builtin:str.join") => `(tactic| (k_here; k_dflt (refine p_join (News.isList (by k_asm) (by k_mem)) (by assumption) (by decide) (by assumption) rfl ?_); intro _ _))
local macro_rules | `(tactic| walk_at "call builtin:str.lower") => `(tactic| (k_here; k_dflt (refine lower_use (by omega) ?_); intro _ _))
local macro_rules | `(tactic| walk_at "eval Name") => `(tactic| (k_here; k_dflt (refine' nameX_L ?F ?v ?_ ?a ?b; (case F => k_asm); (case a => rfl); (case b => rfl); (case v => assumption); k_whole)))
local macro_rules | `(tactic| walk_at "storeName") => `(tactic| ((with_reducible rename St _ _ _ _ _ _ _ _ _ _ _ => kst); k_here; k_dflt (refine' storeX_L (St.F kst) (St.N kst) ?_ ?a ?b; (case a => rfl); (case b => rfl); k_whole); intro h' F' N'; (have S' := St.same kst F' N'); clear kst))
local macro_rules | `(tactic| walk_at "call builtin:list.append") => `(tactic| ((with_reducible rename St _ _ _ _ _ _ _ _ _ _ _ => kst); k_here; (with_reducible show wpAny _ _ (call (Value.builtin "list.append") [Value.ref _, _]) _ _ _); k_dflt (first | refine app_told kst ?sz ?_ | refine app_due kst ?sz ?_); (case sz => ((try simp only [List.length_append, List.length_cons, List.length_nil]); omega)); intro h' S'; clear kst; (have F' := St.F S'); (have N' := St.N S')))
local macro_rules | `(tactic| walk_at "getMethod ref") => `(tactic| ((with_reducible rename St _ _ _ _ _ _ _ _ _ _ _ => kst); k_here; (with_reducible show wpAny _ _ (getMethod (Value.ref _) (Str.ofString "render") _) _ _ _); (with_reducible rename Kit _ _ _ _ _ _ _ _ _ => kkit); k_dflt (refine render_use kkit kst (by k_asm) (by assumption) ?_); intro q' h' S' X'; clear kst; (have F' := St.F S'); (have N' := St.N S')))
local macro_rules | `(tactic| walk_at "call ref") => `(tactic| ((with_reducible rename St _ _ _ _ _ _ _ _ _ _ _ => kst); k_here; (with_reducible show wpAny _ _ (call (Value.ref _) [Value.bool true, Value.bool true, Value.bool false]) _ _ _); (with_reducible rename Kit _ _ _ _ _ _ _ _ _ => kkit); k_dflt (refine' ren_use kkit kst ⟨?kB, ?kF, ?kX, ?kN, ?kT, ?kk, ?kA, ?kh, ?kd, ?ku⟩ ?zq ?zm ?_; (case kF => exact St.F kst); (case kB => k_asm); (case kX => k_asm); (case kN => exact St.N kst); (case kT => k_asm); (case kA => exact rfl); (case kk => exact rfl); (case kh => exact rfl); (case kd => ktr_room); (case ku => ktr_units); (case zq => exact .head _); (case zm => exact Kit.mono kkit _ _ _ (by assumption) (Ext.sub (by assumption))); k_whole); intro t' h' tk' S'; clear kst; (have F' := St.F S'); (have N' := St.N S')))
local macro_rules | `(tactic| walk_at "call ref") => `(tactic| ((with_reducible rename St _ _ _ _ _ _ _ _ _ _ _ => kst); k_here; (with_reducible show wpAny _ _ (call (Value.ref 509) _) _ _ _); k_dflt (refine' line_use ⟨?kB, ?kF, ?kX, ?kN, ?kT, ?kk, ?kA, ?kh, ?kd, ?ku⟩ ?zs ?zr ?zx ?_; (case kF => exact St.F kst); (case kB => k_asm); (case kX => k_asm); (case kN => exact St.N kst); (case kT => k_asm); (case kA => exact rfl); (case kk => exact rfl); (case kh => exact rfl); (case kd => ktr_room); (case ku => ktr_units); (case zs => with_reducible assumption); (case zr => with_reducible assumption); (case zx => with_reducible assumption); k_whole); intro t' h' tk' F' N'; (have S' := St.same kst F' N'); clear kst))
set_option maxRecDepth 100000 in
set_option maxHeartbeats 8000000 in
theorem lawX : PySem.Challenge.rw_ez0290_01.Holds := hd (by
  w_top off
  k_with_none
  k_fill
  intro w s₀ s₁ mg mb G Y fa o pm cd doc dV kV ho hd hcd hD hmg hg args vals as hpre hlay hrd hwl hlo
  have KX := kIn_of Y
  refine Ground.open G ?_
  intro T B D TE TW
  try (refine guard_noD D (by decide +kernel) ?_; clear D)
  have TA := at_of_top T
  obtain ⟨_, _, he, B0⟩ := based_of_top T rfl hmg ho hd
  have he' : cd = _ := he
  subst he'
  clear he hmg
  wrow_args hpre hlay hrd hwl hlo
  rename_i xs _ _ _ _ _ _ _ l vs _ hL hra hW hR hI _ hlen _
  clear hra hW hR
  have he := Dflts.none hD rfl; subst he
  refine wpC_call ?_
  refine callC_fullW (binds := [(Str.ofString "script", .ref l)]) (by decide) ho hd (Top.nolimit T) hcd (BindsTo.of_eq rfl) (locs rfl) (fun h₁ F => ?_) rfl rfl rfl (by decide)
  have N0 : News s₁.heap s₁.heap.objs.size h₁ [] := News.nil
  have K0 := below_caller s₁.heap
  clear hd TA B TE TW hD hcd
  refine wpC_execs_app (l₁ := [_, _, _]) (l₂ := _ :: _) ?_
  k_steps
  dsimp only
  refine wpC_execs_cons (wpC_For (wpC_of ?_))
  k_steps
  rename_i tk0 tA _ _ _ _ dA _ lt hAm _ oM lo hdM l2 _ tT h8 F8 N8 l1
  have hdM' : oM.IsDictOf (PySem.strKind PySem.Challenge.rw_ez0290_01.row.prog w) kvM := hdM
  refine law_start (oM := oM) rfl rfl rfl F8 N8 l1 l2 lt ⟨rfl, rfl, rfl, rfl⟩ ?step ?fin
  case fin =>
    intro h' tk' ⟨m, tvs, dvs, tn, dn, D, ds, S, r1, r2, ⟨ps, hps⟩, b1, b2, mt, md⟩
    have F' := S.F
    have N' := S.N
    clear F8 N8
    dsimp only
    refine wpC_of ?_
    iterate 5 walk1
    refine eq_lists S r1 r2 hps (by decide) (by ktr_units) ?_
    dsimp only
    exact GoodW.toG (goodW_bool F' hg (raisesW_false (by wrow_none_raised)) (by wrow_post))
  case step =>
    rintro tI i v h' tk' hv ⟨m, tvs, dvs, tn, dn, D, ds, oI, S, c1, c2, c3, hoM, ⟨oT, nT, c5, c6, c7⟩, r1, r2, ⟨ps, hps⟩, b1, b2, ⟨mt, md, mm, ms⟩, mk⟩
    obtain ⟨kv, kt, rfl, k0, k30, hi4⟩ := tup4 hv
    clear F8 N8 hv hdM
    have F' := S.F
    have N' := S.N
    have hom0 : (hAm.objs.size, oM) ∈ (tA, W.listOf tvs.toArray tn) :: (dA, W.listOf dvs.toArray dn) :: (tI, oI) :: D := .tail _ (.tail _ (.tail _ hoM))
    have ht0 : (tA, W.listOf tvs.toArray tn) ∈ (tA, W.listOf tvs.toArray tn) :: (dA, W.listOf dvs.toArray dn) :: (tI, oI) :: D := .head _
    have hd0 : (dA, W.listOf dvs.toArray dn) ∈ (tA, W.listOf tvs.toArray tn) :: (dA, W.listOf dvs.toArray dn) :: (tI, oI) :: D := .tail _ (.head _)
    have HS : Hold (St s₁.heap s₁.heap.objs.size m tA dA tvs dvs tn dn ((tI, oI) :: D) h') := S
    have hlen' : xs.length ≤ 63 := by omega
    have hlv : vs.length = xs.length := hI.length
    refine wpC_execs_cons ?_
    refine wpC_IfCut ?_ (fun tk1 => ?_) (fun tk1 => ?_)
    rotate_left 2
    · refine wpC_execs_nil (wpC_execs_nil ?_)
      exact ⟨h', tk1, rfl, m, tvs, dvs, tn, dn, D, ds, oI, S, c1, c2, c3, hoM, ⟨oT, nT, c5, c6, c7⟩, r1, r2, ⟨ps, hps⟩, ⟨by have := b1.1; omega, b1.2⟩, ⟨by have := b2.1; omega, b2.2⟩, ⟨mt, md, mm, ms⟩, trivial⟩
    · k_steps
    clear S
    refine wpC_cut (l₁ := [_, _]) (l₂ := _ :: _) (Here s₁.heap s₁.heap.objs.size m ((tA, W.listOf tvs.toArray tn) :: (dA, W.listOf dvs.toArray dn) :: (tI, oI) :: D) s₁ V1) ?_ ?_
    · k_steps
      · refine ⟨_, _, _, _, rfl, by k_asm, by k_asm, ?_, ⟨by rfl, by rfl, by rfl, by rfl⟩, _, _, _, _, _, _, by rfl, by exact .head _, by assumption, ?_, by rfl, ?_⟩
        · walk_at "m ext2"
        · rw [List.length_take]; omega
        · exact fmod_lt (by decide)
      · refine ⟨_, _, _, _, rfl, by k_asm, by k_asm, ?_, ⟨by rfl, by rfl, by rfl, by rfl⟩, _, _, _, _, _, _, by rfl, by exact .head _, by assumption, ?_, by rfl, by decide⟩
        · walk_at "m ext2"
        · rw [List.length_take]; omega
    rintro _ ⟨h2, tk2, m2, led2, rfl, F2, N2, E2, ⟨mt2, md2, mm2, ms2⟩, rl, rvs, rns, rn, p, pt, mr, hrl, hri, hr10, mp, p0, p4⟩
    rw [mt] at mt2
    rw [md] at md2
    rw [mm] at mm2
    rw [ms] at ms2
    have hom2 := E2.sub _ hom0
    have ht2 := E2.sub _ ht0
    have hd2 := E2.sub _ hd0
    clear F' N' mk
    refine wpC_cut (l₁ := [_, _]) (l₂ := _ :: _) (Here s₁.heap s₁.heap.objs.size m2 led2 s₁ V2) ?_ ?_
    · k_steps
      all_goals refine ⟨_, _, _, _, rfl, by k_asm, by k_asm, ?_, ⟨by rfl, by rfl, by rfl, by rfl⟩, rl, rvs, rns, rn, mkOf p, _, _, _, by exact mr, by k_mem, hri, hr10, by rfl, by rfl, by assumption⟩
      all_goals (walk_at "m ext2"; done)
    clear hrl hri hr10 mr mp p0 p4
    rintro _ ⟨h3, tk3, m3, led3, rfl, F3, N3, E3, ⟨mt3, md3, mm3, ms3⟩, rl, rvs, rns, rn, mk, kd, tmk, tkd, mr, hrl, hri, hr10, mmk, mkd, hkok⟩
    rw [mt2] at mt3
    rw [md2] at md3
    rw [mm2] at mm3
    rw [ms2] at ms3
    have hom3 := E3.sub _ hom2
    have ht3 := E3.sub _ ht2
    have hd3 := E3.sub _ hd2
    clear hom2 ht2 hd2
    clear F2 N2
    refine wpC_cut (l₁ := [_, _]) (l₂ := _ :: _) (Here s₁.heap s₁.heap.objs.size m3 led3 s₁ V3) ?_ ?_
    · k_steps
      refine words_src rfl (News.isList (by k_asm) (.head _)) (by assumption) ?_ (by k_asm) (by k_asm) KX T rfl (fun _ => by with_unfolding_all rfl) (fun _ => by with_unfolding_all rfl) ?_
      · rw [List.length_take]; omega
      · intro Dw ys ws nw h5 tk5 F5 N5 off5 hS5 hg5 hl5
        dsimp only
        rw [List.length_take, List.length_drop] at hl5
        rcases hS5 with _ | ⟨x5, t5, hS5⟩
        · iterate 5 walk1
          refine words_no N5 (.head _) ?_
          intro _
          dsimp only
          k_steps
          refine ⟨_, _, _, _, rfl, by k_asm, by k_asm, ?_, ⟨by rfl, by rfl, by rfl, by rfl⟩, rl, rvs, rns, rn, mk, kd, _, _, _, _, [Str.ofString "7"], _, by exact mr, by k_mem, hri, hr10, by exact mmk, by exact mkd, hkok, by rfl, by exact .head _, by repeat constructor, by decide, by decide, by decide +kernel⟩
          walk_at "m ext2"
        · iterate 5 walk1
          refine words_yes N5 (.head _) hS5 ?_ ?_
          · have hl6 := hl5
            rw [List.length_cons] at hl6
            omega
          intro _
          dsimp only
          k_steps
          refine ⟨_, _, _, _, rfl, by k_asm, by k_asm, ?_, ⟨by rfl, by rfl, by rfl, by rfl⟩, rl, rvs, rns, rn, mk, kd, _, _, _, _, _, _, by exact mr, by k_mem, hri, hr10, by exact mmk, by exact mkd, hkok, by rfl, by exact .head _, .cons x5 t5 hS5, List.cons_ne_nil _ _, by omega, hg5⟩
          walk_at "m ext2"
    clear hrl hri hr10 mr mmk mkd hkok
    rintro _ ⟨h4, tk4, m4, led4, rfl, F4, N4, E4, ⟨mt4, md4, mm4, ms4⟩, rl, rvs, rns, rn, mk, kd, tmk, tkd, wl, wvs, ws, wn, mr, hrl, hri, hr10, mmk, mkd, hkok, mw, hwl, hws, hwne, hw7, hwg⟩
    rw [mt3] at mt4
    rw [md3] at md4
    rw [mm3] at mm4
    rw [ms3] at ms4
    have hom4 := E4.sub _ hom3
    have ht4 := E4.sub _ ht3
    have hd4 := E4.sub _ hd3
    clear hom3 ht3 hd3
    clear F3 N3
    have txt : TxtF mk kd ws := txt_of hkok hwne hwg hw7
    obtain ⟨Kl, MM, kit⟩ : ∃ Kl MM, Kit w (ExcName.means s₀.heap) mg mb mk kd ws Kl MM := kit_of hkok hwne hwg hw7
    have x1 := txt.kd5
    have x2 := txt.jn
    have x3 := txt.jw
    have x4 := txt.mk5
    have x5 := txt.lo5
    have x6 := txt.rl
    have x7 := txt.hl
    refine wpC_cut (l₁ := [_]) (l₂ := _ :: _) (Here s₁.heap s₁.heap.objs.size m4 led4 s₁ (V4 mk kd ws)) ?_ ?_
    · k_steps
      · refine ⟨_, _, _, _, rfl, by k_asm, by k_asm, ?_, ⟨by rfl, by rfl, by rfl, by rfl⟩, rl, rvs, rns, rn, _, _, _, wl, wvs, wn, by exact mr, by k_mem, hri, hr10, by exact mmk, by exact mkd, by exact mw, by k_mem, hws, by rw [← txt.rest1 (by assumption)]; rfl⟩
        walk_at "m ext2"
      · refine ⟨_, _, _, _, rfl, by k_asm, by k_asm, ?_, ⟨by rfl, by rfl, by rfl, by rfl⟩, rl, rvs, rns, rn, _, _, _, wl, wvs, wn, by exact mr, by k_mem, hri, hr10, by exact mmk, by exact mkd, by exact mw, by k_mem, hws, by rw [← txt.rest0 (by assumption)]; rfl⟩
        walk_at "m ext2"
    clear hrl hri hr10 mr mmk mkd mw hwl hws
    rintro _ ⟨h5, tk5, m5, led5, rfl, F5, N5, E5, ⟨mt5, md5, mm5, ms5⟩, rl, rvs, rns, rn, tmk, tkd, trs, wl, wvs, wn, mr, hrl, hri, hr10, mmk, mkd, mw, hwl, hws, mrs⟩
    rw [mt4] at mt5
    rw [md4] at md5
    rw [mm4] at mm5
    rw [ms4] at ms5
    have hom5 := E5.sub _ hom4
    have ht5 := E5.sub _ ht4
    have hd5 := E5.sub _ hd4
    clear hom4 ht4 hd4
    clear F4 N4
    refine wpC_cut (l₁ := [_, _]) (l₂ := _ :: _) (Here s₁.heap s₁.heap.objs.size m5 led5 s₁ (V5 mk kd ws)) ?_ ?_
    · k_steps
      all_goals refine ⟨_, _, _, _, rfl, by k_asm, by k_asm, ?_, ⟨by rfl, by rfl, by rfl, by rfl⟩, _, _, _, _, _, wl, wvs, wn, by exact mmk, by exact mkd, by exact mw, by k_mem, hws, by exact mrs, by assumption, by rfl⟩
      all_goals (walk_at "m ext2"; done)
    clear hrl hri hr10 mr mmk mkd mw hwl hws mrs
    rintro _ ⟨h6, tk6, m6, led6, rfl, F6, N6, E6, ⟨mt6, md6, mm6, ms6⟩, hx, tmk, tkd, trs, tln, wl, wvs, wn, mmk, mkd, mw, hwl, hws, mrs, hxm, mln⟩
    rw [mt5] at mt6
    rw [md5] at md6
    rw [mm5] at mm6
    rw [ms5] at ms6
    have hom6 := E6.sub _ hom5
    have ht6 := E6.sub _ ht5
    have hd6 := E6.sub _ hd5
    clear hom5 ht5 hd5
    clear F5 N5
    refine wpC_cut (l₁ := [_, _]) (l₂ := _ :: _) (Here s₁.heap s₁.heap.objs.size m6 led6 s₁ (V6 tA dA mk kd ws MM)) ?_ ?_
    · k_steps
      refine ⟨_, _, _, _, rfl, by k_asm, by k_asm, ext_app (by assumption) (by assumption), ⟨by rfl, by rfl, by rfl, by rfl⟩, _, _, _, _, _, wl, wvs, wn, by exact mmk, by exact mrs, by rfl, by rfl, Kit.mono (by assumption) _ _ _ (by assumption) (fun p hp => List.mem_append_right _ hp), List.mem_append_right _ (Ext.sub (by assumption) _ hwl), hws, by assumption, v6_off (by assumption) (by assumption) ht6 hd6⟩
    clear mmk mkd mw hwl hws mrs hxm mln
    rintro _ ⟨h7, tk7, m7, led7, rfl, F7, N7, E7, ⟨mt7, md7, mm7, ms7⟩, x, r, tmk, trs, tlr, wl, wvs, wn, mmk, mrs, mmsg, mone, hMM, hwl, hws, hrd, htl⟩
    rw [mt6] at mt7
    rw [md6] at md7
    rw [mm6] at mm7
    rw [ms6] at ms7
    have EE := Ext.trans E2 (Ext.trans E3 (Ext.trans E4 (Ext.trans E5 (Ext.trans E6 E7))))
    obtain ⟨tl7, e7, S7, X7⟩ := st_open HS F7 N7 EE
    subst e7
    have hM7 := kit.off _ _ _ _ _ _ _ _ _ hMM b1.2 b2.2
    have rd7 := rd_open hrd htl hwl hws hwne b1.2 b2.2
    have r17 := RdAll.mono (fun p hp => X7.sub p (.tail _ hp)) r1
    have r27 := RdAll.mono (fun p hp => X7.sub p (.tail _ hp)) r2
    clear hMM hrd htl hwl hws r1 r2 N7 F7 HS E2 E3 E4 E5 E6 E7 EE hom6 ht6 hd6 N6 F6
    generalize tl7 ++ (tI, oI) :: D = D7 at S7 X7 hM7 rd7 r17 r27
    have F' := S7.F
    have N' := S7.N
    have b11 := b1.1
    have b21 := b2.1
    refine wpC_execs_cons ?_
    refine wpC_append S7.F S7.N (.head _) mt7 ?_ rfl rfl (by decide) rfl rfl rfl rfl
    refine wpC_Call (wpC_of ?_) rfl
    k_steps
    refine wpC_callF ?_ rfl
    refine wpC_args_cons (wpC_of ?_) rfl
    k_steps
    refine wpC_args_nil ⟨fn_obj (KX.keeps S7.F.keep) fn_521, ?_⟩
    refine read_app kit S7 ⟨K0, S7.F, KX, S7.N, T, rfl, rfl, rfl, by ktr_room, by ktr_units⟩ KX T hM7 b1.2 b2.2 (by omega) fun h8 tk8 tl8 r8 S8 X8 rd8 => ?_
    dsimp only
    have hM8 := kit.mono _ _ _ hM7 X8.sub
    have rdm8 := rd7.mono X8.sub
    have r18 := (r17.mono X8.sub).append (.cons rd8 .nil)
    have r28 := r27.mono X8.sub
    have XX8 := Ext.trans X7 X8
    clear S7 F' N' hM7 rd7 r17 r27 X7 X8
    generalize tl8 ++ D7 = D8 at S8 hM8 rd8 rdm8 r18 r28 XX8
    have F' := S8.F
    have N' := S8.N
    have hH0 : Str.ofString "P" ++ mk ∈ headsOf mk := .head _
    refine wpC_execs_app (l₁ := [_, _, _, _]) (l₂ := _ :: _) ?_
    k_steps
    dsimp only
    (with_reducible rename St _ _ _ _ _ _ _ _ _ _ _ => S9)
    (rename Ext D8 _ => X9)
    obtain ⟨m9, tv9, dv9, D9, hm9, htv, hdv, S9, X9⟩ : ∃ m9 tv9 dv9 D9, m9 = _ ∧ tv9 = _ ∧ dv9 = _ ∧ St _ _ m9 _ _ tv9 dv9 _ _ D9 _ ∧ Ext D8 D9 := ⟨_, _, _, _, rfl, rfl, rfl, S9, X9⟩
    have mt9 : m9 (Str.ofString "told") = some (.ref tA) := by rw [hm9]; exact mt7
    have md9 : m9 (Str.ofString "due") = some (.ref dA) := by rw [hm9]; exact md7
    have mm9 : m9 (Str.ofString "makers") = some (.ref hAm.objs.size) := by rw [hm9]; exact mm7
    have ms9 : m9 (Str.ofString "script") = some (.ref l) := by rw [hm9]; exact ms7
    have mone9 : m9 (Str.ofString "one") = some r := by rw [hm9]; exact mone
    obtain ⟨ta9, mag9⟩ : ∃ t, m9 (Str.ofString "again") = some (.str (lineB (Str.ofString "P" ++ mk ++ restT mk kd ws)) t) := ⟨_, by rw [hm9]; rfl⟩
    have hom9 : (hAm.objs.size, oM) ∈ D9 := X9.sub _ (XX8.sub _ (.tail _ hoM))
    obtain ⟨a8, e8⟩ := due_ref rd8
    obtain ⟨a0, e0⟩ := due_ref rdm8
    have H1 : HeadL tv9 := by rw [htv]; exact headL3 b1.2 e8
    have H2 : HeadL dv9 := by rw [hdv]; exact headL3 b2.2 e0
    have r19 : RdAll D9 tv9 (ds ++ [dueD mk kd ws] ++ [.str (lineB (Str.ofString "P" ++ mk ++ restT mk kd ws))]) := by rw [htv]; exact (r18.mono X9.sub).append (.cons (.str _ _) .nil)
    have r29 : RdAll D9 dv9 (ds ++ [dueD mk kd ws] ++ [.str (lineB (Str.ofString "P" ++ mk ++ restT mk kd ws))]) := by rw [hdv]; exact ((r28.mono X9.sub).append (.cons (rdm8.mono X9.sub) .nil)).append (.cons (.str _ _) .nil)
    have l19 : tv9.length ≤ 3 * i + 2 := by rw [htv]; simp only [List.length_append, List.length_cons, List.length_nil]; omega
    have l29 : dv9.length ≤ 3 * i + 2 := by rw [hdv]; simp only [List.length_append, List.length_cons, List.length_nil]; omega
    have rdm9 := rdm8.mono X9.sub
    have XX9 := Ext.trans XX8 X9
    have F' := S9.F
    have N' := S9.N
    refine wpC_execs_cons ?_
    refine wpC_append S9.F S9.N (.head _) mt9 ?_ rfl rfl (by decide) rfl rfl rfl rfl
    refine wpC_Call (wpC_of ?_) rfl
    k_steps
    refine wpC_callF ?_ rfl
    refine wpC_args_cons (wpC_of ?_) rfl
    k_steps
    rename_i x10 h10 tk10 led10 F10 N10 E10 M10
    (with_reducible rename Kit _ _ _ _ _ _ _ _ _ => kit)
    refine wpC_args_nil ⟨fn_obj (KX.keeps F10.keep) fn_521, ?_⟩
    obtain ⟨tl10, e10, S10, X10⟩ := st_open S9 F10 N10 E10
    subst e10
    have hM10 := kit.off tl10 D9 tA dA tv9 dv9 (tn + 1 + 1) (dn + 1 + 1) x10 M10 H1 H2
    refine read_app kit S10 ⟨K0, S10.F, KX, S10.N, T, rfl, rfl, rfl, by ktr_room, by ktr_units⟩ KX T hM10 H1 H2 (by omega) fun h11 tk11 tl11 r11 S11 X11 rd11 => ?_
    dsimp only
    have X12 := Ext.trans X10 X11
    have r111 := (r19.mono X12.sub).append (.cons rd11 .nil)
    have r211 := (r29.mono X12.sub).append (.cons (rdm9.mono X12.sub) .nil)
    obtain ⟨a11, e11⟩ := due_ref rd11
    clear S9 S10 F' N' F10 N10 E10 M10 hM10 X10 X11 rd11 r19 r29
    generalize tl11 ++ (tl10 ++ D9) = D11 at S11 X12 r111 r211
    have F' := S11.F
    have N' := S11.N
    refine wpC_of ?_
    k_steps
    (with_reducible rename St _ _ _ _ _ _ _ _ _ _ _ => S12)
    dsimp only
    refine wpC_execs_nil ?_
    refine ⟨_, _, rfl, turn_end S12 (Ext.trans XX9 X12) c1 c2 c3 hoM ⟨oT, nT, c5, c6, c7⟩ r111 r211 ?_ ⟨?_, headL_app H1 e11⟩ ⟨?_, headL_app H2 e0⟩ ⟨mt9, md9, mm9, ms9⟩⟩
    · exact py_turn hps txt hkok hwg
    · simp only [List.length_append, List.length_cons, List.length_nil]; omega
    · simp only [List.length_append, List.length_cons, List.length_nil]; omega)
end Mine
end

set_option maxRecDepth 100000 in
set_option maxHeartbeats 8000000 in
theorem PySem.Challenge.cw_ez0290_01_holds : PySem.Challenge.rw_ez0290_01.Holds := by
  exact Mine.lawX
